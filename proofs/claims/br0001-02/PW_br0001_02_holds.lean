import PyProof.Rows.All
import Wide.All
import OpenK.AllK
import Wide.FinOn
import PySem.Challenge.RW_br0001_02
set_option Elab.async false

section
open PySem PySem.W PyProof.Rows
set_option maxRecDepth 100000
namespace Mine

/-! ## h. The end of an iterator while an exception is being handled -/
/-- nothing is being handled, or an exception that has no context -/
def HX (A : Around) (h : Heap) : Prop := A.handled = none ∨ ∃ x o vs, A.handled = some (.ref x) ∧ h.get? x = some o ∧ o.data = .fields vs ∧ vs[2]? = some Value.none
theorem HX.keep {A : Around} {h h' : Heap} (x : HX A h) (k : ∀ b o, h.get? b = some o → h'.get? b = some o) : HX A h' := by
  rcases x with x | ⟨a, o, vs, h1, h2, h3, h4⟩
  · exact .inl x
  · exact .inr ⟨a, o, vs, h1, k a o h2, h3, h4⟩
theorem entry_unchain : entryFor table "proto.unchain" = some Builtin.«proto.unchain» := entryFor_of_fast (by kernel_rfl)

section
variable {prog : Program} {w : World} {A : Around} {E : Value → Shared → Prop} {s : Shared}
theorem raise_stop {α : Type} {Q : α → Shared → Prop} (hx : HX A s.heap) (h : ∀ h' e, (∀ b o, s.heap.get? b = some o → h'.get? b = some o) → (∃ o, h'.get? e = some o ∧ o.cls = .type "StopIteration") → E (.ref e) { s with heap := h' }) :
    wpAny (model prog w) A (newExc (.type "StopIteration") [] >>= fun e => (raiseNew e : Sem α)) Q E s := by
  refine wpAny_bind ?_
  simp only [newExc, newTuple]
  refine wpAny_bind (wpAny_newObj_type ?_ (by size_fits))
  refine wpAny_bind (m := firstArgMember _ _) (wpAny_of_eq (a := Value.none) (by first | rfl | (simp only [firstArgMember]; rfl)) ?_)
  refine wpAny_newObj_type ?_ (by size_fits)
  simp only [raiseNew]
  refine wpAny_bind (wpAny_handled ?_)
  rcases hx with hh | ⟨x, o, vs, hh, hg, hd, h2⟩
  · rw [hh]
    refine wpAny_bind (wpAny_pure (wpAny_throw ?_))
    exact h _ _ (fun b o q => Heap.get?_push_of_some _ (Heap.get?_push_of_some _ q)) ⟨_, Heap.get?_push_size _ rfl, rfl⟩
  · rw [hh]
    have lt := Heap.lt_size hg
    have ne : x ≠ (s.heap.push { cls := .type "tuple", data := .seq #[] }).objs.size := by rw [Heap.size_push]; exact Nat.ne_of_lt (Nat.lt_succ_of_lt lt)
    generalize hE : (s.heap.push { cls := .type "tuple", data := .seq #[] }).objs.size = ea at ne ⊢
    generalize hO : (#[.ref s.heap.objs.size, .none, .none, .none, .bool false, .none] ++ ownMembersOf (.type "StopIteration") [] : Array Value) = ws
    have ws2 : 2 < ws.size := by rw [← hO, Array.size_append]; exact Nat.lt_of_lt_of_le (by simp : 2 < 6) (Nat.le_add_right _ _)
    have hnew : ((s.heap.push { cls := .type "tuple", data := .seq #[] }).push { cls := .type "StopIteration", data := .fields ws }).get? ea = some { cls := .type "StopIteration", data := .fields ws } := by
      rw [← hE]; exact Heap.get?_push_size _ rfl
    have hg' : ((s.heap.push { cls := .type "tuple", data := .seq #[] }).push { cls := .type "StopIteration", data := .fields ws }).get? x = some o := Heap.get?_push_of_some _ (Heap.get?_push_of_some _ hg)
    have hne : ∀ b o, s.heap.get? b = some o → b ≠ ea := fun b o q z => by
      have := Heap.lt_size q
      rw [z, ← hE, Heap.size_push] at this
      exact absurd this (Nat.not_lt.mpr (Nat.le_succ _))
    dsimp only
    rw [if_pos (show (Value.ref x != Value.ref ea) = true by simpa using ne)]
    refine wpAny_bind (wpAny_holding (wpAny_runValue (codeAny_builtin entry_unchain ?_)))
    show wpAny _ _ (field (.ref x) 2 >>= _) _ _ _
    refine wpAny_bind (wpAny_field hg' hd h2 ?_)
    rw [if_pos (by rfl)]
    refine wpAny_bind (wpAny_pure (wpAny_pure ?_))
    show wpAny _ _ (setField (.ref ea) 2 (.ref x) >>= _) _ _ _
    refine wpAny_bind (wpAny_setField hnew rfl ws2 (wpAny_throw (h _ _ (fun b o q => ?_) ⟨_, Heap.get?_update_self _ hnew (Obj.isFreed_of_fields (Obj.data_mapFields rfl _)), Obj.cls_mapFields ..⟩)))
    rw [Heap.get?_update_other _ _ (Ne.symm (hne b o q))]
    exact Heap.get?_push_of_some _ (Heap.get?_push_of_some _ q)

/-- the end of a list's iterator -/
theorem next_list_end {it l : Addr} {i : Nat} {items : Array Value} {Q : Option Value → Shared → Prop} (hx : HX A s.heap) (hit : s.heap.IsListIter it l i) (hl : s.heap.IsList l items) (hi : items[i]? = none)
    (hQ : ∀ h', Heap.ExtBut it s.heap h' → Q none { s with heap := h' }) : wpAny (model prog w) A (pyNext (.ref it)) Q E s := by
  obtain ⟨o, ho, hc, hd⟩ := id hit
  obtain ⟨ol, hol, _, nl, hdl⟩ := hl
  unfold pyNext
  refine wpAny_bind (wpAny_attempt (wpAny_callSpecial?_slot (name := PySem.Str.ofString "__next__") hit.typeIs slot_listiter_next
    (wpAny_call_entry slot_listiter_next hit.typeIs entry_listiter_next ?_ (args_listiter_next _))))
  show wpAny _ _ (field (.ref it) 0 >>= _) _ _ s
  refine wpAny_bind (wpAny_field ho hd (x := .ref l) rfl ?_)
  show wpAny _ _ (if (Value.ref l == Value.none) = true then _ else _) _ _ s
  rw [if_neg (show ¬ ((Value.ref l == Value.none) = true) from Bool.false_ne_true)]
  show wpAny _ _ (field (.ref it) 1 >>= _) _ _ s
  refine wpAny_bind (wpAny_field ho hd (x := .int i 0) rfl ?_)
  show wpAny _ _ (seqItems? (.ref l) >>= _) _ _ s
  refine wpAny_bind (wpAny_seqItems hol hdl ?_)
  simp only [Int.toNat_natCast, hi]
  have nx : ∀ x o' vs, s.heap.get? x = some o' → o'.data = .fields vs → vs[2]? = some Value.none → x ≠ it := fun x o' vs q1 q2 q3 z => by
    subst z
    rw [ho] at q1; cases q1
    rw [hd] at q2; cases q2
    simp at q3
  refine wpAny_bind (wpAny_rule (wpAny_bind (wpAny_setField ho hd (by simp) ?_)))
  refine raise_stop ?_ fun h' e keep he => ?_
  · rcases hx with hx | ⟨x, o', vs, q1, q2, q3, q4⟩
    · exact .inl hx
    · exact .inr ⟨x, o', vs, q1, by rw [Heap.get?_update_other _ _ (Ne.symm (nx x o' vs q2 q3 q4))]; exact q2, q3, q4⟩
  · obtain ⟨oe, he1, he2⟩ := he
    refine wpAny_bind (wpAny_isInstance (T := "StopIteration") (b := true) ⟨oe, he1, he2⟩ isSubtype_stop ?_)
    exact wpAny_pure (hQ _ fun b o' nb q => keep b o' (by rw [Heap.get?_update_other _ _ (Ne.symm nb)]; exact q))
/-- the end of a range's iterator -/
theorem next_range_end {it : Addr} {x left step : Int} {Q : Option Value → Shared → Prop} (hx : HX A s.heap) (hit : IsRangeIter s.heap it x left step) (hleft : left ≤ 0)
    (hQ : ∀ h', (∀ b o, s.heap.get? b = some o → h'.get? b = some o) → Q none { s with heap := h' }) : wpAny (model prog w) A (pyNext (.ref it)) Q E s := by
  have hT : s.TypeIs (.ref it) "range_iterator" := ⟨_, hit, rfl⟩
  unfold pyNext
  refine wpAny_bind (wpAny_attempt (wpAny_callSpecial?_slot (name := PySem.Str.ofString "__next__") hT F.slot_range_iterator_next
    (wpAny_call_entry F.slot_range_iterator_next hT F.entry_range_iterator_next ?_ (F.args_range_iterator_next_1 _))))
  show wpAny _ _ (field (.ref it) 0 >>= _) _ _ s
  refine wpAny_bind (wpAny_field hit rfl (x := rawInt x) rfl ?_)
  show wpAny _ _ (field (.ref it) 1 >>= _) _ _ s
  refine wpAny_bind (wpAny_field hit rfl (x := rawInt left) rfl ?_)
  show wpAny _ _ (field (.ref it) 2 >>= _) _ _ s
  refine wpAny_bind (wpAny_field hit rfl (x := rawInt step) rfl ?_)
  show wpAny _ _ (if left ≤ 0 then _ else _) _ _ s
  rw [if_pos hleft]
  refine wpAny_bind (wpAny_rule ?_)
  refine wpAny_bind ?_
  refine raise_stop hx fun h' e keep he => ?_
  obtain ⟨oe, he1, he2⟩ := he
  refine wpAny_bind (wpAny_isInstance (T := "StopIteration") (b := true) ⟨oe, he1, he2⟩ isSubtype_stop ?_)
  exact wpAny_pure (hQ _ keep)
end
end Mine
end

section
open PySem PySem.W PyProof.Rows
set_option maxRecDepth 100000
namespace Mine

/-! ## x. An exception on its way that has no context: the library's stations, with the third field told -/
/-- e has a traceback whose head is in flight at fl; no context -/
def TrX (h base : Heap) (e : Addr) (cls fl : Value) : Prop :=
  ∃ oe vs T oT ts, h.get? e = some oe ∧ oe.cls = cls ∧ oe.data = .fields vs ∧ vs[1]? = some (.ref T) ∧ vs[2]? = some Value.none ∧ base.get? T = none ∧ T ≠ e ∧ h.get? T = some oT ∧ oT.data = .fields ts ∧ ts[3]? = some fl
def FlyX (base : Heap) (l : List Env) (e : Addr) (cls : Value) (h : Heap) : Prop := base.StaysIn h ∧ base.get? e = none ∧ h.FunFrames base l ∧ TrX h base e cls .none
def HeldX (base : Heap) (l : List Env) (e : Addr) (cls : Value) (L : Addr) (h : Heap) : Prop := base.StaysIn h ∧ base.get? e = none ∧ h.FunFrames base l ∧ TrX h base e cls (rawInt L)
/-- the exception stands and has no context -/
def Exc (h : Heap) (e : Addr) : Prop := ∃ o vs, h.get? e = some o ∧ o.data = .fields vs ∧ vs[2]? = some Value.none
theorem TrX.exc {h base : Heap} {e : Addr} {cls fl : Value} (x : TrX h base e cls fl) : Exc h e := by
  obtain ⟨oe, vs, _, _, _, a1, _, a3, _, a5, _⟩ := x
  exact ⟨oe, vs, a1, a3, a5⟩
theorem TrX.there {h base : Heap} {e : Addr} {cls fl : Value} (x : TrX h base e cls fl) : ∃ ob, h.get? e = some ob ∧ ob.cls = cls := by
  obtain ⟨oe, _, _, _, _, a1, a2, _⟩ := x
  exact ⟨oe, a1, a2⟩
theorem FlyX.base {base B h : Heap} {l : List Env} {e : Addr} {cls : Value} (k : base.StaysIn B) (x : FlyX B l e cls h) : FlyX base l e cls h := by
  obtain ⟨f1, f2, f3, oe, vs, T, oT, ts, a1, a2, a3, a4, a5, a6, a7⟩ := x
  exact ⟨fun b o q => f1 b o (k b o q), fresh_of_stays k f2, funFrames_base k f3, oe, vs, T, oT, ts, a1, a2, a3, a4, a5, fresh_of_stays k a6, a7⟩
theorem FlyX.tail {base h : Heap} {env : Env} {l : List Env} {e : Addr} {cls : Value} (x : FlyX base (env :: l) e cls h) : FlyX base l e cls h := by
  obtain ⟨k1, k2, ⟨_, _, k3⟩, k4⟩ := x
  exact ⟨k1, k2, k3, k4⟩

section
variable {M : Model} {A : Around} {E : Value → Shared → Prop} {s : Shared} {base : Heap} {env : Env} {outer l : List Env} {e L : Addr} {cls : Value}

/-- a new head for the traceback -/
theorem entryX {oe : Obj} {vs : Array Value} {head : Value} {hadNext : Bool} {Q : Unit → Shared → Prop} (hfr : A.frames = some (env :: outer)) (hl : s.heap.FunFrames base (env :: outer)) (hf : env.frame = some L)
    (he : s.heap.get? e = some oe) (hkb : base.StaysIn s.heap) (hen : base.get? e = none) (hd : oe.data = .fields vs) (h1 : 1 < vs.size) (h2 : vs[2]? = some Value.none)
    (h : ∀ h', HeldX base (env :: outer) e oe.cls L h' → s.heap.UpToSlots h' → Q () { s with heap := h' }) :
    wpAny M A (do let a ← frameOf env; let pl ← entryPlaceOf L hadNext; let b ← EntryCells.newEntry head a .none (rawInt L) .none pl; setField (.ref e) 1 b) Q E s := by
  have hene : e ∉ (env :: outer).filterMap (·.frame) := fun hm => by
    obtain ⟨_, o, ho, hnf⟩ := hl.mem hm
    rw [he] at ho; cases ho; exact hnf vs hd
  refine wpAny_bind (wpAny_frameOf_fun hfr hl hf fun h₁ hs₁ => wpAny_bind (wpAny_entryPlaceOf fun pl hpl => ?_))
  unfold EntryCells.newEntry newFields
  refine wpAny_bind (wpAny_newObj_type ?_ (hpl.sizeOk5 _ _ _ _ _))
  generalize hN : ({ cls := .type "traceback", dict := none, data := .fields ([head, .ref L, .none, rawInt L, .none] ++ (if pl.isEmpty then List.replicate 6 Value.none else pl)).toArray } : Obj) = N
  have he₁ : h₁.get? e = some oe := (hs₁.2.1 e hene).trans he
  have kb₁ : base.StaysIn h₁ := fun b o q => (hs₁.2.1 b fun hm => by rw [(hl.mem hm).1] at q; cases q).trans (hkb b o q)
  have he₂ := Heap.get?_push_of_some (h := h₁) N he₁
  have hTe : h₁.objs.size ≠ e := Nat.ne_of_gt (Heap.lt_size he₁)
  have hd₃ := Obj.data_mapFields hd (·.setIfInBounds 1 (Value.ref h₁.objs.size))
  have he₃ := Heap.get?_update_self (Obj.mapFields (·.setIfInBounds 1 (Value.ref h₁.objs.size))) he₂ (Obj.isFreed_of_fields hd₃)
  have hT₃ : ((h₁.push N).update e (Obj.mapFields (·.setIfInBounds 1 (Value.ref h₁.objs.size)))).get? h₁.objs.size = some N := by
    rw [Heap.get?_update_other _ _ (Ne.symm hTe)]
    exact Heap.get?_push_size h₁ (by rw [← hN]; rfl)
  have keep : ∀ b o, b ≠ e → h₁.get? b = some o → ((h₁.push N).update e (Obj.mapFields (·.setIfInBounds 1 (Value.ref h₁.objs.size)))).get? b = some o := fun b o nb q => by
    rw [Heap.get?_update_other _ _ (Ne.symm nb)]
    exact Heap.get?_push_of_some _ q
  have noRec : ∀ b o, s.heap.get? b = some o → (∀ vs, o.data ≠ .fields vs) → b ≠ e := fun b o q n z => by
    rw [z, he] at q; cases q; exact n vs hd
  have up : s.heap.UpToSlots ((h₁.push N).update e (Obj.mapFields (·.setIfInBounds 1 (Value.ref h₁.objs.size)))) := fun b o q n => by
    obtain ⟨sl, hs⟩ := hs₁.2.2 b o q
    exact ⟨sl, keep b _ (noRec b o q n) hs⟩
  refine wpAny_setField he₂ hd h1 (h _ ⟨fun b o q => keep b o (fun z => by rw [z, hen] at q; cases q) (kb₁ b o q), hen, hl.of_keeps fun b o q n => ?_, ?_⟩ up)
  · obtain ⟨sl, hs⟩ := up b o q n
    exact ⟨_, hs, rfl⟩
  · refine ⟨_, _, h₁.objs.size, N, _, he₃, Obj.cls_mapFields _ _, hd₃, by simp [h1], by rw [Array.getElem?_setIfInBounds_ne (by decide)]; exact h2, kb₁.fresh, hTe, hT₃, by rw [← hN], ?_⟩
    first | (simp; done) | (rcases hpl with rfl | ⟨_, _, _, _, _, _, _, rfl⟩ <;> simp)

/-- a raise in this frame is noted -/
theorem note_madeX {hm : Heap} {args : List Value} {Q : Unit → Shared → Prop} (hfr : A.frames = some (env :: outer)) (hf : env.frame = some L) (hkb : base.StaysIn hm) (hl : hm.FunFrames base (env :: outer)) (hx : Heap.MadeExcOf hm s.heap e cls args)
    (hQ : ∀ h', HeldX base (env :: outer) e cls L h' → s.heap.UpToSlots h' → Q () { s with heap := h' }) : wpAny M A (noteFrame (.ref e) env) Q E s := by
  obtain ⟨t, he, htn, ht⟩ := hx.there
  have fresh : ∀ b, hm.get? b = none → base.get? b = none := fun b hb => by
    cases hq : base.get? b with
    | none => rfl
    | some o' => have := hkb b o' hq; rw [hb] at this; cases this
  unfold noteFrame
  simp only [hf]
  refine wpAny_bind (wpAny_field he rfl (x := .none) rfl ?_)
  rw [if_neg (by decide)]
  exact entryX hfr (hl.of_keeps fun b o hb _ => ⟨o, hx.keeps b o hb, rfl⟩) hf he (fun b o hb => hx.keeps b o (hkb b o hb)) (fresh e hx.new) rfl (by simp) rfl hQ
/-- it comes out of a call -/
theorem note_onX {Q : Unit → Shared → Prop} (hfr : A.frames = some (env :: outer)) (hf : env.frame = some L) (hfl : FlyX base (env :: outer) e cls s.heap)
    (hQ : ∀ h', HeldX base (env :: outer) e cls L h' → s.heap.UpToSlots h' → Q () { s with heap := h' }) : wpAny M A (noteFrame (.ref e) env) Q E s := by
  obtain ⟨hkb, hen, hl, oe, vs, T, oT, ts, he, rfl, hd, h1, h2, hnT, hTe, hT, hdT, h3⟩ := hfl
  unfold noteFrame
  simp only [hf]
  refine wpAny_bind (wpAny_field he hd h1 ?_)
  rw [if_pos (show (Value.ref T != Value.none) = true from by simp)]
  refine wpAny_bind (wpAny_field hT hdT h3 ?_)
  rw [if_neg (show ¬ ((Value.none == rawInt L) = true) from by simp [rawInt])]
  refine wpAny_bind (wpAny_setField hT hdT (Array.getElem?_eq_some_iff.mp h3).1 ?_)
  have other : ∀ b, b ≠ T → (s.heap.update T (Obj.mapFields (·.setIfInBounds 3 Value.none))).get? b = s.heap.get? b := fun b hb => Heap.get?_update_other _ _ (Ne.symm hb)
  have noRec : ∀ b o, s.heap.get? b = some o → (∀ vs, o.data ≠ .fields vs) → b ≠ T := fun b o q n z => by
    rw [z, hT] at q; cases q; exact n ts hdT
  refine entryX hfr (hl.of_keeps fun b o q n => ⟨o, (other b (noRec b o q n)).trans q, rfl⟩) hf ((other e (Ne.symm hTe)).trans he) (fun b o q => (other b fun z => by rw [z, hnT] at q; cases q).trans (hkb b o q)) hen hd (Array.getElem?_eq_some_iff.mp h1).1 h2
    fun h' x1 x2 => hQ h' x1 fun b o q n => x2 b o ((other b (noRec b o q n)).trans q) n
theorem note_againX {Q : Unit → Shared → Prop} (hf : env.frame = some L) (hh : HeldX base l e cls L s.heap) (h : Q () s) : wpAny M A (noteFrame (.ref e) env) Q E s := by
  obtain ⟨_, _, _, oe, vs, T, oT, ts, he, hcls, hd, h1, h2, hnT, hTe, hT, hdT, h3⟩ := hh
  unfold noteFrame
  simp only [hf]
  refine wpAny_bind (wpAny_field he hd h1 ?_)
  rw [if_pos (show (Value.ref T != Value.none) = true from by simp)]
  refine wpAny_bind (wpAny_field hT hdT h3 ?_)
  rw [if_pos (show (rawInt L == rawInt L) = true from by simp)]
  exact wpAny_pure h
/-- the flight's mark is set anew -/
theorem flightX {fl : Value} {fr : Option Addr} {Q : Unit → Shared → Prop} (hkb : base.StaysIn s.heap) (hen : base.get? e = none) (hl : s.heap.FunFrames base l) (ht : TrX s.heap base e cls fl)
    (hQ : ∀ h', base.StaysIn h' → h'.FunFrames base l → TrX h' base e cls (fr.elim Value.none fun f => rawInt f) → s.heap.UpToSlots h' → Q () { s with heap := h' }) : wpAny M A (setFlight (.ref e) fr) Q E s := by
  obtain ⟨oe, vs, T, oT, ts, he, hcls, hd, h1, h2, hnT, hTe, hT, hdT, h3⟩ := ht
  have hsz3 : 3 < ts.size := (Array.getElem?_eq_some_iff.mp h3).1
  have other : ∀ b, b ≠ T → (s.heap.update T (Obj.mapFields (·.setIfInBounds 3 (fr.elim Value.none fun f => rawInt f)))).get? b = s.heap.get? b := fun b hb => Heap.get?_update_other _ _ (Ne.symm hb)
  have noRec : ∀ b o, s.heap.get? b = some o → (∀ vs, o.data ≠ .fields vs) → b ≠ T := fun b o q n z => by
    rw [z, hT] at q; cases q; exact n ts hdT
  unfold setFlight
  refine wpAny_bind (wpAny_field he hd h1 ?_)
  rw [if_pos (show (Value.ref T != Value.none) = true from by simp)]
  refine wpAny_setField hT hdT hsz3 (hQ _ (fun b o q => (other b fun z => by rw [z, hnT] at q; cases q).trans (hkb b o q)) (hl.of_keeps fun b o q n => ⟨o, (other b (noRec b o q n)).trans q, rfl⟩) ?_ fun b o q n => ⟨o.slots, (other b (noRec b o q n)).trans q⟩)
  exact ⟨oe, vs, T, _, _, (other e (Ne.symm hTe)).trans he, hcls, hd, h1, h2, hnT, hTe, Heap.get?_update_self _ hT (Obj.isFreed_of_fields (Obj.data_mapFields hdT _)), Obj.data_mapFields hdT _, by simp [hsz3]⟩
theorem landX {Q : Unit → Shared → Prop} (hh : HeldX base l e cls L s.heap) (hQ : ∀ h', FlyX base l e cls h' → s.heap.UpToSlots h' → Q () { s with heap := h' }) : wpAny M A (setFlight (.ref e) none) Q E s := by
  obtain ⟨f1, f2, f3, f4⟩ := hh
  exact flightX f1 f2 f3 f4 fun h' k1 k2 k3 k4 => hQ h' ⟨k1, f2, k2, k3⟩ k4
theorem land_againX {Q : Unit → Shared → Prop} (hh : FlyX base l e cls s.heap) (hQ : ∀ h', FlyX base l e cls h' → s.heap.UpToSlots h' → Q () { s with heap := h' }) : wpAny M A (setFlight (.ref e) none) Q E s := by
  obtain ⟨f1, f2, f3, f4⟩ := hh
  exact flightX f1 f2 f3 f4 fun h' k1 k2 k3 k4 => hQ h' ⟨k1, f2, k2, k3⟩ k4
theorem backX {E' : Value → Shared → Prop} (hf : env.frame = some L) (hh : HeldX base l e cls L s.heap) (hQ : ∀ h', HeldX base l e cls L h' → s.heap.UpToSlots h' → E' (.ref e) { s with heap := h' }) : cameBackBy M A env E' (.ref e) s := by
  have hh' := hh
  obtain ⟨f1, f2, f3, f4⟩ := hh
  obtain ⟨oe, vs, T, _, _, he, _, hd, h1, _⟩ := id f4
  unfold cameBackBy
  refine wpAny_bind (wpAny_field he hd h1 ?_)
  rw [if_neg (show ¬ ((Value.ref T == Value.none) = true) from by simp), hf]
  exact flightX f1 f2 f3 f4 fun h' k1 k2 k3 k4 => hQ h' ⟨k1, f2, k2, k3⟩ k4
/-- out of the frame -/
theorem leaveX {Q : Unit → Shared → Prop} (hn : ∀ (Q : Unit → Shared → Prop) , (∀ h', HeldX base (env :: outer) e cls L h' → s.heap.UpToSlots h' → Q () { s with heap := h' }) → wpAny M A (noteFrame (.ref e) env) Q E s)
    (hQ : ∀ h', FlyX base outer e cls h' → s.heap.UpToSlots h' → Q () { s with heap := h' }) : wpAny M A (leaving env (.ref e)) Q E s := by
  unfold leaving
  refine wpAny_bind (hn _ fun h' hh hs => landX hh fun h'' hl hs' => ?_)
  exact hQ h'' hl.tail (hs.trans hs')
end
end Mine
end

section
open PySem PyProof.Rows
set_option maxRecDepth 100000
namespace MineS

/-! ## S1. Sorting ints: comparisons, the gallop -/
abbrev SM := StateT SortSt Sem
def key (p : Keyed) : Int := numOf p.1
def IsI (p : Keyed) : Prop := ∃ n t, p.1 = Value.int n t
def gallop' : Bool → Keyed → Array Keyed → Nat → Nat → Nat → SM (Option Nat) := sortPriv% PySem.Builtin.gallop

def bey (left : Bool) (k : Keyed) (arr : Array Keyed) (base i : Nat) : SM (Option Bool) := do
  let x ← elem' arr (base + i)
  if left = true then lt' x k else do
    let r ← lt' k x
    pure (r.map fun b => !b)
def gbis (f : Nat → SM (Option Bool)) (n lo hi : Nat) : SM (Option (Option Nat) × Nat × Nat) :=
  forIn [0:n] ((none, lo, hi) : Option (Option Nat) × Nat × Nat) fun _ c =>
    if c.2.1 ≥ c.2.2 then pure (ForInStep.done (none, c.2.1, c.2.2)) else do
      let x ← f (c.2.1 + (c.2.2 - c.2.1) / 2)
      match x with
      | some more => if more = true then pure (ForInStep.yield (none, c.2.1 + (c.2.2 - c.2.1) / 2 + 1, c.2.2)) else pure (ForInStep.yield (none, c.2.1, c.2.1 + (c.2.2 - c.2.1) / 2))
      | _ => pure (ForInStep.done (some none, c.2.1, c.2.2))
def gup (f : Nat → SM (Option Bool)) (n hint maxofs : Nat) : SM (Option (Option Nat) × Nat × Nat) :=
  forIn [0:n] ((none, 0, 1) : Option (Option Nat) × Nat × Nat) fun _ c =>
    if c.2.2 ≥ maxofs then pure (ForInStep.done (none, c.2.1, c.2.2)) else do
      let x ← f (hint + c.2.2)
      match x with
      | some more => if (!more) = true then pure (ForInStep.done (none, c.2.1, c.2.2)) else pure (ForInStep.yield (none, c.2.2, 2 * c.2.2 + 1))
      | _ => pure (ForInStep.done (some none, c.2.1, c.2.2))
def gdown (f : Nat → SM (Option Bool)) (n hint maxofs : Nat) : SM (Option (Option Nat) × Nat × Nat) :=
  forIn [0:n] ((none, 0, 1) : Option (Option Nat) × Nat × Nat) fun _ c =>
    if c.2.2 ≥ maxofs then pure (ForInStep.done (none, c.2.1, c.2.2)) else do
      let x ← f (hint - c.2.2)
      match x with
      | some found => if found = true then pure (ForInStep.done (none, c.2.1, c.2.2)) else pure (ForInStep.yield (none, c.2.2, 2 * c.2.2 + 1))
      | _ => pure (ForInStep.done (some none, c.2.1, c.2.2))

section
variable {prog : Program} {w : World} {A : Around} {E : Value → Shared → Prop} {s : Shared} {st : SortSt}

theorem wpS_lt {x y : Keyed} {Q : Option Bool → SortSt → Prop} (hk : kindOf st = oneType') (hx : IsI x) (hy : IsI y) (h : Q (some (decide (key x < key y))) st) : wpS (model prog w) A E s (lt' x y) Q st := by
  obtain ⟨a, t, ha⟩ := hx
  obtain ⟨b, u, hb⟩ := hy
  rw [lt'_eq]
  refine wpS_bind (wpS_get ?_)
  rw [hk, keyLt'_oneType, ha, hb]
  have e1 : key x = a := by unfold key; rw [ha]; rfl
  have e2 : key y = b := by unfold key; rw [hb]; rfl
  rw [e1, e2] at h
  refine wpS_bind (wpS_lift (wpAny_attempt (oneLt_int ⟨rfl, ?_⟩)))
  exact wpS_pure h
theorem wpS_elem {arr : Array Keyed} {i : Nat} {Q : Keyed → SortSt → Prop} (hi : i < arr.size) (h : Q arr[i] st) : wpS (model prog w) A E s (elem' arr i) Q st := by
  rw [elem'_eq, getElem?_pos arr i hi]
  exact wpS_pure h

/-- what the gallop asks of a place -/
def bB (left : Bool) (k : Keyed) (arr : Array Keyed) (base i : Nat) : Bool := if left = true then decide (key (arr.getD (base + i) k) < key k) else !decide (key k < key (arr.getD (base + i) k))
theorem wpS_bey {left : Bool} {k : Keyed} {arr : Array Keyed} {base i : Nat} {Q : Option Bool → SortSt → Prop} (hk : kindOf st = oneType') (hi : base + i < arr.size) (ha : ∀ p ∈ arr.toList, IsI p) (hkk : IsI k) (h : Q (some (bB left k arr base i)) st) :
    wpS (model prog w) A E s (bey left k arr base i) Q st := by
  unfold bey
  refine wpS_bind (wpS_elem hi ?_)
  have e : arr.getD (base + i) k = arr[base + i] := by simp [Array.getD, hi]
  have hx : IsI arr[base + i] := ha _ (by simp)
  unfold bB at h
  rw [e] at h
  cases left with
  | true =>
    rw [if_pos rfl] at h ⊢
    exact wpS_lt hk hx hkk h
  | false =>
    rw [if_neg (by decide)] at h ⊢
    exact wpS_bind (wpS_lt hk hkk hx (wpS_pure h))

theorem wpS_gup {f : Nat → SM (Option Bool)} {B : Nat → Bool} {n hint : Nat} {Q : Option (Option Nat) × Nat × Nat → SortSt → Prop} (hf : ∀ i, i < n → ∀ Q : Option Bool → SortSt → Prop, Q (some (B i)) st → wpS (model prog w) A E s (f i) Q st) (hh : hint < n) (hB : B hint = true)
    (h : ∀ a b, a < b → hint + a < n → B (hint + a) = true → (n - hint ≤ b ∨ (hint + b < n ∧ B (hint + b) = false)) → Q (none, a, b) st) : wpS (model prog w) A E s (gup f n hint (n - hint)) Q st := by
  unfold gup
  refine wpS_forRange (I := fun x c st' => st' = st ∧ ∃ a b, c = (none, a, b) ∧ a < b ∧ hint + a < n ∧ B (hint + a) = true ∧ x + 1 ≤ b) ?_ ?_ ⟨rfl, 0, 1, rfl, by omega, by omega, by simpa using hB, by omega⟩
  · rintro x c st' _ hx ⟨rfl, a, b, rfl, h1, h2, h3, h4⟩
    dsimp only
    by_cases hge : b ≥ n - hint
    · rw [if_pos hge]
      exact wpS_pure (h a b h1 h2 h3 (.inl hge))
    · rw [if_neg hge]
      refine wpS_bind (hf _ (by omega) _ ?_)
      cases q : B (hint + b) with
      | false => exact wpS_pure (h a b h1 h2 h3 (.inr ⟨by omega, q⟩))
      | true => exact wpS_pure ⟨rfl, b, 2 * b + 1, rfl, by omega, by omega, q, by omega⟩
  · rintro c st' ⟨rfl, a, b, rfl, h1, h2, h3, h4⟩
    exact h a b h1 h2 h3 (.inl (by omega))
theorem wpS_gdown {f : Nat → SM (Option Bool)} {B : Nat → Bool} {n hint : Nat} {Q : Option (Option Nat) × Nat × Nat → SortSt → Prop} (hf : ∀ i, i < n → ∀ Q : Option Bool → SortSt → Prop, Q (some (B i)) st → wpS (model prog w) A E s (f i) Q st) (hh : hint < n) (hB : B hint = false)
    (h : ∀ a b, a < b → a ≤ hint → B (hint - a) = false → (hint + 1 ≤ b ∨ (b ≤ hint ∧ B (hint - b) = true)) → Q (none, a, b) st) : wpS (model prog w) A E s (gdown f n hint (hint + 1)) Q st := by
  unfold gdown
  refine wpS_forRange (I := fun x c st' => st' = st ∧ ∃ a b, c = (none, a, b) ∧ a < b ∧ a ≤ hint ∧ B (hint - a) = false ∧ x + 1 ≤ b) ?_ ?_ ⟨rfl, 0, 1, rfl, by omega, by omega, by simpa using hB, by omega⟩
  · rintro x c st' _ hx ⟨rfl, a, b, rfl, h1, h2, h3, h4⟩
    dsimp only
    by_cases hge : b ≥ hint + 1
    · rw [if_pos hge]
      exact wpS_pure (h a b h1 h2 h3 (.inl hge))
    · rw [if_neg hge]
      refine wpS_bind (hf _ (by omega) _ ?_)
      cases q : B (hint - b) with
      | true => exact wpS_pure (h a b h1 h2 h3 (.inr ⟨by omega, q⟩))
      | false => exact wpS_pure ⟨rfl, b, 2 * b + 1, rfl, by omega, by omega, q, by omega⟩
  · rintro c st' ⟨rfl, a, b, rfl, h1, h2, h3, h4⟩
    exact h a b h1 h2 h3 (.inl (by omega))
theorem wpS_gbis {f : Nat → SM (Option Bool)} {B : Nat → Bool} {n lo hi : Nat} {Q : Option (Option Nat) × Nat × Nat → SortSt → Prop} (hf : ∀ i, i < n → ∀ Q : Option Bool → SortSt → Prop, Q (some (B i)) st → wpS (model prog w) A E s (f i) Q st) (mono : ∀ i j, i ≤ j → j < n → B j = true → B i = true)
    (hl : lo ≤ hi) (hh : hi ≤ n) (h1 : ∀ i, i < lo → B i = true) (h2 : ∀ i, hi ≤ i → i < n → B i = false)
    (h : ∀ k, k ≤ n → (∀ i, i < k → B i = true) → (∀ i, k ≤ i → i < n → B i = false) → ∀ l, Q (none, l, k) st) : wpS (model prog w) A E s (gbis f n lo hi) Q st := by
  unfold gbis
  refine wpS_forRange (I := fun x c st' => st' = st ∧ ∃ a b, c = (none, a, b) ∧ a ≤ b ∧ b ≤ n ∧ b - a ≤ n - x ∧ (∀ i, i < a → B i = true) ∧ (∀ i, b ≤ i → i < n → B i = false)) ?_ ?_ ⟨rfl, lo, hi, rfl, hl, hh, by omega, h1, h2⟩
  · rintro x c st' _ hx ⟨rfl, a, b, rfl, hab, hbn, hm, h1, h2⟩
    dsimp only
    by_cases hge : a ≥ b
    · rw [if_pos hge]
      have : a = b := by omega
      subst this
      exact wpS_pure (h a hbn h1 h2 a)
    · rw [if_neg hge]
      refine wpS_bind (hf _ (by omega) _ ?_)
      cases q : B (a + (b - a) / 2) with
      | true => exact wpS_pure ⟨rfl, a + (b - a) / 2 + 1, b, rfl, by omega, hbn, by omega, fun i hi => mono i _ (by omega) (by omega) q, h2⟩
      | false =>
        refine wpS_pure ⟨rfl, a, a + (b - a) / 2, rfl, by omega, by omega, by omega, h1, fun i hi hin => ?_⟩
        cases z : B i with
        | false => rfl
        | true => rw [mono _ i hi hin z] at q; cases q
  · rintro c st' ⟨rfl, a, b, rfl, hab, hbn, hm, h1, h2⟩
    have : a = b := by omega
    subst this
    exact h a hbn h1 h2 a

theorem wpS_gallop {left : Bool} {k : Keyed} {arr : Array Keyed} {base n hint : Nat} {Q : Option Nat → SortSt → Prop} (hk : kindOf st = oneType') (ha : ∀ p ∈ arr.toList, IsI p) (hkk : IsI k) (hn : base + n ≤ arr.size) (hh : hint < n)
    (hs : ∀ i j, i ≤ j → j < n → key (arr.getD (base + i) k) ≤ key (arr.getD (base + j) k))
    (h : ∀ m, m ≤ n → (∀ i, i < m → bB left k arr base i = true) → (∀ i, m ≤ i → i < n → bB left k arr base i = false) → Q (some m) st) : wpS (model prog w) A E s (gallop' left k arr base n hint) Q st := by
  have mono : ∀ i j, i ≤ j → j < n → bB left k arr base j = true → bB left k arr base i = true := fun i j hij hj hb => by
    have := hs i j hij hj
    unfold bB at hb ⊢
    cases left with
    | true =>
      simp only [if_true, decide_eq_true_eq] at hb ⊢; omega
    | false =>
      simp only [Bool.false_eq_true, if_false, Bool.not_eq_true', decide_eq_false_iff_not] at hb ⊢; omega
  have hf : ∀ i, i < n → ∀ Q : Option Bool → SortSt → Prop, Q (some (bB left k arr base i)) st → wpS (model prog w) A E s (bey left k arr base i) Q st := fun i hi Q q => wpS_bey hk (by omega) ha hkk q
  have neg : ∀ i j, i ≤ j → j < n → bB left k arr base i = false → bB left k arr base j = false := fun i j hij hj hb => by
    cases z : bB left k arr base j with
    | false => rfl
    | true => rw [mono i j hij hj z] at hb; cases hb
  show wpS _ _ _ _ (bey left k arr base hint >>= _) Q st
  refine wpS_bind (hf hint hh _ ?_)
  cases q : bB left k arr base hint with
  | true =>
    show wpS _ _ _ _ (gup (bey left k arr base) n hint (n - hint) >>= _) Q st
    refine wpS_bind (wpS_gup hf hh q fun a b h1 h2 h3 h4 => ?_)
    show wpS _ _ _ _ (gbis (bey left k arr base) n (hint + a + 1) (hint + min b (n - hint)) >>= _) Q st
    refine wpS_bind (wpS_gbis hf mono (by omega) (by omega) (fun i hi => mono i (hint + a) (by omega) h2 h3) (fun i hi hin => ?_) fun m g1 g2 g3 l => wpS_pure (h m g1 g2 g3))
    rcases h4 with h4 | ⟨h4, h5⟩
    · omega
    · exact neg (hint + b) i (by omega) hin h5
  | false =>
    show wpS _ _ _ _ (gdown (bey left k arr base) n hint (hint + 1) >>= _) Q st
    refine wpS_bind (wpS_gdown hf hh q fun a b h1 h2 h3 h4 => ?_)
    show wpS _ _ _ _ (gbis (bey left k arr base) n (hint + 1 - min b (hint + 1)) (hint - a) >>= _) Q st
    refine wpS_bind (wpS_gbis hf mono (by omega) (by omega) (fun i hi => ?_) (fun i hi hin => neg (hint - a) i (by omega) hin h3) fun m g1 g2 g3 l => wpS_pure (h m g1 g2 g3))
    rcases h4 with h4 | ⟨h4, h5⟩
    · omega
    · exact mono i (hint - b) (by omega) (by omega) h5
end
end MineS
end

section
open PySem PyProof.Rows
set_option maxRecDepth 100000
namespace MineS

/-! ## S2. Merging: lists -/
abbrev Srt (l : List Keyed) : Prop := l.Pairwise fun p q => key p ≤ key q
def AllI (l : List Keyed) : Prop := ∀ p ∈ l, IsI p

/-- out is the sorted head, what is left is R -/
structure MI (T out R : List Keyed) : Prop where
  perm : (out ++ R).Perm T
  srt : Srt out
  le : ∀ x ∈ out, ∀ y ∈ R, key x ≤ key y
theorem MI.step {T out R c R' : List Keyed} (I : MI T out R) (p : (c ++ R').Perm R) (sc : Srt c) (hc : ∀ x ∈ c, ∀ y ∈ R', key x ≤ key y) : MI T (out ++ c) R' := by
  refine ⟨?_, ?_, ?_⟩
  · rw [List.append_assoc]
    exact (List.Perm.append_left out p).trans I.perm
  · exact List.pairwise_append.mpr ⟨I.srt, sc, fun x hx y hy => I.le x hx y (p.mem_iff.mp (List.mem_append_left _ hy))⟩
  · intro x hx y hy
    rcases List.mem_append.mp hx with m | m
    · exact I.le x m y (p.mem_iff.mp (List.mem_append_right _ hy))
    · exact hc x m y hy
/-- the outcome -/
structure Fin' (T r : List Keyed) : Prop where
  perm : r.Perm T
  srt : Srt r
theorem MI.fin {T out R R' : List Keyed} (I : MI T out R) (p : R'.Perm R) (s : Srt R') : Fin' T (out ++ R') :=
  ⟨(List.Perm.append_left out p).trans I.perm, by
    exact List.pairwise_append.mpr ⟨I.srt, s, fun x hx y hy => I.le x hx y (p.mem_iff.mp hy)⟩⟩
/-- out, turned round, is the sorted tail -/
structure MH (T out R : List Keyed) : Prop where
  perm : (R ++ out.reverse).Perm T
  srt : Srt out.reverse
  le : ∀ x ∈ R, ∀ y ∈ out, key x ≤ key y
theorem MH.step {T out R c R' : List Keyed} (I : MH T out R) (p : (R' ++ c).Perm R) (sc : Srt c) (hc : ∀ x ∈ R', ∀ y ∈ c, key x ≤ key y) : MH T (out ++ c.reverse) R' := by
  have e : (out ++ c.reverse).reverse = c ++ out.reverse := by simp
  refine ⟨?_, ?_, ?_⟩
  · rw [e, ← List.append_assoc]
    exact (List.Perm.append_right _ p).trans I.perm
  · rw [e]
    exact List.pairwise_append.mpr ⟨sc, I.srt, fun x hx y hy => I.le x (p.mem_iff.mp (List.mem_append_right _ hx)) y (List.mem_reverse.mp hy)⟩
  · intro x hx y hy
    rcases List.mem_append.mp hy with m | m
    · exact I.le x (p.mem_iff.mp (List.mem_append_left _ hx)) y m
    · exact hc x hx y (List.mem_reverse.mp m)
theorem MH.fin {T out R R' : List Keyed} (I : MH T out R) (p : R'.Perm R) (s : Srt R') : Fin' T (R' ++ out.reverse) :=
  ⟨(List.Perm.append_right _ p).trans I.perm, by
    exact List.pairwise_append.mpr ⟨s, I.srt, fun x hx y hy => I.le x (p.mem_iff.mp hx) y (List.mem_reverse.mp hy)⟩⟩

section
variable {α : Type}
theorem drop_cons (l : List α) {i : Nat} (h : i < l.length) : l.drop i = l[i] :: l.drop (i + 1) := List.drop_eq_getElem_cons h
theorem take_snoc (l : List α) {i : Nat} (h : i < l.length) : l.take (i + 1) = l.take i ++ [l[i]] := by rw [List.take_succ_eq_append_getElem h]
theorem drop_cut (l : List α) {i k : Nat} : l.drop i = (l.drop i).take k ++ l.drop (i + k) := by
  have := List.take_append_drop k (l.drop i)
  rw [List.drop_drop] at this
  exact this.symm
theorem take_cut (l : List α) {i j : Nat} (h : i ≤ j) : l.take j = l.take i ++ (l.drop i).take (j - i) := by
  have := List.take_append_drop i (l.take j)
  rw [List.take_take, Nat.min_eq_left h, List.drop_take] at this
  exact this.symm
end
theorem Srt.get {l : List Keyed} (h : Srt l) {i j : Nat} (hij : i ≤ j) (hj : j < l.length) : key (l[i]'(by omega)) ≤ key l[j] := by
  by_cases e : i = j
  · subst e; exact Int.le_refl _
  · exact List.pairwise_iff_getElem.mp h i j (by omega) hj (by omega)
theorem mem_drop {l : List Keyed} {i : Nat} {x : Keyed} (h : x ∈ l.drop i) : ∃ j, ∃ hj : j < l.length, i ≤ j ∧ l[j] = x := by
  obtain ⟨k, hk, e⟩ := List.getElem_of_mem h
  rw [List.length_drop] at hk
  rw [List.getElem_drop] at e
  exact ⟨i + k, by omega, by omega, e⟩
theorem mem_take {l : List Keyed} {i : Nat} {x : Keyed} (h : x ∈ l.take i) : ∃ j, ∃ hj : j < l.length, j < i ∧ l[j] = x := by
  obtain ⟨k, hk, e⟩ := List.getElem_of_mem h
  rw [List.length_take] at hk
  rw [List.getElem_take] at e
  exact ⟨k, by omega, by omega, e⟩
theorem mem_cut {l : List Keyed} {i k : Nat} {x : Keyed} (h : x ∈ (l.drop i).take k) : ∃ j, ∃ hj : j < l.length, i ≤ j ∧ j < i + k ∧ l[j] = x := by
  obtain ⟨m, hm, e⟩ := List.getElem_of_mem h
  rw [List.length_take, List.length_drop] at hm
  rw [List.getElem_take, List.getElem_drop] at e
  exact ⟨i + m, by omega, by omega, by omega, e⟩
theorem Srt.drop {l : List Keyed} (h : Srt l) (i : Nat) : Srt (l.drop i) := h.sublist (List.drop_sublist _ _)
theorem Srt.take {l : List Keyed} (h : Srt l) (i : Nat) : Srt (l.take i) := h.sublist (List.take_sublist _ _)

theorem extract_toList (a : Array Keyed) (i j : Nat) : (a.extract i j).toList = (a.toList.drop i).take (j - i) := by
  rw [Array.toList_extract, List.extract_eq_take_drop]
end MineS
end

section
open PySem PyProof.Rows
set_option maxRecDepth 100000
namespace MineS

/-! ## S3. The merge from below -/
def mergeLo' : Array Keyed → Array Keyed → SM (Array Keyed) := sortPriv% PySem.Builtin.mergeLo
def setMG' : Nat → SM Unit := sortPriv% PySem.Builtin.setMinGallop

structure SameSt (st st' : SortSt) : Prop where
  kind : kindOf st' = kindOf st
  a : arrOf st' = arrOf st
  pend : pendingOf st' = pendingOf st
  failed : failedOf st' = failedOf st
theorem SameSt.refl (st : SortSt) : SameSt st st := ⟨rfl, rfl, rfl, rfl⟩
theorem SameSt.trans {a b c : SortSt} (x : SameSt a b) (y : SameSt b c) : SameSt a c := ⟨y.kind.trans x.kind, y.a.trans x.a, y.pend.trans x.pend, y.failed.trans x.failed⟩

/-- two runs that must be merged -/
structure Two (a b : Array Keyed) : Prop where
  sA : Srt a.toList
  sB : Srt b.toList
  iA : AllI a.toList
  iB : AllI b.toList
  nA : 0 < a.size
  nB : 0 < b.size
  first : ∀ x ∈ a.toList, key b[0] ≤ key x
  last : ∀ x ∈ b.toList, key x < key a[a.size - 1]
abbrev rest (a b : Array Keyed) (ia ib : Nat) : List Keyed := a.toList.drop ia ++ b.toList.drop ib
abbrev ML (a b : Array Keyed) (out : Array Keyed) (ia ib : Nat) : Prop := MI (a.toList ++ b.toList) out.toList (rest a b ia ib)

section
variable {a b out : Array Keyed} {ia ib : Nat}
theorem ML.pushB (I : ML a b out ia ib) (hT : Two a b) (h : ib < b.size) (hle : ∀ y ∈ a.toList.drop ia, key b[ib] ≤ key y) : ML a b (out.push b[ib]) ia (ib + 1) := by
  have e : b.toList.drop ib = b[ib] :: b.toList.drop (ib + 1) := by rw [drop_cons _ (by simpa using h)]; simp
  show MI _ (out.push b[ib]).toList _
  rw [Array.toList_push]
  refine MI.step (c := [b[ib]]) I ?_ (List.pairwise_singleton _ _) fun x hx y hy => ?_
  · unfold rest
    rw [e]
    show (b[ib] :: (List.drop ia a.toList ++ List.drop (ib + 1) b.toList)).Perm _
    exact List.perm_middle.symm
  · rw [List.mem_singleton] at hx
    subst hx
    rcases List.mem_append.mp hy with m | m
    · exact hle y m
    · have s := hT.sB.drop ib
      rw [e] at s
      exact (List.pairwise_cons.mp s).1 y m
theorem ML.pushA (I : ML a b out ia ib) (hT : Two a b) (h : ia < a.size) (hle : ∀ y ∈ b.toList.drop ib, key a[ia] ≤ key y) : ML a b (out.push a[ia]) (ia + 1) ib := by
  have e : a.toList.drop ia = a[ia] :: a.toList.drop (ia + 1) := by rw [drop_cons _ (by simpa using h)]; simp
  show MI _ (out.push a[ia]).toList _
  rw [Array.toList_push]
  refine MI.step (c := [a[ia]]) I ?_ (List.pairwise_singleton _ _) fun x hx y hy => ?_
  · unfold rest
    rw [e]
    exact List.Perm.refl _
  · rw [List.mem_singleton] at hx
    subst hx
    rcases List.mem_append.mp hy with m | m
    · have s := hT.sA.drop ia
      rw [e] at s
      exact (List.pairwise_cons.mp s).1 y m
    · exact hle y m
theorem ML.chunkA (I : ML a b out ia ib) (hT : Two a b) {k : Nat} (hle : ∀ x ∈ (a.toList.drop ia).take k, ∀ y ∈ b.toList.drop ib, key x ≤ key y) : ML a b (out ++ a.extract ia (ia + k)) (ia + k) ib := by
  show MI _ (out ++ a.extract ia (ia + k)).toList _
  rw [Array.toList_append, extract_toList, show ia + k - ia = k from by omega]
  have s := hT.sA.drop ia
  rw [drop_cut (k := k)] at s
  obtain ⟨s1, s2, s3⟩ := List.pairwise_append.mp s
  refine MI.step I ?_ s1 fun x hx y hy => ?_
  · unfold rest
    rw [← List.append_assoc, ← drop_cut]
  · rcases List.mem_append.mp hy with m | m
    · exact s3 x hx y m
    · exact hle x hx y m
theorem ML.chunkB (I : ML a b out ia ib) (hT : Two a b) {k : Nat} (hle : ∀ x ∈ (b.toList.drop ib).take k, ∀ y ∈ a.toList.drop ia, key x ≤ key y) : ML a b (out ++ b.extract ib (ib + k)) ia (ib + k) := by
  show MI _ (out ++ b.extract ib (ib + k)).toList _
  rw [Array.toList_append, extract_toList, show ib + k - ib = k from by omega]
  have s := hT.sB.drop ib
  rw [drop_cut (k := k)] at s
  obtain ⟨s1, s2, s3⟩ := List.pairwise_append.mp s
  refine MI.step I ?_ s1 fun x hx y hy => ?_
  · unfold rest
    conv => rhs; rw [drop_cut b.toList (i := ib) (k := k)]
    rw [← List.append_assoc, ← List.append_assoc]
    exact List.Perm.append_right _ List.perm_append_comm
  · rcases List.mem_append.mp hy with m | m
    · exact hle x hx y m
    · exact s3 x hx y m
theorem ML.done (I : ML a b out ia ib) (hT : Two a b) (h : ia = a.size ∨ ib = b.size) : Fin' (a.toList ++ b.toList) (out ++ a.extract ia a.size ++ b.extract ib b.size).toList := by
  have e : (out ++ a.extract ia a.size ++ b.extract ib b.size).toList = out.toList ++ rest a b ia ib := by
    rw [Array.toList_append, Array.toList_append, extract_toList, extract_toList, List.take_of_length_le (by simp), List.take_of_length_le (by simp), List.append_assoc]
  rw [e]
  refine MI.fin I (List.Perm.refl _) ?_
  unfold rest
  rcases h with h | h
  · rw [List.drop_of_length_le (l := a.toList) (by simp [h]), List.nil_append]; exact hT.sB.drop _
  · rw [List.drop_of_length_le (l := b.toList) (by simp [h]), List.append_nil]; exact hT.sA.drop _
theorem ML.lastA (I : ML a b out ia ib) (hT : Two a b) (h : ia + 1 = a.size) : Fin' (a.toList ++ b.toList) (out ++ b.extract ib b.size ++ a.extract ia a.size).toList := by
  have e : (out ++ b.extract ib b.size ++ a.extract ia a.size).toList = out.toList ++ (b.toList.drop ib ++ a.toList.drop ia) := by
    rw [Array.toList_append, Array.toList_append, extract_toList, extract_toList, List.take_of_length_le (by simp), List.take_of_length_le (by simp), List.append_assoc]
  rw [e]
  refine MI.fin I List.perm_append_comm ?_
  refine List.pairwise_append.mpr ⟨hT.sB.drop _, hT.sA.drop _, fun x hx y hy => ?_⟩
  obtain ⟨j, hj, h1, h2⟩ := mem_drop hy
  have hj' : j = a.size - 1 := by simp at hj; omega
  have := hT.last x (List.mem_of_mem_drop hx)
  have : y = a[a.size - 1] := by rw [← h2]; subst hj'; simp
  rw [this]; omega
end

section
variable {prog : Program} {w : World} {A : Around} {E : Value → Shared → Prop} {s : Shared} {st : SortSt}
theorem wpS_setMG {g : Nat} {Q : Unit → SortSt → Prop} (h : ∀ st', SameSt st st' → Q () st') : wpS (model prog w) A E s (setMG' g) Q st := by
  show wpS _ _ _ _ (modify fun (x : SortSt) => SortSt.mk' (kindOf x) (arrOf x) (pendingOf x) g (failedOf x)) Q st
  exact wpS_modify (h _ ⟨rfl, rfl, rfl, rfl⟩)

abbrev CI := Option (Array Keyed) × Array Keyed × Nat × Nat × Nat × Nat
/-- how a loop of the merge may stand -/
structure LoI (a b : Array Keyed) (st₀ : SortSt) (n : Nat) (r : Option (Array Keyed)) (out : Array Keyed) (ia ib : Nat) (st : SortSt) : Prop where
  same : SameSt st₀ st
  fin : ∀ x, r = some x → Fin' (a.toList ++ b.toList) x.toList
  go : r = none → ML a b out ia ib ∧ ia + 1 < a.size ∧ ib < b.size ∧ n ≤ ia + ib

abbrev GI := Option (Array Keyed) × Array Keyed × Nat × Nat × Nat × Nat × Nat
def loEnd (a b out : Array Keyed) (ia ib mg ac bc : Nat) : SM (ForInStep GI) := do
  let p ← elem' a ia
  if (ia + 1 + 1 == a.size) = true then pure (ForInStep.done (some (out.push p ++ b.extract ib b.size ++ a.extract (ia + 1) a.size), out.push p, ia + 1, ib, mg, ac, bc))
  else if (decide (ac < 7) && decide (bc < 7)) = true then pure (ForInStep.done (none, out.push p, ia + 1, ib, mg, ac, bc))
  else pure (ForInStep.yield (none, out.push p, ia + 1, ib, mg, ac, bc))
def loMid (a b out : Array Keyed) (ia ib mg ac bc : Nat) : SM (ForInStep GI) := do
  let p ← elem' b ib
  if (ib + 1 == b.size) = true then pure (ForInStep.done (some (out.push p ++ a.extract ia a.size ++ b.extract (ib + 1) b.size), out.push p, ia, ib + 1, mg, ac, bc))
  else do
    let q ← elem' a ia
    let x ← gallop' true q b (ib + 1) (b.size - (ib + 1)) 0
    match x with
    | some k =>
      if k > 0 then
        if (ib + 1 + k == b.size) = true then pure (ForInStep.done (some (out.push p ++ b.extract (ib + 1) (ib + 1 + k) ++ a.extract ia a.size ++ b.extract (ib + 1 + k) b.size), out.push p ++ b.extract (ib + 1) (ib + 1 + k), ia, ib + 1 + k, mg, ac, k))
        else loEnd a b (out.push p ++ b.extract (ib + 1) (ib + 1 + k)) ia (ib + 1 + k) mg ac k
      else loEnd a b (out.push p) ia (ib + 1) mg ac k
    | _ => pure (ForInStep.done (some (out.push p ++ a.extract ia a.size ++ b.extract (ib + 1) b.size), out.push p, ia, ib + 1, mg, ac, bc))

/-- what a turn of the gallop may leave -/
def LoR (a b : Array Keyed) (st₀ : SortSt) (n m : Nat) (r : ForInStep GI) (st : SortSt) : Prop := match r with
  | .done c => ∃ r out ia ib mg ac bc, c = (r, out, ia, ib, mg, ac, bc) ∧ LoI a b st₀ n r out ia ib st
  | .yield c => ∃ r out ia ib mg ac bc, c = (r, out, ia, ib, mg, ac, bc) ∧ r = none ∧ LoI a b st₀ m r out ia ib st

theorem wpS_loEnd {a b out : Array Keyed} {ia ib mg ac bc n m : Nat} {st₀ : SortSt} (hT : Two a b) (sm : SameSt st₀ st) (I : ML a b out ia ib) (g2 : ia + 1 < a.size) (g3 : ib < b.size) (hn : n ≤ ia + 1 + ib) (hm : m ≤ ia + 1 + ib) (hle : ∀ y ∈ b.toList.drop ib, key a[ia] ≤ key y) :
    wpS (model prog w) A E s (loEnd a b out ia ib mg ac bc) (LoR a b st₀ n m) st := by
  unfold loEnd
  refine wpS_bind (wpS_elem (show ia < a.size by omega) ?_)
  have I2 := I.pushA hT (by omega) hle
  by_cases e1 : ia + 1 + 1 = a.size
  · rw [if_pos (by simpa using e1)]
    exact wpS_pure ⟨_, _, _, _, _, _, _, rfl, ⟨sm, fun z hz => by cases hz; exact I2.lastA hT e1, fun hz => by cases hz⟩⟩
  · rw [if_neg (by simpa using e1)]
    have L : ∀ q, q ≤ ia + 1 + ib → LoI a b st₀ q none (out.push a[ia]) (ia + 1) ib st := fun q hq => ⟨sm, fun z hz => (by cases hz), fun _ => ⟨I2, by omega, g3, by omega⟩⟩
    split
    · exact wpS_pure ⟨_, _, _, _, _, _, _, rfl, L n hn⟩
    · exact wpS_pure ⟨_, _, _, _, _, _, _, rfl, rfl, L m hm⟩

theorem wpS_loMid {a b out : Array Keyed} {ia ib mg ac bc n m : Nat} {st₀ : SortSt} (hT : Two a b) (hk : kindOf st = oneType') (sm : SameSt st₀ st) (I : ML a b out ia ib) (g2 : ia + 1 < a.size) (g3 : ib < b.size) (hn : n ≤ ia + 1 + ib) (hm : m ≤ ia + 1 + ib) (hle : ∀ y ∈ a.toList.drop ia, key b[ib] ≤ key y) :
    wpS (model prog w) A E s (loMid a b out ia ib mg ac bc) (LoR a b st₀ n m) st := by
  unfold loMid
  refine wpS_bind (wpS_elem g3 ?_)
  have I2 := I.pushB hT g3 hle
  by_cases e1 : ib + 1 = b.size
  · rw [if_pos (by simpa using e1)]
    exact wpS_pure ⟨_, _, _, _, _, _, _, rfl, ⟨sm, fun z hz => by cases hz; exact I2.done hT (.inr e1), fun hz => by cases hz⟩⟩
  · rw [if_neg (by simpa using e1)]
    refine wpS_bind (wpS_elem (show ia < a.size by omega) ?_)
    have bget : ∀ i, i < b.size - (ib + 1) → b.getD (ib + 1 + i) a[ia] = b[ib + 1 + i]! := fun i hi => by
      have : ib + 1 + i < b.size := by omega
      simp [Array.getD, this]
    have bget' : ∀ i (hi : ib + 1 + i < b.size), b.getD (ib + 1 + i) a[ia] = b[ib + 1 + i] := fun i hi => by simp [Array.getD, hi]
    refine wpS_bind (wpS_gallop hk hT.iB (hT.iA _ (by simp)) (by omega) (by omega) (fun i j hij hj => ?_) fun k k1 k2 k3 => ?_)
    · rw [bget' i (by omega), bget' j (by omega)]
      have := hT.sB.get (i := ib + 1 + i) (j := ib + 1 + j) (by omega) (by simp; omega)
      simpa using this
    · have lt : ∀ x ∈ (b.toList.drop (ib + 1)).take k, key x < key a[ia] := fun x hx => by
        obtain ⟨j, hj, h1, h2, h3⟩ := mem_cut hx
        have hj' : j < b.size := by simpa using hj
        have := k2 (j - (ib + 1)) (by omega)
        unfold bB at this
        rw [if_pos rfl, decide_eq_true_eq] at this
        rw [bget' _ (by omega)] at this
        simp only [show ib + 1 + (j - (ib + 1)) = j from by omega] at this
        rw [← h3]; simpa using this
      have ge : ∀ y ∈ b.toList.drop (ib + 1 + k), key a[ia] ≤ key y := fun y hy => by
        obtain ⟨j, hj, h1, h2⟩ := mem_drop hy
        have hj' : j < b.size := by simpa using hj
        have := k3 (j - (ib + 1)) (by omega) (by omega)
        unfold bB at this
        rw [if_pos rfl, decide_eq_false_iff_not] at this
        rw [bget' _ (by omega)] at this
        simp only [show ib + 1 + (j - (ib + 1)) = j from by omega] at this
        rw [← h2]; simp only [Array.getElem_toList]; omega
      have asc : ∀ y ∈ a.toList.drop ia, key a[ia] ≤ key y := fun y hy => by
        obtain ⟨j, hj, h1, h2⟩ := mem_drop hy
        have := hT.sA.get h1 hj
        rw [h2] at this
        simpa using this
      have I3 := I2.chunkB hT (k := k) fun x hx y hy => by have := lt x hx; have := asc y hy; omega
      dsimp only
      by_cases k0 : k > 0
      · rw [if_pos k0]
        by_cases e2 : ib + 1 + k = b.size
        · rw [if_pos (by simpa using e2)]
          exact wpS_pure ⟨_, _, _, _, _, _, _, rfl, ⟨sm, fun z hz => by cases hz; exact I3.done hT (.inr e2), fun hz => by cases hz⟩⟩
        · rw [if_neg (by simpa using e2)]
          exact wpS_loEnd hT sm I3 g2 (by omega) (by omega) (by omega) ge
      · rw [if_neg k0]
        have : k = 0 := by omega
        subst this
        exact wpS_loEnd hT sm I2 g2 (by omega) (by omega) (by omega) ge

theorem wpS_mergeLo {a b : Array Keyed} {Q : Array Keyed → SortSt → Prop} (hT : Two a b) (hk : kindOf st = oneType')
    (h : ∀ r st', SameSt st st' → Fin' (a.toList ++ b.toList) r.toList → Q r st') : wpS (model prog w) A E s (mergeLo' a b) Q st := by
  have nA := hT.nA
  have nB := hT.nB
  show wpS _ _ _ _ (liftM (rule "list.sort.merge-lo") >>= _) Q st
  refine wpS_bind (wpS_lift (wpAny_rule ⟨rfl, ?_⟩))
  try dsimp only
  show wpS _ _ _ _ (elem' b 0 >>= _) Q st
  refine wpS_bind (wpS_elem nB ?_)
  try dsimp only
  have I0 : ML a b #[b[0]] 0 1 := by
    have i0 : ML a b #[] 0 0 := ⟨by simp [rest], by simp, fun x hx => by simp at hx⟩
    have := i0.pushB hT nB fun y hy => hT.first y (by simpa using hy)
    simpa using this
  by_cases c1 : 1 = b.size
  · rw [if_pos (by simpa using c1)]
    exact wpS_pure (h _ _ (.refl st) (I0.done hT (.inr c1)))
  rw [if_neg (by simpa using c1)]
  by_cases c2 : 0 + 1 = a.size
  · rw [if_pos (by simpa using c2)]
    exact wpS_pure (h _ _ (.refl st) (I0.lastA hT c2))
  rw [if_neg (by simpa using c2)]
  refine wpS_bind (wpS_get ?_)
  try dsimp only
  refine wpS_bind (wpS_mono (wpS_forRange (I := fun x c st' => ∃ r out ia ib mg, c = (r, out, ia, ib, mg) ∧ r = none ∧ LoI a b st (x + 1) r out ia ib st')
    (Q := fun c st' => ∃ r out ia ib mg, c = (r, out, ia, ib, mg) ∧ LoI a b st (a.size + b.size + 1) r out ia ib st') ?ostep ?ofin ?oinit) ?opost)
  case oinit => exact ⟨none, _, 0, 1, _, rfl, rfl, ⟨.refl st, fun x hx => (by cases hx), fun _ => ⟨I0, by omega, by omega, by omega⟩⟩⟩
  case ofin =>
    rintro c st' ⟨r, out, ia, ib, mg, rfl, rfl, L⟩
    obtain ⟨g1, g2, g3, g4⟩ := L.go rfl
    exfalso; omega
  case opost =>
    rintro c st' ⟨r, out, ia, ib, mg, rfl, L⟩
    try dsimp only
    cases r with
    | none =>
      obtain ⟨g1, g2, g3, g4⟩ := L.go rfl
      exfalso; omega
    | some r => exact wpS_pure (h r st' L.same (L.fin r rfl))
  case ostep =>
    rintro x c st1 _ hx ⟨r, out, ia, ib, mg, rfl, rfl, L⟩
    try dsimp only
    -- one by one
    refine wpS_bind (wpS_mono (wpS_forRange (I := fun _ c st' => ∃ r out ia ib ac bc, c = (r, out, ia, ib, ac, bc) ∧ r = none ∧ LoI a b st (x + 1) r out ia ib st')
      (Q := fun c st' => ∃ r out ia ib ac bc, c = (r, out, ia, ib, ac, bc) ∧ LoI a b st (x + 1) r out ia ib st') ?istep ?ifin ?iinit) ?ipost)
    case iinit => exact ⟨none, out, ia, ib, 0, 0, rfl, rfl, L⟩
    case ifin => rintro c st' ⟨r, out, ia, ib, ac, bc, rfl, rfl, L⟩; exact ⟨none, out, ia, ib, ac, bc, rfl, L⟩
    case istep =>
      rintro y c st2 _ hy ⟨r, out, ia, ib, ac, bc, rfl, rfl, L⟩
      obtain ⟨I, g2, g3, g4⟩ := L.go rfl
      have sm := L.same
      try dsimp only
      show wpS _ _ _ _ (elem' b ib >>= _) _ st2
      refine wpS_bind (wpS_elem g3 ?_)
      show wpS _ _ _ _ (elem' a ia >>= _) _ st2
      refine wpS_bind (wpS_elem (show ia < a.size by omega) ?_)
      refine wpS_bind (wpS_lt (sm.kind.trans hk) (hT.iB _ (by simp)) (hT.iA _ (by simp)) ?_)
      by_cases hlt : key b[ib] < key a[ia]
      · rw [decide_eq_true hlt]
        try dsimp only
        rw [if_pos rfl]
        show wpS _ _ _ _ (elem' b ib >>= _) _ st2
        refine wpS_bind (wpS_elem g3 ?_)
        try dsimp only
        have I2 : ML a b (out.push b[ib]) ia (ib + 1) := I.pushB hT g3 fun z hz => by
          obtain ⟨j, hj, h1, h2⟩ := mem_drop hz
          have := hT.sA.get h1 hj
          rw [h2] at this
          simp only [Array.getElem_toList] at this
          omega
        by_cases e1 : ib + 1 = b.size
        · rw [if_pos (by simpa using e1)]
          exact wpS_pure ⟨_, _, _, _, _, _, rfl, ⟨sm, fun z hz => by cases hz; exact I2.done hT (.inr e1), fun hz => by cases hz⟩⟩
        · rw [if_neg (by simpa using e1)]
          by_cases e2 : bc + 1 ≥ mg
          · rw [if_pos e2]
            exact wpS_pure ⟨_, _, _, _, _, _, rfl, ⟨sm, fun z hz => (by cases hz), fun _ => ⟨I2, g2, by omega, by omega⟩⟩⟩
          · rw [if_neg e2]
            exact wpS_pure ⟨_, _, _, _, _, _, rfl, rfl, ⟨sm, fun z hz => (by cases hz), fun _ => ⟨I2, g2, by omega, by omega⟩⟩⟩
      · rw [decide_eq_false hlt]
        try dsimp only
        rw [if_neg (by decide)]
        show wpS _ _ _ _ (elem' a ia >>= _) _ st2
        refine wpS_bind (wpS_elem (show ia < a.size by omega) ?_)
        try dsimp only
        have I2 : ML a b (out.push a[ia]) (ia + 1) ib := I.pushA hT (by omega) fun z hz => by
          obtain ⟨j, hj, h1, h2⟩ := mem_drop hz
          have := hT.sB.get h1 hj
          rw [h2] at this
          simp only [Array.getElem_toList] at this
          omega
        by_cases e1 : ia + 1 + 1 = a.size
        · rw [if_pos (by simpa using e1)]
          exact wpS_pure ⟨_, _, _, _, _, _, rfl, ⟨sm, fun z hz => by cases hz; exact I2.lastA hT e1, fun hz => by cases hz⟩⟩
        · rw [if_neg (by simpa using e1)]
          by_cases e2 : ac + 1 ≥ mg
          · rw [if_pos e2]
            exact wpS_pure ⟨_, _, _, _, _, _, rfl, ⟨sm, fun z hz => (by cases hz), fun _ => ⟨I2, by omega, by omega, by omega⟩⟩⟩
          · rw [if_neg e2]
            exact wpS_pure ⟨_, _, _, _, _, _, rfl, rfl, ⟨sm, fun z hz => (by cases hz), fun _ => ⟨I2, by omega, by omega, by omega⟩⟩⟩
    case ipost =>
      rintro c st2 ⟨r, out, ia, ib, ac, bc, rfl, L⟩
      try dsimp only
      cases r with
      | some r => exact wpS_pure ⟨_, _, _, _, _, rfl, ⟨L.same, L.fin, fun hz => by cases hz⟩⟩
      | none =>
        try dsimp only
        refine wpS_bind (wpS_lift (wpAny_rule ⟨rfl, ?_⟩))
        try dsimp only
        refine wpS_bind (wpS_mono (wpS_forRange (I := fun y c st' => ∃ r out ia ib mg ac bc, c = (r, out, ia, ib, mg, ac, bc) ∧ r = none ∧ LoI a b st (x + 1 + y) r out ia ib st')
          (Q := fun c st' => ∃ r out ia ib mg ac bc, c = (r, out, ia, ib, mg, ac, bc) ∧ LoI a b st (x + 1 + 1) r out ia ib st') ?gstep ?gfin ?ginit) ?gpost)
        case ginit => exact ⟨none, out, ia, ib, _, ac, bc, rfl, rfl, L⟩
        case gfin =>
          rintro c st' ⟨r, out, ia, ib, mg, ac, bc, rfl, rfl, L⟩
          obtain ⟨q1, q2, q3, q4⟩ := L.go rfl
          exact ⟨none, out, ia, ib, mg, ac, bc, rfl, ⟨L.same, L.fin, fun _ => ⟨q1, q2, q3, by omega⟩⟩⟩
        case gpost =>
          rintro c st' ⟨r, out, ia, ib, mg, ac, bc, rfl, L⟩
          try dsimp only
          cases r with
          | some r => exact wpS_pure ⟨_, _, _, _, _, rfl, ⟨L.same, L.fin, fun hz => by cases hz⟩⟩
          | none =>
            try dsimp only
            show wpS _ _ _ _ (setMG' _ >>= _) _ st'
            exact wpS_bind (wpS_setMG fun st'' sm => wpS_pure ⟨_, _, _, _, _, rfl, rfl, ⟨L.same.trans sm, L.fin, L.go⟩⟩)
        case gstep =>
          rintro y c st3 _ hy ⟨r, out, ia, ib, mg, ac, bc, rfl, rfl, L⟩
          obtain ⟨I, g2, g3, g4⟩ := L.go rfl
          have sm := L.same
          have aget : ∀ i (hi : ia + i < a.size), a.getD (ia + i) b[ib] = a[ia + i] := fun i hi => by simp [Array.getD, hi]
          try dsimp only
          by_cases hmg : mg > 1
          all_goals
            first | rw [if_pos hmg] | rw [if_neg hmg]
            show wpS _ _ _ _ (setMG' _ >>= _) _ st3
            refine wpS_bind (wpS_setMG fun st4 sm4 => ?_)
            have sm5 := sm.trans sm4
            try dsimp only
            show wpS _ _ _ _ (elem' b ib >>= _) _ st4
            refine wpS_bind (wpS_elem g3 ?_)
            show wpS _ _ _ _ (gallop' false b[ib] a ia (a.size - ia) 0 >>= _) _ st4
            refine wpS_bind (wpS_gallop (sm5.kind.trans hk) hT.iA (hT.iB _ (by simp)) (by omega) (by omega) (fun i j hij hj => ?_) fun k k1 k2 k3 => ?_)
            · rw [aget i (by omega), aget j (by omega)]
              have := hT.sA.get (i := ia + i) (j := ia + j) (by omega) (by simp; omega)
              simpa using this
            · have le : ∀ x ∈ (a.toList.drop ia).take k, key x ≤ key b[ib] := fun x hx => by
                obtain ⟨j, hj, h1, h2, h3⟩ := mem_cut hx
                have hj' : j < a.size := by simpa using hj
                have := k2 (j - ia) (by omega)
                unfold bB at this
                rw [if_neg (by decide), Bool.not_eq_true', decide_eq_false_iff_not] at this
                rw [aget _ (by omega)] at this
                simp only [show ia + (j - ia) = j from by omega] at this
                rw [← h3]; simp only [Array.getElem_toList]; omega
              have ge : ∀ y ∈ a.toList.drop (ia + k), key b[ib] ≤ key y := fun y hy => by
                obtain ⟨j, hj, h1, h2⟩ := mem_drop hy
                have hj' : j < a.size := by simpa using hj
                have := k3 (j - ia) (by omega) (by omega)
                unfold bB at this
                rw [if_neg (by decide), Bool.not_eq_false', decide_eq_true_eq] at this
                rw [aget _ (by omega)] at this
                simp only [show ia + (j - ia) = j from by omega] at this
                rw [← h2]; simp only [Array.getElem_toList]; omega
              have hka : ia + k < a.size := by
                by_cases z : ia + k < a.size
                · exact z
                · exfalso
                  have := le a[a.size - 1] (by
                    have e : a.toList[a.size - 1]'(by simp; omega) = a[a.size - 1] := by simp
                    rw [← e]
                    rw [List.take_of_length_le (by simp; omega)]
                    rw [List.mem_iff_getElem]
                    exact ⟨a.size - 1 - ia, by simp; omega, by simp [show ia + (a.size - 1 - ia) = a.size - 1 from by omega]⟩)
                  have := hT.last b[ib] (by simp)
                  omega
              have bsc : ∀ y ∈ b.toList.drop ib, key b[ib] ≤ key y := fun y hy => by
                obtain ⟨j, hj, h1, h2⟩ := mem_drop hy
                have := hT.sB.get h1 hj
                rw [h2] at this
                simpa using this
              have I3 := I.chunkA hT (k := k) fun x hx y hy => by have := le x hx; have := bsc y hy; omega
              try dsimp only
              by_cases k0 : k > 0
              · rw [if_pos k0]
                by_cases e2 : ia + k + 1 = a.size
                · rw [if_pos (by simpa using e2)]
                  exact wpS_pure ⟨_, _, _, _, _, _, _, rfl, ⟨sm5, fun z hz => by cases hz; exact I3.lastA hT e2, fun hz => by cases hz⟩⟩
                · rw [if_neg (by simpa using e2), if_neg (by simp; omega)]
                  refine wpS_mono (wpS_loMid (n := x + 1 + 1) (m := x + 1 + (y + 1)) hT (sm5.kind.trans hk) sm5 I3 (by omega) g3 (by omega) (by omega) ge) fun r st' hr => ?_
                  cases r <;> exact hr
              · rw [if_neg k0]
                have : k = 0 := by omega
                subst this
                refine wpS_mono (wpS_loMid (n := x + 1 + 1) (m := x + 1 + (y + 1)) hT (sm5.kind.trans hk) sm5 I g2 g3 (by omega) (by omega) ge) fun r st' hr => ?_
                cases r <;> exact hr
end
end MineS
end

section
open PySem PyProof.Rows
set_option maxRecDepth 100000
namespace MineS

/-! ## S4. The merge from above -/
def mergeHi' : Array Keyed → Array Keyed → SM (Array Keyed) := sortPriv% PySem.Builtin.mergeHi
abbrev head (a b : Array Keyed) (na nb : Nat) : List Keyed := a.toList.take na ++ b.toList.take nb
abbrev MU (a b : Array Keyed) (out : Array Keyed) (na nb : Nat) : Prop := MH (a.toList ++ b.toList) out.toList (head a b na nb)

section
variable {a b out : Array Keyed} {na nb : Nat}
theorem MU.pushA (I : MU a b out (na + 1) nb) (hT : Two a b) (h : na < a.size) (hle : ∀ y ∈ b.toList.take nb, key y ≤ key a[na]) : MU a b (out.push a[na]) na nb := by
  have e : a.toList.take (na + 1) = a.toList.take na ++ [a[na]] := by rw [take_snoc _ (by simpa using h)]; simp
  show MH _ (out.push a[na]).toList _
  rw [Array.toList_push]
  refine MH.step (c := [a[na]]) I ?_ (List.pairwise_singleton _ _) fun x hx y hy => ?_
  · unfold head
    rw [e, List.append_assoc, List.append_assoc]
    exact List.Perm.append_left _ List.perm_append_comm
  · rw [List.mem_singleton] at hy
    subst hy
    rcases List.mem_append.mp hx with m | m
    · have s := hT.sA.take (na + 1)
      rw [e] at s
      exact (List.pairwise_append.mp s).2.2 x m _ (List.mem_singleton.mpr rfl)
    · exact hle x m
theorem MU.pushB (I : MU a b out na (nb + 1)) (hT : Two a b) (h : nb < b.size) (hle : ∀ y ∈ a.toList.take na, key y ≤ key b[nb]) : MU a b (out.push b[nb]) na nb := by
  have e : b.toList.take (nb + 1) = b.toList.take nb ++ [b[nb]] := by rw [take_snoc _ (by simpa using h)]; simp
  show MH _ (out.push b[nb]).toList _
  rw [Array.toList_push]
  refine MH.step (c := [b[nb]]) I ?_ (List.pairwise_singleton _ _) fun x hx y hy => ?_
  · unfold head
    rw [e, List.append_assoc]
  · rw [List.mem_singleton] at hy
    subst hy
    rcases List.mem_append.mp hx with m | m
    · exact hle x m
    · have s := hT.sB.take (nb + 1)
      rw [e] at s
      exact (List.pairwise_append.mp s).2.2 x m _ (List.mem_singleton.mpr rfl)
theorem MU.chunkA (I : MU a b out na nb) (hT : Two a b) {k : Nat} (hk : k ≤ na) (hle : ∀ x ∈ b.toList.take nb, ∀ y ∈ (a.toList.drop k).take (na - k), key x ≤ key y) : MU a b (out ++ (a.extract k na).reverse) k nb := by
  show MH _ (out ++ (a.extract k na).reverse).toList _
  rw [Array.toList_append, Array.toList_reverse, extract_toList]
  have s := hT.sA.take na
  rw [take_cut _ hk] at s
  obtain ⟨s1, s2, s3⟩ := List.pairwise_append.mp s
  refine MH.step I ?_ s2 fun x hx y hy => ?_
  · unfold head
    rw [take_cut a.toList hk, List.append_assoc, List.append_assoc]
    exact List.Perm.append_left _ List.perm_append_comm
  · rcases List.mem_append.mp hx with m | m
    · exact s3 x m y hy
    · exact hle x m y hy
theorem MU.chunkB (I : MU a b out na nb) (hT : Two a b) {k : Nat} (hk : k ≤ nb) (hle : ∀ x ∈ a.toList.take na, ∀ y ∈ (b.toList.drop k).take (nb - k), key x ≤ key y) : MU a b (out ++ (b.extract k nb).reverse) na k := by
  show MH _ (out ++ (b.extract k nb).reverse).toList _
  rw [Array.toList_append, Array.toList_reverse, extract_toList]
  have s := hT.sB.take nb
  rw [take_cut _ hk] at s
  obtain ⟨s1, s2, s3⟩ := List.pairwise_append.mp s
  refine MH.step I ?_ s2 fun x hx y hy => ?_
  · unfold head
    rw [take_cut b.toList hk, List.append_assoc]
  · rcases List.mem_append.mp hx with m | m
    · exact hle x m y hy
    · exact s3 x m y hy
theorem MU.done (I : MU a b out na nb) (hT : Two a b) (h : na = 0 ∨ nb = 0) : Fin' (a.toList ++ b.toList) (a.extract 0 na ++ b.extract 0 nb ++ out.reverse).toList := by
  have e : (a.extract 0 na ++ b.extract 0 nb ++ out.reverse).toList = head a b na nb ++ out.toList.reverse := by
    rw [Array.toList_append, Array.toList_append, extract_toList, extract_toList, Array.toList_reverse]; simp
  rw [e]
  refine MH.fin I (List.Perm.refl _) ?_
  unfold head
  rcases h with h | h
  · rw [h, List.take_zero, List.nil_append]; exact hT.sB.take _
  · rw [h, List.take_zero, List.append_nil]; exact hT.sA.take _
theorem MU.firstB (I : MU a b out na nb) (hT : Two a b) (h : nb = 1) : Fin' (a.toList ++ b.toList) (b.extract 0 nb ++ a.extract 0 na ++ out.reverse).toList := by
  have e : (b.extract 0 nb ++ a.extract 0 na ++ out.reverse).toList = (b.toList.take nb ++ a.toList.take na) ++ out.toList.reverse := by
    rw [Array.toList_append, Array.toList_append, extract_toList, extract_toList, Array.toList_reverse]; simp
  rw [e]
  refine MH.fin I List.perm_append_comm ?_
  refine List.pairwise_append.mpr ⟨hT.sB.take _, hT.sA.take _, fun x hx y hy => ?_⟩
  obtain ⟨j, hj, h1, h2⟩ := mem_take hx
  have nB := hT.nB
  have hj' : j = 0 := by omega
  have := hT.first y (List.mem_of_mem_take hy)
  have : x = b[0] := by rw [← h2]; subst hj'; simp
  rw [this]; assumption
end

section
variable {prog : Program} {w : World} {A : Around} {E : Value → Shared → Prop} {s : Shared} {st : SortSt}

structure HiI (a b : Array Keyed) (st₀ : SortSt) (n : Nat) (r : Option (Array Keyed)) (out : Array Keyed) (na nb : Nat) (st : SortSt) : Prop where
  same : SameSt st₀ st
  fin : ∀ x, r = some x → Fin' (a.toList ++ b.toList) x.toList
  go : r = none → MU a b out na nb ∧ 1 ≤ na ∧ na ≤ a.size ∧ 2 ≤ nb ∧ nb ≤ b.size ∧ n + na + nb ≤ a.size + b.size

abbrev GH := Option (Array Keyed) × Nat × Nat × Array Keyed × Nat × Nat × Nat
def hiEnd (a b out : Array Keyed) (na nb mg ac bc : Nat) : SM (ForInStep GH) := do
  let p ← elem' a (na - 1)
  if (na - 1 == 0) = true then pure (ForInStep.done (some (a.extract 0 (na - 1) ++ b.extract 0 nb ++ (out.push p).reverse), na - 1, nb, out.push p, mg, ac, bc))
  else if (decide (ac < 7) && decide (bc < 7)) = true then pure (ForInStep.done (none, na - 1, nb, out.push p, mg, ac, bc))
  else pure (ForInStep.yield (none, na - 1, nb, out.push p, mg, ac, bc))
def hiMid (a b out : Array Keyed) (na nb mg ac bc : Nat) : SM (ForInStep GH) := do
  let p ← elem' b (nb - 1)
  if (nb - 1 == 1) = true then pure (ForInStep.done (some (b.extract 0 (nb - 1) ++ a.extract 0 na ++ (out.push p).reverse), na, nb - 1, out.push p, mg, ac, bc))
  else do
    let q ← elem' a (na - 1)
    let x ← gallop' true q b 0 (nb - 1) (nb - 1 - 1)
    match x with
    | some k =>
      if nb - 1 - k > 0 then
        if (k == 1) = true then pure (ForInStep.done (some (b.extract 0 k ++ a.extract 0 na ++ (out.push p ++ (b.extract k (nb - 1)).reverse).reverse), na, k, out.push p ++ (b.extract k (nb - 1)).reverse, mg, ac, nb - 1 - k))
        else if (k == 0) = true then pure (ForInStep.done (some (a.extract 0 na ++ b.extract 0 k ++ (out.push p ++ (b.extract k (nb - 1)).reverse).reverse), na, k, out.push p ++ (b.extract k (nb - 1)).reverse, mg, ac, nb - 1 - k))
        else hiEnd a b (out.push p ++ (b.extract k (nb - 1)).reverse) na k mg ac (nb - 1 - k)
      else hiEnd a b (out.push p) na (nb - 1) mg ac (nb - 1 - k)
    | _ => pure (ForInStep.done (some (a.extract 0 na ++ b.extract 0 (nb - 1) ++ (out.push p).reverse), na, nb - 1, out.push p, mg, ac, bc))

def HiR (a b : Array Keyed) (st₀ : SortSt) (n m : Nat) (r : ForInStep GH) (st : SortSt) : Prop := match r with
  | .done c => ∃ r out na nb mg ac bc, c = (r, na, nb, out, mg, ac, bc) ∧ HiI a b st₀ n r out na nb st
  | .yield c => ∃ r out na nb mg ac bc, c = (r, na, nb, out, mg, ac, bc) ∧ r = none ∧ HiI a b st₀ m r out na nb st

theorem wpS_hiEnd {a b out : Array Keyed} {na nb mg ac bc n m : Nat} {st₀ : SortSt} (hT : Two a b) (sm : SameSt st₀ st) (I : MU a b out na nb) (g1 : 1 ≤ na) (g2 : na ≤ a.size) (g3 : 2 ≤ nb) (g4 : nb ≤ b.size) (hn : n + na + nb ≤ a.size + b.size + 1) (hm : m + na + nb ≤ a.size + b.size + 1)
    (hle : ∀ y ∈ b.toList.take nb, key y ≤ key a[na - 1]) : wpS (model prog w) A E s (hiEnd a b out na nb mg ac bc) (HiR a b st₀ n m) st := by
  unfold hiEnd
  obtain ⟨k, rfl⟩ : ∃ k, na = k + 1 := ⟨na - 1, by omega⟩
  simp only [Nat.add_sub_cancel] at hle ⊢
  refine wpS_bind (wpS_elem (show k < a.size by omega) ?_)
  have I2 := I.pushA hT (by omega) hle
  by_cases e1 : k = 0
  · rw [if_pos (by simpa using e1)]
    exact wpS_pure ⟨_, _, _, _, _, _, _, rfl, ⟨sm, fun z hz => by cases hz; exact I2.done hT (.inl e1), fun hz => by cases hz⟩⟩
  · rw [if_neg (by simpa using e1)]
    have L : ∀ q, q + (k + 1) + nb ≤ a.size + b.size + 1 → HiI a b st₀ q none (out.push a[k]) k nb st := fun q hq => ⟨sm, fun z hz => (by cases hz), fun _ => ⟨I2, by omega, by omega, g3, g4, by omega⟩⟩
    split
    · exact wpS_pure ⟨_, _, _, _, _, _, _, rfl, L n hn⟩
    · exact wpS_pure ⟨_, _, _, _, _, _, _, rfl, rfl, L m hm⟩

theorem wpS_hiMid {a b out : Array Keyed} {na nb mg ac bc n m : Nat} {st₀ : SortSt} (hT : Two a b) (hk : kindOf st = oneType') (sm : SameSt st₀ st) (I : MU a b out na nb) (g1 : 1 ≤ na) (g2 : na ≤ a.size) (g3 : 2 ≤ nb) (g4 : nb ≤ b.size) (hn : n + na + nb ≤ a.size + b.size + 2) (hm : m + na + nb ≤ a.size + b.size + 2)
    (hle : ∀ y ∈ a.toList.take na, key y ≤ key b[nb - 1]) : wpS (model prog w) A E s (hiMid a b out na nb mg ac bc) (HiR a b st₀ n m) st := by
  unfold hiMid
  obtain ⟨c, rfl⟩ : ∃ c, nb = c + 1 := ⟨nb - 1, by omega⟩
  simp only [Nat.add_sub_cancel] at hle ⊢
  refine wpS_bind (wpS_elem (show c < b.size by omega) ?_)
  have I2 := I.pushB hT (by omega) hle
  by_cases e1 : c = 1
  · rw [if_pos (by simpa using e1)]
    exact wpS_pure ⟨_, _, _, _, _, _, _, rfl, ⟨sm, fun z hz => by cases hz; exact I2.firstB hT e1, fun hz => by cases hz⟩⟩
  · rw [if_neg (by simpa using e1)]
    refine wpS_bind (wpS_elem (show na - 1 < a.size by omega) ?_)
    have bget : ∀ i (hi : i < b.size), b.getD (0 + i) a[na - 1] = b[i] := fun i hi => by simp [Array.getD, hi]
    refine wpS_bind (wpS_gallop hk hT.iB (hT.iA _ (by simp)) (by omega) (by omega) (fun i j hij hj => ?_) fun k k1 k2 k3 => ?_)
    · rw [bget i (by omega), bget j (by omega)]
      have := hT.sB.get (i := i) (j := j) (by omega) (by simp; omega)
      simpa using this
    · have lt : ∀ x ∈ b.toList.take k, key x ≤ key a[na - 1] := fun x hx => by
        obtain ⟨j, hj, h1, h2⟩ := mem_take hx
        have hj' : j < b.size := by simpa using hj
        have := k2 j h1
        unfold bB at this
        rw [if_pos rfl, decide_eq_true_eq, bget _ hj'] at this
        rw [← h2]; simp only [Array.getElem_toList]; omega
      have ge : ∀ y ∈ (b.toList.drop k).take (c - k), key a[na - 1] ≤ key y := fun y hy => by
        obtain ⟨j, hj, h1, h2, h3⟩ := mem_cut hy
        have hj' : j < b.size := by simpa using hj
        have := k3 j h1 (by omega)
        unfold bB at this
        rw [if_pos rfl, decide_eq_false_iff_not, bget _ hj'] at this
        rw [← h3]; simp only [Array.getElem_toList]; omega
      have asc : ∀ y ∈ a.toList.take na, key y ≤ key a[na - 1] := fun y hy => by
        obtain ⟨j, hj, h1, h2⟩ := mem_take hy
        have := hT.sA.get (i := j) (j := na - 1) (by omega) (by simp; omega)
        rw [h2] at this
        simpa using this
      have I3 := I2.chunkB hT k1 fun x hx y hy => by have := asc x hx; have := ge y hy; omega
      dsimp only
      by_cases k0 : c - k > 0
      · rw [if_pos k0]
        by_cases e2 : k = 1
        · rw [if_pos (by simpa using e2)]
          exact wpS_pure ⟨_, _, _, _, _, _, _, rfl, ⟨sm, fun z hz => by cases hz; exact I3.firstB hT e2, fun hz => by cases hz⟩⟩
        · rw [if_neg (by simpa using e2)]
          by_cases e3 : k = 0
          · rw [if_pos (by simpa using e3)]
            exact wpS_pure ⟨_, _, _, _, _, _, _, rfl, ⟨sm, fun z hz => by cases hz; exact I3.done hT (.inr e3), fun hz => by cases hz⟩⟩
          · rw [if_neg (by simpa using e3)]
            exact wpS_hiEnd hT sm I3 g1 g2 (by omega) (by omega) (by omega) (by omega) lt
      · rw [if_neg k0]
        have : k = c := by omega
        subst this
        exact wpS_hiEnd hT sm I2 g1 g2 (by omega) (by omega) (by omega) (by omega) lt

theorem wpS_mergeHi {a b : Array Keyed} {Q : Array Keyed → SortSt → Prop} (hT : Two a b) (hk : kindOf st = oneType')
    (h : ∀ r st', SameSt st st' → Fin' (a.toList ++ b.toList) r.toList → Q r st') : wpS (model prog w) A E s (mergeHi' a b) Q st := by
  have nA := hT.nA
  have nB := hT.nB
  show wpS _ _ _ _ (liftM (rule "list.sort.merge-hi") >>= _) Q st
  refine wpS_bind (wpS_lift (wpAny_rule ⟨rfl, ?_⟩))
  try dsimp only
  show wpS _ _ _ _ (elem' a (a.size - 1) >>= _) Q st
  refine wpS_bind (wpS_elem (show a.size - 1 < a.size by omega) ?_)
  try dsimp only
  have I0 : MU a b #[a[a.size - 1]] (a.size - 1) b.size := by
    have i0 : MU a b #[] (a.size - 1 + 1) b.size := by
      rw [show a.size - 1 + 1 = a.size from by omega]
      refine ⟨?_, by simp, fun x _ y hy => by simp at hy⟩
      unfold head
      rw [List.take_of_length_le (by simp), List.take_of_length_le (by simp)]
      simp
    have := i0.pushA hT (by omega) fun y hy => by have := hT.last y (List.mem_of_mem_take hy); omega
    simpa using this
  by_cases c1 : a.size - 1 = 0
  · rw [if_pos (by simpa using c1)]
    exact wpS_pure (h _ _ (.refl st) (I0.done hT (.inl c1)))
  rw [if_neg (by simpa using c1)]
  by_cases c2 : b.size = 1
  · rw [if_pos (by simpa using c2)]
    exact wpS_pure (h _ _ (.refl st) (I0.firstB hT c2))
  rw [if_neg (by simpa using c2)]
  refine wpS_bind (wpS_get ?_)
  try dsimp only
  refine wpS_bind (wpS_mono (wpS_forRange (I := fun x c st' => ∃ r out na nb mg, c = (r, na, nb, out, mg) ∧ r = none ∧ HiI a b st (x + 1) r out na nb st')
    (Q := fun c st' => ∃ r out na nb mg, c = (r, na, nb, out, mg) ∧ HiI a b st (a.size + b.size + 1) r out na nb st') ?ostep ?ofin ?oinit) ?opost)
  case oinit => exact ⟨none, _, a.size - 1, b.size, _, rfl, rfl, ⟨.refl st, fun x hx => (by cases hx), fun _ => ⟨I0, by omega, by omega, by omega, by omega, by omega⟩⟩⟩
  case ofin =>
    rintro c st' ⟨r, out, na, nb, mg, rfl, rfl, L⟩
    obtain ⟨g1, g2, g3, g4, g5, g6⟩ := L.go rfl
    exfalso; omega
  case opost =>
    rintro c st' ⟨r, out, na, nb, mg, rfl, L⟩
    try dsimp only
    cases r with
    | none =>
      obtain ⟨g1, g2, g3, g4, g5, g6⟩ := L.go rfl
      exfalso; omega
    | some r => exact wpS_pure (h r st' L.same (L.fin r rfl))
  case ostep =>
    rintro x c st1 _ hx ⟨r, out, na, nb, mg, rfl, rfl, L⟩
    try dsimp only
    refine wpS_bind (wpS_mono (wpS_forRange (I := fun _ c st' => ∃ r out na nb ac bc, c = (r, na, nb, out, ac, bc) ∧ r = none ∧ HiI a b st (x + 1) r out na nb st')
      (Q := fun c st' => ∃ r out na nb ac bc, c = (r, na, nb, out, ac, bc) ∧ HiI a b st (x + 1) r out na nb st') ?istep ?ifin ?iinit) ?ipost)
    case iinit => exact ⟨none, out, na, nb, 0, 0, rfl, rfl, L⟩
    case ifin => rintro c st' ⟨r, out, na, nb, ac, bc, rfl, rfl, L⟩; exact ⟨none, out, na, nb, ac, bc, rfl, L⟩
    case istep =>
      rintro y c st2 _ hy ⟨r, out, na, nb, ac, bc, rfl, rfl, L⟩
      obtain ⟨I, g1, g2, g3, g4, g5⟩ := L.go rfl
      have sm := L.same
      obtain ⟨p, rfl⟩ : ∃ p, na = p + 1 := ⟨na - 1, by omega⟩
      obtain ⟨q, rfl⟩ : ∃ q, nb = q + 1 := ⟨nb - 1, by omega⟩
      try dsimp only
      simp only [Nat.add_sub_cancel]
      show wpS _ _ _ _ (elem' b q >>= _) _ st2
      refine wpS_bind (wpS_elem (show q < b.size by omega) ?_)
      show wpS _ _ _ _ (elem' a p >>= _) _ st2
      refine wpS_bind (wpS_elem (show p < a.size by omega) ?_)
      refine wpS_bind (wpS_lt (sm.kind.trans hk) (hT.iB _ (by simp)) (hT.iA _ (by simp)) ?_)
      by_cases hlt : key b[q] < key a[p]
      · rw [decide_eq_true hlt]
        try dsimp only
        rw [if_pos rfl]
        show wpS _ _ _ _ (elem' a p >>= _) _ st2
        refine wpS_bind (wpS_elem (show p < a.size by omega) ?_)
        try dsimp only
        have I2 : MU a b (out.push a[p]) p (q + 1) := I.pushA hT (by omega) fun z hz => by
          obtain ⟨j, hj, h1, h2⟩ := mem_take hz
          have := hT.sB.get (i := j) (j := q) (by omega) (by simp; omega)
          rw [h2] at this
          simp only [Array.getElem_toList] at this
          omega
        by_cases e1 : p = 0
        · rw [if_pos (by simpa using e1)]
          exact wpS_pure ⟨_, _, _, _, _, _, rfl, ⟨sm, fun z hz => by cases hz; exact I2.done hT (.inl e1), fun hz => by cases hz⟩⟩
        · rw [if_neg (by simpa using e1)]
          by_cases e2 : ac + 1 ≥ mg
          · rw [if_pos e2]
            exact wpS_pure ⟨_, _, _, _, _, _, rfl, ⟨sm, fun z hz => (by cases hz), fun _ => ⟨I2, by omega, by omega, by omega, by omega, by omega⟩⟩⟩
          · rw [if_neg e2]
            exact wpS_pure ⟨_, _, _, _, _, _, rfl, rfl, ⟨sm, fun z hz => (by cases hz), fun _ => ⟨I2, by omega, by omega, by omega, by omega, by omega⟩⟩⟩
      · rw [decide_eq_false hlt]
        try dsimp only
        rw [if_neg (by decide)]
        show wpS _ _ _ _ (elem' b q >>= _) _ st2
        refine wpS_bind (wpS_elem (show q < b.size by omega) ?_)
        try dsimp only
        have I2 : MU a b (out.push b[q]) (p + 1) q := I.pushB hT (by omega) fun z hz => by
          obtain ⟨j, hj, h1, h2⟩ := mem_take hz
          have := hT.sA.get (i := j) (j := p) (by omega) (by simp; omega)
          rw [h2] at this
          simp only [Array.getElem_toList] at this
          omega
        by_cases e1 : q = 1
        · rw [if_pos (by simpa using e1)]
          exact wpS_pure ⟨_, _, _, _, _, _, rfl, ⟨sm, fun z hz => by cases hz; exact I2.firstB hT e1, fun hz => by cases hz⟩⟩
        · rw [if_neg (by simpa using e1)]
          by_cases e2 : bc + 1 ≥ mg
          · rw [if_pos e2]
            exact wpS_pure ⟨_, _, _, _, _, _, rfl, ⟨sm, fun z hz => (by cases hz), fun _ => ⟨I2, by omega, by omega, by omega, by omega, by omega⟩⟩⟩
          · rw [if_neg e2]
            exact wpS_pure ⟨_, _, _, _, _, _, rfl, rfl, ⟨sm, fun z hz => (by cases hz), fun _ => ⟨I2, by omega, by omega, by omega, by omega, by omega⟩⟩⟩
    case ipost =>
      rintro c st2 ⟨r, out, na, nb, ac, bc, rfl, L⟩
      try dsimp only
      cases r with
      | some r => exact wpS_pure ⟨_, _, _, _, _, rfl, ⟨L.same, L.fin, fun hz => by cases hz⟩⟩
      | none =>
        try dsimp only
        refine wpS_bind (wpS_lift (wpAny_rule ⟨rfl, ?_⟩))
        try dsimp only
        refine wpS_bind (wpS_mono (wpS_forRange (I := fun y c st' => ∃ r out na nb mg ac bc, c = (r, na, nb, out, mg, ac, bc) ∧ r = none ∧ HiI a b st (x + 1 + y) r out na nb st')
          (Q := fun c st' => ∃ r out na nb mg ac bc, c = (r, na, nb, out, mg, ac, bc) ∧ HiI a b st (x + 1 + 1) r out na nb st') ?gstep ?gfin ?ginit) ?gpost)
        case ginit => exact ⟨none, out, na, nb, _, ac, bc, rfl, rfl, L⟩
        case gfin =>
          rintro c st' ⟨r, out, na, nb, mg, ac, bc, rfl, rfl, L⟩
          obtain ⟨q1, q2, q3, q4, q5, q6⟩ := L.go rfl
          exact ⟨none, out, na, nb, mg, ac, bc, rfl, ⟨L.same, L.fin, fun _ => ⟨q1, q2, q3, q4, q5, by omega⟩⟩⟩
        case gpost =>
          rintro c st' ⟨r, out, na, nb, mg, ac, bc, rfl, L⟩
          try dsimp only
          cases r with
          | some r => exact wpS_pure ⟨_, _, _, _, _, rfl, ⟨L.same, L.fin, fun hz => by cases hz⟩⟩
          | none =>
            try dsimp only
            show wpS _ _ _ _ (setMG' _ >>= _) _ st'
            exact wpS_bind (wpS_setMG fun st'' sm => wpS_pure ⟨_, _, _, _, _, rfl, rfl, ⟨L.same.trans sm, L.fin, L.go⟩⟩)
        case gstep =>
          rintro y c st3 _ hy ⟨r, out, na, nb, mg, ac, bc, rfl, rfl, L⟩
          obtain ⟨I, g1, g2, g3, g4, g5⟩ := L.go rfl
          have sm := L.same
          have aget : ∀ i (hi : i < a.size), a.getD (0 + i) (b[nb - 1]'(by omega)) = a[i] := fun i hi => by simp [Array.getD, hi]
          try dsimp only
          by_cases hmg : mg > 1
          all_goals
            first | rw [if_pos hmg] | rw [if_neg hmg]
            show wpS _ _ _ _ (setMG' _ >>= _) _ st3
            refine wpS_bind (wpS_setMG fun st4 sm4 => ?_)
            have sm5 := sm.trans sm4
            try dsimp only
            show wpS _ _ _ _ (elem' b (nb - 1) >>= _) _ st4
            refine wpS_bind (wpS_elem (show nb - 1 < b.size by omega) ?_)
            show wpS _ _ _ _ (gallop' false b[nb - 1] a 0 na (na - 1) >>= _) _ st4
            refine wpS_bind (wpS_gallop (sm5.kind.trans hk) hT.iA (hT.iB _ (by simp)) (by omega) (by omega) (fun i j hij hj => ?_) fun k k1 k2 k3 => ?_)
            · rw [aget i (by omega), aget j (by omega)]
              have := hT.sA.get (i := i) (j := j) (by omega) (by simp; omega)
              simpa using this
            · have le : ∀ x ∈ a.toList.take k, key x ≤ key b[nb - 1] := fun x hx => by
                obtain ⟨j, hj, h1, h2⟩ := mem_take hx
                have hj' : j < a.size := by simpa using hj
                have := k2 j h1
                unfold bB at this
                rw [if_neg (by decide), Bool.not_eq_true', decide_eq_false_iff_not, aget _ hj'] at this
                rw [← h2]; simp only [Array.getElem_toList]; omega
              have ge : ∀ y ∈ (a.toList.drop k).take (na - k), key b[nb - 1] ≤ key y := fun y hy => by
                obtain ⟨j, hj, h1, h2, h3⟩ := mem_cut hy
                have hj' : j < a.size := by simpa using hj
                have := k3 j h1 (by omega)
                unfold bB at this
                rw [if_neg (by decide), Bool.not_eq_false', decide_eq_true_eq, aget _ hj'] at this
                rw [← h3]; simp only [Array.getElem_toList]; omega
              have bsc : ∀ y ∈ b.toList.take nb, key y ≤ key b[nb - 1] := fun y hy => by
                obtain ⟨j, hj, h1, h2⟩ := mem_take hy
                have := hT.sB.get (i := j) (j := nb - 1) (by omega) (by simp; omega)
                rw [h2] at this
                simpa using this
              have I3 := I.chunkA hT k1 fun x hx y hy => by have := bsc x hx; have := ge y hy; omega
              try dsimp only
              by_cases k0 : na - k > 0
              · rw [if_pos k0]
                by_cases e2 : k = 0
                · rw [if_pos (by simpa using e2)]
                  exact wpS_pure ⟨_, _, _, _, _, _, _, rfl, ⟨sm5, fun z hz => by cases hz; exact I3.done hT (.inl e2), fun hz => by cases hz⟩⟩
                · rw [if_neg (by simpa using e2)]
                  refine wpS_mono (wpS_hiMid (n := x + 1 + 1) (m := x + 1 + (y + 1)) hT (sm5.kind.trans hk) sm5 I3 (by omega) (by omega) g3 g4 (by omega) (by omega) le) fun r st' hr => ?_
                  cases r <;> exact hr
              · rw [if_neg k0]
                have : k = na := by omega
                subst this
                refine wpS_mono (wpS_hiMid (n := x + 1 + 1) (m := x + 1 + (y + 1)) hT (sm5.kind.trans hk) sm5 I g1 g2 g3 g4 (by omega) (by omega) le) fun r st' hr => ?_
                cases r <;> exact hr
end
end MineS
end

section
open PySem PyProof.Rows
set_option maxRecDepth 100000
namespace MineS

/-! ## S5. Two runs become one -/
theorem write_toList (o : Nat) : ∀ (l : List Keyed) (j : Nat) (arr : Array Keyed), o + j + l.length ≤ arr.size →
    ((l.zipIdx j).foldl (fun a x => match x with | (p, j) => a.setIfInBounds (o + j) p) arr).toList = arr.toList.take (o + j) ++ l ++ arr.toList.drop (o + j + l.length)
  | [], j, arr, h => by simp
  | p :: r, j, arr, h => by
    simp only [List.length_cons] at h
    rw [List.zipIdx_cons, List.foldl_cons]
    show ((r.zipIdx (j + 1)).foldl _ (arr.setIfInBounds (o + j) p)).toList = _
    rw [write_toList o r (j + 1) (arr.setIfInBounds (o + j) p) (by simp; omega)]
    rw [Array.toList_setIfInBounds]
    have hlt : o + j < arr.toList.length := by simp; omega
    have e1 : (arr.toList.set (o + j) p).take (o + (j + 1)) = arr.toList.take (o + j) ++ [p] := by
      rw [show o + (j + 1) = o + j + 1 from by omega, List.take_succ_eq_append_getElem (by simpa using hlt), List.take_set_of_le (Nat.le_refl _)]
      simp
    have e2 : (arr.toList.set (o + j) p).drop (o + (j + 1) + r.length) = arr.toList.drop (o + j + (r.length + 1)) := by
      rw [show o + (j + 1) + r.length = o + j + (r.length + 1) from by omega, List.drop_set_of_lt (by omega)]
    rw [e1, e2]
    simp

section
variable {prog : Program} {w : World} {A : Around} {E : Value → Shared → Prop} {s : Shared} {st : SortSt}
theorem wpS_set {M : Model} {v : SortSt} {Q : PUnit → SortSt → Prop} (h : Q ⟨⟩ v) : wpS M A E s (set v : SM PUnit) Q st := by
  unfold wpS; rw [StateT.run_set]; exact wpAny_pure ⟨rfl, h⟩

theorem four {L : List Keyed} {k n1 nb : Nat} (h1 : k ≤ n1) : L = L.take k ++ ((L.drop k).take (n1 - k) ++ ((L.drop n1).take nb ++ L.drop (n1 + nb))) := by
  have a := List.take_append_drop n1 L
  rw [take_cut L h1, drop_cut L (i := n1) (k := nb), List.append_assoc] at a
  exact a.symm

theorem wpS_mergeAt {n1 n2 pw q : Nat} {Q : Bool → SortSt → Prop} (hk : kindOf st = oneType') (hf : failedOf st = none) (hp : pendingOf st = #[(0, n1, pw), (n1, n2, q)]) (hi : AllI (arrOf st).toList)
    (h1 : 0 < n1) (h2 : 0 < n2) (hs : (arrOf st).size = n1 + n2) (sA : Srt ((arrOf st).toList.take n1)) (sB : Srt ((arrOf st).toList.drop n1))
    (h : ∀ st', kindOf st' = oneType' → failedOf st' = none → pendingOf st' = #[(0, n1 + n2, pw)] → Fin' (arrOf st).toList (arrOf st').toList → Q true st') :
    wpS (model prog w) A E s (mergeAt' 0) Q st := by
  show wpS _ _ _ _ (get >>= _) Q st
  refine wpS_bind (wpS_get ?_)
  have p0 : (pendingOf st)[0]? = some (0, n1, pw) := by rw [hp]; rfl
  have p1 : (pendingOf st)[0 + 1]? = some (n1, n2, q) := by rw [hp]; rfl
  rw [p0, p1]
  try dsimp only
  refine wpS_bind (wpS_set ?_)
  show wpS _ _ _ _ (elem' (arrOf st) n1 >>= _) Q (SortSt.mk' (kindOf st) (arrOf st) (((pendingOf st).setIfInBounds 0 (0, n1 + n2, pw)).eraseIdxIfInBounds (0 + 1)) (gallopOf st) (failedOf st))
  generalize hst : SortSt.mk' (kindOf st) (arrOf st) (((pendingOf st).setIfInBounds 0 (0, n1 + n2, pw)).eraseIdxIfInBounds (0 + 1)) (gallopOf st) (failedOf st) = st1
  have k1 : kindOf st1 = oneType' := by rw [← hst]; exact hk
  have a1 : arrOf st1 = arrOf st := by rw [← hst]
  have f1 : failedOf st1 = none := by rw [← hst]; exact hf
  have q1 : pendingOf st1 = #[(0, n1 + n2, pw)] := by rw [← hst]; show ((pendingOf st).setIfInBounds 0 (0, n1 + n2, pw)).eraseIdxIfInBounds (0 + 1) = _; rw [hp]; simp [Array.eraseIdxIfInBounds]
  clear hst
  have hA : ∀ i j, (hij : i ≤ j) → (hj : j < n1) → key ((arrOf st)[i]'(by omega)) ≤ key ((arrOf st)[j]'(by omega)) := fun i j hij hj => by
    have := sA.get (i := i) (j := j) hij (by simp; omega)
    simpa using this
  have hB : ∀ i j, (hi : n1 ≤ i) → (hij : i ≤ j) → (hj : j < n1 + n2) → key ((arrOf st)[i]'(by omega)) ≤ key ((arrOf st)[j]'(by omega)) := fun i j hi hij hj => by
    have := sB.get (i := i - n1) (j := j - n1) (by omega) (by simp; omega)
    simpa [show n1 + (i - n1) = i from by omega, show n1 + (j - n1) = j from by omega] using this
  have II : ∀ i (hi' : i < (arrOf st).size), IsI (arrOf st)[i] := fun i hi' => hi _ (by simp)
  show wpS _ _ _ _ (elem' (arrOf st) n1 >>= _) Q st1
  refine wpS_bind (wpS_elem (show n1 < (arrOf st).size by omega) ?_)
  show wpS _ _ _ _ (gallop' false (arrOf st)[n1] (arrOf st) 0 n1 0 >>= _) Q st1
  have get0 : ∀ i (d : Keyed) (hi : i < (arrOf st).size), (arrOf st).getD (0 + i) d = (arrOf st)[i] := fun i d hi => by simp [Array.getD, hi]
  have getn : ∀ i (d : Keyed) (hi : n1 + i < (arrOf st).size), (arrOf st).getD (n1 + i) d = (arrOf st)[n1 + i] := fun i d hi => by simp [Array.getD, hi]
  refine wpS_bind (wpS_gallop k1 hi (II _ _) (by omega) h1 (fun i j hij hj => by rw [get0 i _ (by omega), get0 j _ (by omega)]; exact hA i j hij hj) fun k b1 b2 b3 => ?_)
  have low : ∀ i, (hi : i < k) → key ((arrOf st)[i]'(by omega)) ≤ key ((arrOf st)[n1]'(by omega)) := fun i hi => by
    have := b2 i hi
    unfold bB at this
    rw [if_neg (by decide), Bool.not_eq_true', decide_eq_false_iff_not, get0 _ _ (by omega)] at this
    omega
  have high : ∀ i, (hk : k ≤ i) → (hi : i < n1) → key ((arrOf st)[n1]'(by omega)) < key ((arrOf st)[i]'(by omega)) := fun i hk hi => by
    have := b3 i hk hi
    unfold bB at this
    rw [if_neg (by decide), Bool.not_eq_false', decide_eq_true_eq, get0 _ _ (by omega)] at this
    exact this
  try dsimp only
  -- in order as they stand
  have whole : (∀ i j, (hi : i < n1) → (hjj : n1 ≤ j) → (hj : j < n1 + n2) → key ((arrOf st)[i]'(by omega)) ≤ key ((arrOf st)[j]'(by omega))) → Q true st1 := fun ord => by
    refine h st1 k1 f1 q1 ?_
    rw [a1]
    refine ⟨List.Perm.refl _, ?_⟩
    show List.Pairwise _ _
    rw [← List.take_append_drop n1 (arrOf st).toList]
    refine List.pairwise_append.mpr ⟨sA, sB, fun x hx y hy => ?_⟩
    obtain ⟨i, hi, g1, g2⟩ := mem_take hx
    obtain ⟨j, hj, g3, g4⟩ := mem_drop hy
    have hj' : j < n1 + n2 := by rw [← hs]; simpa using hj
    have := ord i j g1 g3 hj'
    rw [← g2, ← g4]
    simpa using this
  by_cases c1 : n1 - k = 0
  · rw [if_pos (by simpa using c1)]
    refine wpS_pure (whole fun i j hi hj hj' => ?_)
    have := low i (by omega)
    have := hB n1 j (Nat.le_refl _) hj hj'
    omega
  rw [if_neg (by simpa using c1)]
  have ei : 0 + k + (n1 - k) - 1 = n1 - 1 := by omega
  rw [ei]
  show wpS _ _ _ _ (elem' (arrOf st) (n1 - 1) >>= _) Q st1
  refine wpS_bind (wpS_elem (show n1 - 1 < (arrOf st).size by omega) ?_)
  show wpS _ _ _ _ (gallop' true (arrOf st)[n1 - 1] (arrOf st) n1 n2 (n2 - 1) >>= _) Q st1
  refine wpS_bind (wpS_gallop k1 hi (II _ _) (by omega) (by omega) (fun i j hij hj => by rw [getn i _ (by omega), getn j _ (by omega)]; exact hB _ _ (by omega) (by omega) (by omega)) fun nb d1 d2 d3 => ?_)
  have small : ∀ j, (hjj : n1 ≤ j) → (hj : j < n1 + nb) → key ((arrOf st)[j]'(by omega)) < key ((arrOf st)[n1 - 1]'(by omega)) := fun j hj hj' => by
    have := d2 (j - n1) (by omega)
    unfold bB at this
    rw [if_pos rfl, decide_eq_true_eq, getn _ _ (by omega)] at this
    simpa [show n1 + (j - n1) = j from by omega] using this
  have big : ∀ j, (hjj : n1 + nb ≤ j) → (hj : j < n1 + n2) → key ((arrOf st)[n1 - 1]'(by omega)) ≤ key ((arrOf st)[j]'(by omega)) := fun j hj hj' => by
    have := d3 (j - n1) (by omega) (by omega)
    unfold bB at this
    rw [if_pos rfl, decide_eq_false_iff_not, getn _ _ (by omega)] at this
    have : ¬ key ((arrOf st)[j]'(by omega)) < key ((arrOf st)[n1 - 1]'(by omega)) := by simpa [show n1 + (j - n1) = j from by omega] using this
    omega
  try dsimp only
  by_cases c2 : nb = 0
  · rw [if_pos (by simpa using c2)]
    refine wpS_pure (whole fun i j hi hj hj' => ?_)
    have := big j (by omega) hj'
    have := hA i (n1 - 1) (by omega) (by omega)
    omega
  rw [if_neg (by simpa using c2)]
  have ex : ((arrOf st).extract (0 + k) n1).toList = ((arrOf st).toList.drop k).take (n1 - k) := by rw [extract_toList]; simp
  have ey : ((arrOf st).extract n1 (n1 + nb)).toList = ((arrOf st).toList.drop n1).take nb := by rw [extract_toList]; simp
  have zx : ((arrOf st).extract (0 + k) n1).size = n1 - k := by simp; omega
  have zy : ((arrOf st).extract n1 (n1 + nb)).size = nb := by simp; omega
  have hT : Two ((arrOf st).extract (0 + k) n1) ((arrOf st).extract n1 (n1 + nb)) := by
    refine ⟨?_, ?_, fun p hp => ?_, fun p hp => ?_, by omega, by omega, fun x hx => ?_, fun x hx => ?_⟩
    · rw [ex]
      have := sA
      rw [take_cut _ b1] at this
      exact (List.pairwise_append.mp this).2.1
    · rw [ey]; exact sB.take nb
    · rw [ex] at hp; exact hi p (List.mem_of_mem_drop (List.mem_of_mem_take hp))
    · rw [ey] at hp; exact hi p (List.mem_of_mem_drop (List.mem_of_mem_take hp))
    · rw [ex] at hx
      obtain ⟨j, hj, g1, g2, g3⟩ := mem_cut hx
      have := high j g1 (by omega)
      rw [← g3]
      simp only [Array.getElem_extract, Array.getElem_toList, Nat.add_zero]
      omega
    · rw [ey] at hx
      obtain ⟨j, hj, g1, g2, g3⟩ := mem_cut hx
      have := small j g1 g2
      rw [← g3]
      have e : 0 + k + (((arrOf st).extract (0 + k) n1).size - 1) = n1 - 1 := by rw [zx]; omega
      simp only [Array.getElem_extract, Array.getElem_toList, e]
      omega
  have fin : ∀ (r : Array Keyed) (st2 : SortSt), SameSt st1 st2 → Fin' (((arrOf st).extract (0 + k) n1).toList ++ ((arrOf st).extract n1 (n1 + nb)).toList) r.toList →
      Q true (SortSt.mk' (kindOf st2) (r.toList.zipIdx.foldl (fun a x => match x with | (p, j) => a.setIfInBounds (0 + k + j) p) (arrOf st2)) (pendingOf st2) (gallopOf st2) (failedOf st2)) := fun r st2 sm F => by
    refine h _ (sm.kind.trans k1) (sm.failed.trans f1) (sm.pend.trans q1) ?_
    have hl : r.toList.length = n1 - k + nb := by rw [F.perm.length_eq, List.length_append, Array.length_toList, Array.length_toList, zx, zy]
    show Fin' (arrOf st).toList (r.toList.zipIdx.foldl (fun a x => match x with | (p, j) => a.setIfInBounds (0 + k + j) p) (arrOf st2)).toList
    rw [sm.a.trans a1, write_toList (0 + k) r.toList 0 (arrOf st) (by rw [hl]; omega), hl]
    have e1 : 0 + k + 0 = k := by omega
    have e2 : 0 + k + 0 + (n1 - k + nb) = n1 + nb := by omega
    rw [e2, e1]
    have F4 := four (L := (arrOf st).toList) (nb := nb) b1
    rw [ex, ey] at F
    refine ⟨?_, ?_⟩
    · conv => rhs; rw [F4]
      rw [List.append_assoc]
      refine List.Perm.append_left _ ?_
      rw [← List.append_assoc]
      exact List.Perm.append_right _ F.perm
    · have srtA := sA
      rw [take_cut _ b1] at srtA
      obtain ⟨s1, s2, s3⟩ := List.pairwise_append.mp srtA
      refine List.pairwise_append.mpr ⟨List.pairwise_append.mpr ⟨s1, F.srt, fun x hx y hy => ?_⟩, (by have := sB.drop nb; rwa [List.drop_drop] at this), fun x hx y hy => ?_⟩
      · rcases List.mem_append.mp (F.perm.mem_iff.mp hy) with m | m
        · exact s3 x hx y m
        · obtain ⟨i, hi, g1, g2⟩ := mem_take hx
          obtain ⟨j, hj, g3, g4, g5⟩ := mem_cut m
          have := low i g1
          have := hB n1 j (Nat.le_refl _) g3 (by omega)
          rw [← g2, ← g5]
          simp only [Array.getElem_toList]; omega
      · obtain ⟨j, hj, g3, g4⟩ := mem_drop hy
        have hj' : j < n1 + n2 := by rw [← hs]; simpa using hj
        have bj := big j g3 hj'
        rw [← g4]
        simp only [Array.getElem_toList]
        rcases List.mem_append.mp hx with m | m
        · obtain ⟨i, hi, g1, g2⟩ := mem_take m
          have := hA i (n1 - 1) (by omega) (by omega)
          rw [← g2]; simp only [Array.getElem_toList]; omega
        · rcases List.mem_append.mp (F.perm.mem_iff.mp m) with m | m
          · obtain ⟨i, hi, g1, g2, g5⟩ := mem_cut m
            have := hA i (n1 - 1) (by omega) (by omega)
            rw [← g5]; simp only [Array.getElem_toList]; omega
          · obtain ⟨i, hi, g1, g2, g5⟩ := mem_cut m
            have := hB i j g1 (by omega) hj'
            rw [← g5]; simp only [Array.getElem_toList]; omega
  have tail : ∀ (r : Array Keyed) (st2 : SortSt), SameSt st1 st2 → Fin' (((arrOf st).extract (0 + k) n1).toList ++ ((arrOf st).extract n1 (n1 + nb)).toList) r.toList →
      wpS (model prog w) A E s (do
        modify fun (x : SortSt) => SortSt.mk' (kindOf x) (r.toList.zipIdx.foldl (fun a x => match x with | (p, j) => a.setIfInBounds (0 + k + j) p) (arrOf x)) (pendingOf x) (gallopOf x) (failedOf x)
        let x ← get
        pure (failedOf x).isNone) Q st2 := fun r st2 sm F => by
    refine wpS_bind (wpS_modify (wpS_bind (wpS_get (wpS_pure ?_))))
    have := fin r st2 sm F
    have e : (failedOf st2).isNone = true := by rw [sm.failed, f1]; rfl
    show Q (failedOf st2).isNone _
    rw [e]; exact this
  by_cases c3 : n1 - k ≤ nb
  · rw [if_pos c3]
    show wpS _ _ _ _ (mergeLo' ((arrOf st).extract (0 + k) n1) ((arrOf st).extract n1 (n1 + nb)) >>= _) Q st1
    exact wpS_bind (wpS_mergeLo hT k1 fun r st2 sm F => tail r st2 sm F)
  · rw [if_neg c3]
    show wpS _ _ _ _ (mergeHi' ((arrOf st).extract (0 + k) n1) ((arrOf st).extract n1 (n1 + nb)) >>= _) Q st1
    exact wpS_bind (wpS_mergeHi hT k1 fun r st2 sm F => tail r st2 sm F)
end
end MineS
end

section
open PySem PyProof.Rows
set_option maxRecDepth 100000
namespace MineS

/-! ## S6. A run that begins anywhere -/
structure SG (a₀ : Array Keyed) (p : Array (Nat × Nat × Nat)) (lo : Nat) (st : SortSt) : Prop where
  perm : (arrOf st).Perm a₀
  kind : kindOf st = oneType'
  failed : failedOf st = none
  pend : pendingOf st = p
  low : ∀ k, k < lo → (arrOf st)[k]? = a₀[k]?
def UpIn (xs : Array Keyed) (lo n : Nat) : Prop := ∀ i j, i ≤ j → j < n → K xs (lo + i) ≤ K xs (lo + j)
def DownIn (xs : Array Keyed) (lo n : Nat) : Prop := ∀ i j, i ≤ j → j < n → K xs (lo + j) ≤ K xs (lo + i)

section
variable {a₀ : Array Keyed} {p : Array (Nat × Nat × Nat)} {lo : Nat} {st : SortSt}
theorem SG.size (h : SG a₀ p lo st) : (arrOf st).size = a₀.size := h.perm.size_eq
theorem SG.setArr (h : SG a₀ p lo st) {xs : Array Keyed} (hp : xs.Perm (arrOf st)) (hl : ∀ k, k < lo → xs[k]? = (arrOf st)[k]?) : SG a₀ p lo (setArr st xs) :=
  ⟨hp.trans h.perm, h.kind, h.failed, h.pend, fun k hk => (hl k hk).trans (h.low k hk)⟩
theorem SG.mirror (h : SG a₀ p lo st) {i j : Nat} (hi : lo ≤ i) (hj : j ≤ a₀.size) : SG a₀ p lo (PyProof.Rows.setArr st (PyProof.Rows.mirror (arrOf st) i j ((j - i) / 2))) :=
  h.setArr (mirror_perm _ _ _ _) fun k hk => by rw [getElem?_mirror_all (by rw [h.size]; exact hj), if_neg (by omega)]
theorem SG.bubble (h : SG a₀ p lo st) {src d : Nat} (hs : src < a₀.size) (hd : lo + d ≤ src) : SG a₀ p lo (PyProof.Rows.setArr st (PyProof.Rows.bubble (arrOf st) src d)) :=
  h.setArr (bubble_perm _ _ _) fun k hk => by rw [getElem?_bubble (by rw [h.size]; exact hs) d (by omega), if_neg (by omega), if_neg (by omega)]
end

section
variable {prog : Program} {w : World} {A : Around} {E : Value → Shared → Prop} {s : Shared} {a₀ : Array Keyed} {p : Array (Nat × Nat × Nat)} {lo : Nat} {st : SortSt}

theorem wpS_ltG {i j : Nat} {Q : Option Bool → SortSt → Prop} (hB : SG a₀ p lo st) (h0 : IntKeys a₀) (hi : i < a₀.size) (hj : j < a₀.size)
    (h : Q (some (decide (K (arrOf st) i < K (arrOf st) j))) st) : wpS (model prog w) A E s (ltAt' i j) Q st := by
  have at_ : ∀ i, i < a₀.size → ∃ t q, (arrOf st)[i]? = some (.int (K (arrOf st) i) t, q) := fun i hi => by
    have hi' : i < (arrOf st).size := by rw [hB.size]; exact hi
    have hm : (arrOf st)[i] ∈ a₀.toList := (Array.perm_iff_toList_perm.mp hB.perm).mem_iff.mp (by simp)
    obtain ⟨n, t, hn⟩ := h0 _ hm
    have e : (arrOf st)[i]? = some (Value.int n t, (arrOf st)[i].2) := by rw [getElem?_pos _ i hi']; congr 1; exact Prod.ext hn rfl
    refine ⟨t, (arrOf st)[i].2, ?_⟩
    rw [e]
    have : K (arrOf st) i = n := by unfold K; rw [e]; rfl
    rw [this]
  obtain ⟨t, x, e1⟩ := at_ i hi
  obtain ⟨u, y, e2⟩ := at_ j hj
  exact wpS_ltAt hB.kind e1 e2 h

def ascG (lo a nrem : Nat) : SM (Option (Option Nat) × Nat) :=
  forIn [a:nrem] ((none, a) : Option (Option Nat) × Nat) fun _ c => do
    let x ← ltAt' (lo + c.2) (lo + c.2 - 1)
    match x with
    | some smaller => if smaller = true then pure (ForInStep.done (none, c.2)) else pure (ForInStep.yield (none, c.2 + 1))
    | _ => pure (ForInStep.done (some none, c.2))
theorem wpS_ascG {a nrem : Nat} {Q : Option (Option Nat) × Nat → SortSt → Prop} (h0 : IntKeys a₀) (hn : lo + nrem ≤ a₀.size) (ha : 1 ≤ a) (han : a ≤ nrem) (hB : SG a₀ p lo st) (hs : UpIn (arrOf st) lo a)
    (h : ∀ n, a ≤ n → n ≤ nrem → UpIn (arrOf st) lo n → (n = nrem ∨ K (arrOf st) (lo + n) < K (arrOf st) (lo + n - 1)) → Q (none, n) st) : wpS (model prog w) A E s (ascG lo a nrem) Q st := by
  unfold ascG
  refine wpS_forRange (I := fun x c st' => st' = st ∧ c = (none, x) ∧ UpIn (arrOf st) lo x) ?_ ?_ ⟨rfl, rfl, hs⟩
  · rintro x c st' hax hxn ⟨rfl, rfl, hs'⟩
    dsimp only
    refine wpS_bind (wpS_ltG hB h0 (by omega) (by omega) ?_)
    by_cases hless : K (arrOf st') (lo + x) < K (arrOf st') (lo + x - 1)
    · rw [decide_eq_true hless]
      exact wpS_pure (h x hax (by omega) hs' (.inr hless))
    · rw [decide_eq_false hless]
      refine wpS_pure ⟨rfl, rfl, fun i j hij hj => ?_⟩
      by_cases hjx : j < x
      · exact hs' i j hij hjx
      · have hj' : j = x := by omega
        subst hj'
        by_cases hi' : i = j
        · subst hi'; exact Int.le_refl _
        · have := hs' i (j - 1) (by omega) (by omega)
          rw [show lo + (j - 1) = lo + j - 1 from by omega] at this
          omega
  · rintro c st' ⟨rfl, rfl, hs'⟩
    rw [show max a nrem = nrem from by omega] at hs' ⊢
    exact h nrem han (Nat.le_refl _) hs' (.inl rfl)

def dscG (lo n nrem : Nat) : SM (Option (Option Nat) × Nat × Nat) :=
  forIn [n:nrem] ((none, n, 0) : Option (Option Nat) × Nat × Nat) fun _ c => do
    let x ← ltAt' (lo + c.2.1) (lo + c.2.1 - 1)
    match x with
    | some smaller =>
      if smaller = true then
        if c.2.2 > 0 then do
          reverseSlice' (lo + c.2.1 - (c.2.2 + 1)) (lo + c.2.1)
          pure (ForInStep.yield (none, c.2.1 + 1, 0))
        else pure (ForInStep.yield (none, c.2.1 + 1, 0))
      else do
        let y ← ltAt' (lo + c.2.1 - 1) (lo + c.2.1)
        match y with
        | some larger => if larger = true then pure (ForInStep.done (none, c.2.1, c.2.2)) else pure (ForInStep.yield (none, c.2.1 + 1, c.2.2 + 1))
        | _ => pure (ForInStep.done (some none, c.2.1, c.2.2))
    | _ => pure (ForInStep.done (some none, c.2.1, c.2.2))
theorem wpS_dscG {n nrem : Nat} {Q : Option (Option Nat) × Nat × Nat → SortSt → Prop} (h0 : IntKeys a₀) (hn : lo + nrem ≤ a₀.size) (h1 : 1 ≤ n) (hnn : n ≤ nrem) (hB : SG a₀ p lo st) (hs : DownIn (arrOf st) lo n)
    (h : ∀ m neq st', SG a₀ p lo st' → n ≤ m → m ≤ nrem → DownIn (arrOf st') lo m → neq + 1 ≤ m → (∀ i, lo + m - (neq + 1) ≤ i → i < lo + m → K (arrOf st') i = K (arrOf st') (lo + m - 1)) → Q (none, m, neq) st') :
    wpS (model prog w) A E s (dscG lo n nrem) Q st := by
  unfold dscG
  refine wpS_forRange (I := fun x c st' => ∃ neq, c = (none, x, neq) ∧ SG a₀ p lo st' ∧ DownIn (arrOf st') lo x ∧ neq + 1 ≤ x ∧ (∀ i, lo + x - (neq + 1) ≤ i → i < lo + x → K (arrOf st') i = K (arrOf st') (lo + x - 1))) ?_ ?_ ⟨0, rfl, hB, hs, by omega, fun i h1 h2 => by congr 1; omega⟩
  · rintro x c st' hax hxn ⟨neq, rfl, hB', hs', hq, he⟩
    dsimp only
    refine wpS_bind (wpS_ltG hB' h0 (by omega) (by omega) ?_)
    by_cases hless : K (arrOf st') (lo + x) < K (arrOf st') (lo + x - 1)
    · rw [decide_eq_true hless]
      dsimp only
      rw [if_pos rfl]
      have step1 : ∀ xs : Array Keyed, (∀ k, K xs k = K (arrOf st') k) → DownIn xs lo (x + 1) := fun xs hk i j hij hj => by
        rw [hk, hk]
        by_cases hjx : j < x
        · exact hs' i j hij hjx
        · have hj' : j = x := by omega
          subst hj'
          by_cases hi' : i = j
          · subst hi'; exact Int.le_refl _
          · have := hs' i (j - 1) (by omega) (by omega)
            rw [show lo + (j - 1) = lo + j - 1 from by omega] at this
            omega
      by_cases hneq : neq > 0
      · rw [if_pos hneq]
        refine wpS_bind (wpS_reverse (wpS_pure ⟨0, rfl, hB'.mirror (by omega) (by omega), step1 _ (K_mirror_equal (by rw [hB'.size]; omega) he), by omega, fun i h1 h2 => by congr 1; omega⟩))
      · rw [if_neg hneq]
        exact wpS_pure ⟨0, rfl, hB', step1 _ (fun _ => rfl), by omega, fun i h1 h2 => by congr 1; omega⟩
    · rw [decide_eq_false hless]
      dsimp only
      rw [if_neg (by decide)]
      refine wpS_bind (wpS_ltG hB' h0 (by omega) (by omega) ?_)
      by_cases hlarger : K (arrOf st') (lo + x - 1) < K (arrOf st') (lo + x)
      · rw [decide_eq_true hlarger]
        exact wpS_pure (h x neq st' hB' hax (by omega) hs' hq he)
      · rw [decide_eq_false hlarger]
        have heqx : K (arrOf st') (lo + x) = K (arrOf st') (lo + x - 1) := by omega
        refine wpS_pure ⟨neq + 1, rfl, hB', fun i j hij hj => ?_, by omega, fun i h1 h2 => ?_⟩
        · by_cases hjx : j < x
          · exact hs' i j hij hjx
          · have hj' : j = x := by omega
            subst hj'
            by_cases hi' : i = j
            · subst hi'; exact Int.le_refl _
            · have := hs' i (j - 1) (by omega) (by omega)
              rw [show lo + (j - 1) = lo + j - 1 from by omega] at this
              omega
        · rw [show lo + (x + 1) - 1 = lo + x from by omega]
          by_cases hix : i = lo + x
          · subst hix; rfl
          · rw [heqx]; exact he i (by omega) (by omega)
  · rintro c st' ⟨neq, rfl, hB', hs', hq, he⟩
    rw [show max n nrem = nrem from by omega] at hs' hq he ⊢
    exact h nrem neq st' hB' hnn (Nat.le_refl _) hs' hq he

theorem wpS_countRunG {nrem : Nat} {Q : Option Nat → SortSt → Prop} (h0 : IntKeys a₀) (hn : lo + nrem ≤ a₀.size) (h1 : 1 ≤ nrem) (hB : SG a₀ p lo st)
    (h : ∀ m st', SG a₀ p lo st' → 1 ≤ m → m ≤ nrem → UpIn (arrOf st') lo m → Q (some m) st') : wpS (model prog w) A E s (countRun' lo nrem) Q st := by
  show wpS _ _ _ _ (ascG lo 1 nrem >>= _) Q st
  refine wpS_bind (wpS_ascG h0 hn (Nat.le_refl 1) h1 hB (fun i j hij hj => by
    have : i = j := by omega
    subst this; exact Int.le_refl _) fun n hn1 hn2 hsn hor => ?_)
  try dsimp only
  by_cases hnn : n = nrem
  · rw [if_pos (by simpa using hnn)]
    exact wpS_pure (h n st hB hn1 hn2 hsn)
  rw [if_neg (by simpa using hnn)]
  have hlt : K (arrOf st) (lo + n) < K (arrOf st) (lo + n - 1) := hor.resolve_left hnn
  by_cases hgt : n > 1
  case' pos =>
    rw [if_pos hgt]
    refine wpS_bind (wpS_ltG hB h0 (by omega) (by omega) ?_)
    by_cases hrose : K (arrOf st) lo < K (arrOf st) (lo + n - 1)
    case pos =>
      rw [decide_eq_true hrose]
      exact wpS_pure (h n st hB hn1 hn2 hsn)
    rw [decide_eq_false hrose]
    try dsimp only
    rw [if_neg (by decide)]
    have hall : ∀ k, lo ≤ k → k < lo + n → K (arrOf st) k = K (arrOf st) (lo + n - 1) := fun k hk1 hk2 => by
      have a1 := hsn 0 (k - lo) (by omega) (by omega)
      have a2 := hsn (k - lo) (n - 1) (by omega) (by omega)
      rw [show lo + (k - lo) = k from by omega] at a1 a2
      rw [show lo + (n - 1) = lo + n - 1 from by omega] at a2
      rw [Nat.add_zero] at a1
      omega
    refine wpS_bind (wpS_reverse ?_)
    have hB2 := hB.mirror (i := lo) (j := lo + n) (Nat.le_refl _) (by omega)
    have hN2 : DownIn (arrOf (setArr st (mirror (arrOf st) lo (lo + n) ((lo + n - lo) / 2)))) lo (n + 1) := fun i j hij hj => by
      show K (mirror (arrOf st) lo (lo + n) ((lo + n - lo) / 2)) _ ≤ K (mirror (arrOf st) lo (lo + n) ((lo + n - lo) / 2)) _
      rw [K_mirror_equal (by rw [hB.size]; omega) hall, K_mirror_equal (by rw [hB.size]; omega) hall]
      by_cases hjn : j < n
      · rw [hall (lo + i) (by omega) (by omega), hall (lo + j) (by omega) (by omega)]; exact Int.le_refl _
      · have hj' : j = n := by omega
        subst hj'
        by_cases hi' : i = j
        · subst hi'; exact Int.le_refl _
        · rw [hall (lo + i) (by omega) (by omega)]; omega
    generalize setArr st (mirror (arrOf st) lo (lo + n) ((lo + n - lo) / 2)) = st1 at hB2 hN2 ⊢
  case' neg =>
    rw [if_neg hgt]
    have hB2 := hB
    have hN2 : DownIn (arrOf st) lo (n + 1) := fun i j hij hj => by
      by_cases hi' : i = j
      · subst hi'; exact Int.le_refl _
      · have e1 : i = 0 := by omega
        have e2 : j = 1 := by omega
        have e3 : n = 1 := by omega
        subst e1 e2 e3
        rw [show lo + 1 - 1 = lo + 0 from by omega] at hlt
        omega
  all_goals
    refine wpS_bind (wpS_lift (wpAny_rule ⟨rfl, ?_⟩))
    try dsimp only
    show wpS _ _ _ _ (dscG lo (n + 1) nrem >>= _) Q _
    refine wpS_bind (wpS_dscG h0 hn (by omega) (by omega) hB2 hN2 fun m neq st2 hB3 hm1 hm2 hs2 hq he => ?_)
    try dsimp only
    by_cases hneq : neq > 0
    case' pos =>
      rw [if_pos hneq]
      refine wpS_bind (wpS_reverse ?_)
      have hB4 := hB3.mirror (i := lo + m - (neq + 1)) (j := lo + m) (by omega) (by omega)
      have hN4 : DownIn (arrOf (setArr st2 (mirror (arrOf st2) (lo + m - (neq + 1)) (lo + m) ((lo + m - (lo + m - (neq + 1))) / 2)))) lo m := fun i j hij hj => by
        show K (mirror (arrOf st2) _ _ _) _ ≤ K (mirror (arrOf st2) _ _ _) _
        rw [K_mirror_equal (by rw [hB3.size]; omega) he, K_mirror_equal (by rw [hB3.size]; omega) he]
        exact hs2 i j hij hj
      generalize setArr st2 (mirror (arrOf st2) (lo + m - (neq + 1)) (lo + m) ((lo + m - (lo + m - (neq + 1))) / 2)) = st3 at hB4 hN4 ⊢
    case' neg =>
      rw [if_neg hneq]
      have hB4 := hB3
      have hN4 := hs2
    all_goals
      refine wpS_bind (wpS_reverse ?_)
      have hB5 := hB4.mirror (i := lo) (j := lo + m) (Nat.le_refl _) (by omega)
      show wpS _ _ _ _ (ascG lo m nrem >>= _) Q _
      refine wpS_bind (wpS_ascG h0 hn (by omega) hm2 hB5 (fun i j hij hj => ?_) fun k hk1 hk2 hsk _ => wpS_pure (h k _ hB5 (by omega) hk2 hsk))
      show K (mirror _ lo (lo + m) ((lo + m - lo) / 2)) (lo + i) ≤ K (mirror _ lo (lo + m) ((lo + m - lo) / 2)) (lo + j)
      have hsz := hB4.size
      rw [K_mirror (i := lo) (j := lo + m) (by omega) (lo + i), K_mirror (i := lo) (j := lo + m) (by omega) (lo + j), if_pos (by omega), if_pos (by omega)]
      have := hN4 (m - 1 - j) (m - 1 - i) (by omega) (by omega)
      rw [show lo + (lo + m) - 1 - (lo + i) = lo + (m - 1 - i) from by omega, show lo + (lo + m) - 1 - (lo + j) = lo + (m - 1 - j) from by omega]
      exact this

theorem wpS_binarySortG {n ok : Nat} {Q : Bool → SortSt → Prop} (h0 : IntKeys a₀) (hn : lo + n ≤ a₀.size) (hok : ok ≤ n) (hB : SG a₀ p lo st) (hs : UpIn (arrOf st) lo ok)
    (h : ∀ st', SG a₀ p lo st' → UpIn (arrOf st') lo n → Q true st') : wpS (model prog w) A E s (binarySort' lo n ok) Q st := by
  rw [binarySort'_eq]
  refine wpS_bind (wpS_mono (wpS_forRange (I := fun k c st' => c = (none, ()) ∧ SG a₀ p lo st' ∧ UpIn (arrOf st') lo (min k n)) (Q := fun c st' => c = (none, ()) ∧ SG a₀ p lo st' ∧ UpIn (arrOf st') lo n) ?step ?fin ?init) ?post)
  case post =>
    rintro c st' ⟨rfl, hB', hs'⟩
    exact wpS_pure (h st' hB' hs')
  case init =>
    refine ⟨rfl, hB, fun i j hij hj => ?_⟩
    by_cases h1 : ok = 0
    · have : i = j := by omega
      subst this; exact Int.le_refl _
    · exact hs i j hij (by omega)
  case fin =>
    rintro c st' ⟨hc, hB', hs'⟩
    refine ⟨hc, hB', ?_⟩
    rwa [show min (max (max ok 1) n) n = n from by omega] at hs'
  case step =>
    rintro k c st' hak hkn ⟨rfl, hB', hs'⟩
    rw [show min k n = k from by omega] at hs'
    have hk : lo + k < a₀.size := by omega
    refine wpS_bind (wpS_mono (wpS_forRange (I := fun x c st'' => st'' = st' ∧ ∃ l r, c = (none, l, r) ∧ l ≤ r ∧ r ≤ k ∧ r - l ≤ k - x ∧ (∀ i, i < l → K (arrOf st') (lo + i) ≤ K (arrOf st') (lo + k)) ∧ (∀ i, r ≤ i → i < k → K (arrOf st') (lo + k) < K (arrOf st') (lo + i)))
      (Q := fun c st'' => st'' = st' ∧ ∃ l r, c = (none, l, r) ∧ l ≤ k ∧ (∀ i, i < l → K (arrOf st') (lo + i) ≤ K (arrOf st') (lo + k)) ∧ (∀ i, l ≤ i → i < k → K (arrOf st') (lo + k) < K (arrOf st') (lo + i))) ?istep ?ifin ?iinit) ?ipost)
    case iinit => exact ⟨rfl, 0, k, rfl, by omega, by omega, by omega, fun i hi => by omega, fun i h1 h2 => by omega⟩
    case ifin =>
      rintro c st'' ⟨rfl, l, r, rfl, hlr, hrk, hm, hlo, hhi⟩
      have : l = r := by omega
      subst this
      exact ⟨rfl, l, l, rfl, hrk, hlo, hhi⟩
    case istep =>
      rintro x c st'' _ hxk ⟨rfl, l, r, rfl, hlr, hrk, hm, hlo, hhi⟩
      dsimp only
      by_cases hge : l ≥ r
      · rw [if_pos hge]
        have : l = r := by omega
        subst this
        exact wpS_pure ⟨rfl, l, l, rfl, hrk, hlo, hhi⟩
      · rw [if_neg hge]
        refine wpS_bind (wpS_ltG hB' h0 hk (by omega) ?_)
        by_cases hless : K (arrOf st'') (lo + k) < K (arrOf st'') (lo + (l + r) / 2)
        · simp only [hless, decide_true, if_true]
          refine wpS_pure ⟨rfl, l, (l + r) / 2, rfl, by omega, by omega, by omega, hlo, fun i h1 h2 => ?_⟩
          exact Int.lt_of_lt_of_le hless (hs' _ _ h1 h2)
        · simp only [hless, decide_false, Bool.false_eq_true, if_false]
          refine wpS_pure ⟨rfl, (l + r) / 2 + 1, r, rfl, by omega, by omega, by omega, fun i h1 => ?_, hhi⟩
          exact Int.le_trans (hs' i ((l + r) / 2) (by omega) (by omega)) (Int.not_lt.mp hless)
    case ipost =>
      rintro c st'' ⟨rfl, l, r, rfl, hlk, hlo, hhi⟩
      show wpS _ _ _ _ (do moveDown' (lo + k) (lo + l); pure (ForInStep.yield (none, ()))) _ _
      rw [moveDown'_eq]
      have ed : lo + k - (lo + l) = k - l := by omega
      rw [ed]
      refine wpS_bind (wpS_modify (wpS_pure ⟨rfl, hB'.bubble (src := lo + k) (d := k - l) hk (by omega), ?_⟩))
      rw [show min (k + 1) n = k + 1 from by omega]
      have hks : lo + k < (arrOf st'').size := by rw [hB'.size]; exact hk
      intro i j hij hj
      show K (bubble (arrOf st'') (lo + k) (k - l)) (lo + i) ≤ K (bubble (arrOf st'') (lo + k) (k - l)) (lo + j)
      rw [K_bubble hks (by omega), K_bubble hks (by omega), show lo + k - (k - l) = lo + l from by omega]
      have shift : ∀ i, l < i → lo + i - 1 = lo + (i - 1) := fun i hi => by omega
      by_cases i1 : i = l
      · subst i1
        rw [if_pos rfl]
        by_cases j1 : j = i
        · subst j1; rw [if_pos rfl]; exact Int.le_refl _
        · rw [if_neg (by omega), if_pos (by omega), shift j (by omega)]
          exact Int.le_of_lt (hhi _ (by omega) (by omega))
      · rw [if_neg (by omega)]
        by_cases i2 : i < l
        · rw [if_neg (by omega)]
          by_cases j1 : j = l
          · subst j1; rw [if_pos rfl]; exact hlo i i2
          · rw [if_neg (by omega)]
            by_cases j2 : j < l
            · rw [if_neg (by omega)]; exact hs' i j hij (by omega)
            · rw [if_pos (by omega), shift j (by omega)]; exact hs' i (j - 1) (by omega) (by omega)
        · rw [if_pos (by omega), if_neg (by omega), if_pos (by omega), shift i (by omega), shift j (by omega)]
          exact hs' _ _ (by omega) (by omega)
end
end MineS
end

section
open PySem PyProof.Rows
set_option maxRecDepth 100000
namespace MineS

/-! ## S7. Sorting up to 127 ints -/
theorem minRun_two {n : Nat} (h1 : 64 ≤ n) (h2 : n < 128) : minRun' n n 0 = n / 2 + n % 2 := by
  obtain ⟨f, rfl⟩ : ∃ f, n = f + 2 := ⟨n - 2, by omega⟩
  rw [minRun'_succ, if_neg (by omega), minRun'_succ, if_pos (by omega)]
  omega

theorem UpIn_list {xs : Array Keyed} {lo n : Nat} (h : UpIn xs lo n) (hn : lo + n ≤ xs.size) : Srt ((xs.toList.drop lo).take n) := by
  rw [Srt, List.pairwise_iff_getElem]
  intro i j hi hj hij
  simp only [List.length_take, List.length_drop, Array.length_toList] at hi hj
  have := h i j (by omega) (by omega)
  simp only [List.getElem_take, List.getElem_drop, Array.getElem_toList]
  have e : ∀ k, (hk : k < xs.size) → K xs k = key xs[k] := fun k hk => by unfold K; rw [getElem?_pos xs k hk]; rfl
  rw [e _ (by omega), e _ (by omega)] at this
  exact this
theorem list_SortedTo {xs : Array Keyed} (h : Srt xs.toList) : SortedTo xs xs.size := fun i j hij hj => by
  have e : ∀ k, (hk : k < xs.size) → K xs k = key xs[k] := fun k hk => by unfold K; rw [getElem?_pos xs k hk]; rfl
  rw [e _ (by omega), e _ hj]
  have := h.get hij (by simpa using hj)
  simpa using this

section
variable {prog : Program} {w : World} {A : Around} {E : Value → Shared → Prop} {s : Shared} {a₀ : Array Keyed}

/-- where the runs stand -/
def RS (a₀ : Array Keyed) (n1 : Nat) (st : SortSt) : Prop := ∃ pw q, (arrOf st).Perm a₀ ∧ kindOf st = oneType' ∧ failedOf st = none ∧ pendingOf st = #[(0, n1, pw), (n1, a₀.size - n1, q)] ∧ Srt ((arrOf st).toList.take n1) ∧ Srt ((arrOf st).toList.drop n1)
def RD (a₀ : Array Keyed) (st : SortSt) : Prop := (arrOf st).Perm a₀ ∧ failedOf st = none ∧ (∃ pw, pendingOf st = #[(0, a₀.size, pw)]) ∧ SortedTo (arrOf st) a₀.size

theorem wpS_sortRuns127 {st : SortSt} {Q : Unit → SortSt → Prop} (h0 : IntKeys a₀) (hB : SBase a₀ st) (h64 : 64 ≤ a₀.size) (h128 : a₀.size < 128)
    (h : ∀ st', (arrOf st').Perm a₀ → failedOf st' = none → SortedTo (arrOf st') a₀.size → Q () st') : wpS (model prog w) A E s sortRuns' Q st := by
  rw [sortRuns'_eq]
  refine wpS_bind (wpS_get ?_)
  dsimp only
  simp only [hB.size, minRun_two h64 h128]
  generalize hmr : a₀.size / 2 + a₀.size % 2 = mr
  have hmr1 : 32 ≤ mr := by omega
  have hmr2 : mr ≤ a₀.size := by omega
  have hmr3 : a₀.size ≤ 2 * mr := by omega
  refine wpS_bind (wpS_mono (wpS_forRange
    (I := fun x c st' => (x = 0 ∧ c = (none, 0) ∧ SBase a₀ st') ∨ (∃ n1, x = 1 ∧ c = (none, n1) ∧ mr ≤ n1 ∧ n1 < a₀.size ∧ (arrOf st').Perm a₀ ∧ kindOf st' = oneType' ∧ failedOf st' = none ∧ pendingOf st' = #[(0, n1, 0)] ∧ SortedTo (arrOf st') n1) ∨ (1 ≤ x ∧ c = (none, a₀.size) ∧ (RD a₀ st' ∨ ∃ n1, 0 < n1 ∧ n1 < a₀.size ∧ RS a₀ n1 st')))
    (Q := fun c st' => c = (none, a₀.size) ∧ (RD a₀ st' ∨ ∃ n1, 0 < n1 ∧ n1 < a₀.size ∧ RS a₀ n1 st')) ?step ?fin (.inl ⟨rfl, rfl, hB⟩)) ?post)
  case fin =>
    rintro c st' (⟨hx, _, _⟩ | ⟨n1, hx, _⟩ | ⟨_, hc, hD⟩)
    · omega
    · omega
    · exact ⟨hc, hD⟩
  case step =>
    rintro x c st' _ hx (⟨rfl, rfl, hB'⟩ | ⟨n1, rfl, rfl, hm1, hm2, b1, b2, b3, b4, b5⟩ | ⟨hx1, rfl, hD⟩)
    · -- the first run
      dsimp only
      rw [if_neg (by omega)]
      simp only [Nat.sub_zero, Nat.zero_add]
      refine wpS_bind (wpS_countRun h0 (Nat.le_refl _) (by omega) hB' fun m st2 hB2 hm1 hm2 hs2 => ?_)
      dsimp only
      by_cases hlt : m < mr
      · rw [if_pos hlt]
        refine wpS_bind (wpS_lift (wpAny_rule ⟨rfl, ?_⟩))
        refine wpS_bind (wpS_binarySort (n := min a₀.size mr) h0 (by omega) (by omega) hB2 hs2 fun st3 hB3 hs3 => ?_)
        simp only [Bool.not_true, Bool.false_eq_true, if_false]
        refine wpS_bind (wpS_get ?_)
        have hb : (pendingOf st3).back? = none := by rw [hB3.pend]; rfl
        rw [hb]
        dsimp only
        refine wpS_bind (wpS_modify (wpS_pure (.inr (.inl ⟨min a₀.size mr, trivial, rfl, by omega, by omega, hB3.perm, hB3.kind, hB3.failed, by show (pendingOf st3).push _ = _; rw [hB3.pend]; rfl, hs3⟩))))
      · rw [if_neg hlt]
        refine wpS_bind (wpS_get ?_)
        have hb : (pendingOf st2).back? = none := by rw [hB2.pend]; rfl
        rw [hb]
        dsimp only
        have hpd : (pendingOf st2).push (0, m, 0) = #[(0, m, 0)] := by rw [hB2.pend]; rfl
        by_cases hm : m = a₀.size
        · exact wpS_bind (wpS_modify (wpS_pure (.inr (.inr ⟨by omega, by rw [hm], .inl ⟨hB2.perm, hB2.failed, ⟨0, by show (pendingOf st2).push _ = _; rw [hpd, hm]⟩, by rw [← hm]; exact hs2⟩⟩))))
        · exact wpS_bind (wpS_modify (wpS_pure (.inr (.inl ⟨m, trivial, rfl, by omega, by omega, hB2.perm, hB2.kind, hB2.failed, hpd, hs2⟩))))
    · -- the second run
      dsimp only
      rw [if_neg (by omega)]
      have hG : SG (arrOf st') #[(0, n1, 0)] n1 st' := ⟨Array.Perm.refl _, b2, b3, b4, fun _ _ => rfl⟩
      have hsz : (arrOf st').size = a₀.size := b1.size_eq
      have h0' : IntKeys (arrOf st') := fun p hp => h0 p ((Array.perm_iff_toList_perm.mp b1).mem_iff.mp hp)
      have hadd : n1 + (a₀.size - n1) = a₀.size := by omega
      refine wpS_bind (wpS_countRunG h0' (by rw [hsz]; omega) (by omega) hG fun m st2 hB2 hm3 hm4 hs2 => ?_)
      dsimp only
      have first : ∀ st3, SG (arrOf st') #[(0, n1, 0)] n1 st3 → Srt ((arrOf st3).toList.take n1) := fun st3 g => by
        have e : (arrOf st3).toList.take n1 = (arrOf st').toList.take n1 := by
          apply List.ext_getElem?
          intro i
          rw [List.getElem?_take, List.getElem?_take]
          split
          · rename_i hi
            have := g.low i hi
            simpa using this
          · rfl
        rw [e]
        have := UpIn_list (xs := arrOf st') (lo := 0) (n := n1) (fun i j hij hj => by rw [Nat.zero_add, Nat.zero_add]; exact b5 i j hij hj) (by omega)
        simpa using this
      have tail : ∀ st3, SG (arrOf st') #[(0, n1, 0)] n1 st3 → ∀ n, n = a₀.size - n1 → UpIn (arrOf st3) n1 n → ∀ q pw, RS a₀ n1 (setPending (setPending st3 ((pendingOf st3).modify ((pendingOf st3).size - 1) fun x => match x with | (a, b, _) => (a, b, pw))) (((pendingOf st3).modify ((pendingOf st3).size - 1) fun x => match x with | (a, b, _) => (a, b, pw)).push (n1, n, q))) := fun st3 g n hn up q pw => by
        subst hn
        have gs := g.size
        refine ⟨pw, q, g.perm.trans b1, g.kind, g.failed, ?_, first st3 g, ?_⟩
        · show ((pendingOf st3).modify ((pendingOf st3).size - 1) _).push _ = _
          rw [g.pend]; rfl
        · have := UpIn_list (xs := arrOf st3) up (by omega)
          rwa [List.take_of_length_le (by simp; omega)] at this
      have q1 : ¬ (#[(0, n1, 0)] : Array (Nat × Nat × Nat)).size > 1 := by simp
      by_cases hlt : m < mr
      case' pos =>
        rw [if_pos hlt]
        refine wpS_bind (wpS_lift (wpAny_rule ⟨rfl, ?_⟩))
        refine wpS_bind (wpS_binarySortG (n := min (a₀.size - n1) mr) h0' (by rw [hsz]; omega) (by omega) hB2 hs2 fun st3 hB3 hs3 => ?_)
        simp only [Bool.not_true, Bool.false_eq_true, if_false]
        have hn2 : min (a₀.size - n1) mr = a₀.size - n1 := by omega
        generalize min (a₀.size - n1) mr = n at hs3 hn2 ⊢
      case' neg =>
        rw [if_neg hlt]
        have hn2 : m = a₀.size - n1 := by omega
        have hB3 := hB2
        have hs3 := hs2
        generalize m = n at hs3 hn2 ⊢
        generalize st2 = st3 at hB3 hs3 ⊢
      all_goals
        refine wpS_bind (wpS_get ?_)
        have hb : (pendingOf st3).back? = some (0, n1, 0) := by rw [hB3.pend]; rfl
        rw [hb]
        dsimp only
        refine wpS_bind (wpS_mono (wpS_forRange (I := fun _ c st'' => st'' = st3 ∧ c = (none, ())) (Q := fun c st'' => st'' = st3 ∧ c = (none, ())) ?_ (fun _ _ hh => hh) ⟨rfl, rfl⟩) ?_)
        · rintro x c st'' _ _ ⟨rfl, rfl⟩
          refine wpS_bind (wpS_get ?_)
          have hp := hB3.pend
          rw [if_neg (by rw [hp]; exact q1)]
          exact wpS_pure ⟨rfl, rfl⟩
        · rintro c st'' ⟨rfl, rfl⟩
          dsimp only
          refine wpS_bind (wpS_modify (wpS_bind (wpS_modify (wpS_pure (.inr (.inr ⟨by omega, by rw [hn2, hadd], .inr ⟨n1, by omega, hm2, tail st'' hB3 n hn2 hs3 _ _⟩⟩))))))
    · dsimp only
      rw [if_pos (Nat.le_refl _)]
      exact wpS_pure ⟨rfl, hD⟩
  case post =>
    rintro c st' ⟨rfl, hD⟩
    dsimp only
    refine wpS_bind (wpS_mono (wpS_forRange (I := fun x c st'' => c = (none, ()) ∧ (RD a₀ st'' ∨ (x = 0 ∧ ∃ n1, 0 < n1 ∧ n1 < a₀.size ∧ RS a₀ n1 st''))) (Q := fun c st'' => c = (none, ()) ∧ RD a₀ st'') ?_ ?_ ⟨rfl, ?_⟩) ?_)
    · rintro x c st'' _ hx ⟨rfl, hR⟩
      refine wpS_bind (wpS_get ?_)
      rcases hR with hR | ⟨rfl, n1, hn1, hn2, pw, q, r1, r2, r3, r4, r5, r6⟩
      · obtain ⟨pw, hp⟩ := hR.2.2.1
        rw [if_pos (by rw [hp]; exact Nat.le_refl 1)]
        exact wpS_pure ⟨rfl, hR⟩
      · rw [if_neg (by rw [r4]; simp)]
        have e2 : (pendingOf st'').size - 2 = 0 := by rw [r4]; rfl
        have hsz : (arrOf st'').size = a₀.size := r1.size_eq
        have hi : AllI (arrOf st'').toList := fun p hp => h0 p ((Array.perm_iff_toList_perm.mp r1).mem_iff.mp hp)
        simp only [e2]
        rw [if_neg (by simp)]
        refine wpS_bind (wpS_mergeAt r2 r3 r4 hi hn1 (by omega) (by rw [hsz]; omega) r5 r6 fun st3 k1 k2 k3 F => ?_)
        simp only [Bool.not_true, Bool.false_eq_true, if_false]
        have hp : (arrOf st3).Perm a₀ := (Array.perm_iff_toList_perm.mpr F.perm).trans r1
        refine wpS_pure ⟨rfl, .inl ⟨hp, k2, ⟨pw, by rw [k3, show n1 + (a₀.size - n1) = a₀.size from by omega]⟩, ?_⟩⟩
        have := list_SortedTo F.srt
        rwa [hp.size_eq] at this
    · rintro c st'' ⟨rfl, hR⟩
      refine ⟨rfl, ?_⟩
      rcases hR with hR | ⟨hx, _⟩
      · exact hR
      · omega
    · rcases hD with hD | hD
      · exact .inl hD
      · exact .inr ⟨rfl, hD⟩
    · rintro c st'' ⟨rfl, hD⟩
      exact wpS_pure (h _ hD.1 hD.2.1 hD.2.2.2)
end
end MineS
end

section
open PySem PyProof.Rows
set_option maxRecDepth 100000
namespace MineS

/-! ## S8. «sorted» of up to 127 ints -/
section
variable {prog : Program} {w : World} {A : Around} {E : Value → Shared → Prop} {s : Shared}

theorem sort_tree127 {a : Addr} {vs : List Value} {ns : List Int} {n : Nat} {P : PySem.Fin → Shared → Prop} (ho : s.heap.get? a = some (seqObj "list" vs.toArray n)) (hI : IntsAre vs ns) (h64 : 64 ≤ vs.length) (h128 : vs.length < 128)
    (h : ∀ (out : Array Value) (ns' : List Int), IntsAre out.toList ns' → ns'.Perm ns → ns'.Pairwise (· ≤ ·) → P (.done (.ret .none)) { s with heap := sortedHeap s.heap a vs out }) :
    wpAny (model prog w) A (Builtin.«list.sort» ⟨[.ref a], []⟩) P E s := by
  rw [list_sort_plain]
  have ha : a < s.heap.objs.size := Heap.lt_size ho
  refine wpAny_bind (listItems_at ho rfl (wpAny_bind (listUpdate_at ho rfl ?_)))
  obtain ⟨e1, ho1⟩ : ∃ e1, (s.heap.update a (Obj.mapSeq fun _ => #[])).get? a = some (seqObj "list" #[] e1) := ⟨_, get?_update_seq ho (fun _ => #[])⟩
  refine wpAny_bind (seqEpoch_at ho1 rfl (wpAny_bind (wpAny_newTuple (wpAny_bind (wpAny_newList (wpAny_holding ?_))))))
  have ho6 : (((s.heap.update a (Obj.mapSeq fun _ => #[])).push (seqObj "tuple" vs.toArray 0)).push (seqObj "list" #[] 0)).get? a = some (seqObj "list" #[] e1) := by
    rw [Heap.get?_push_ne _ _ _ (by rw [size_push', Heap.size_update]; exact Nat.ne_of_lt (Nat.lt_succ_of_lt ha)), Heap.get?_push_ne _ _ _ (by rw [Heap.size_update]; exact Nat.ne_of_lt ha)]
    exact ho1
  show wpAny (model prog w) A _ P E { s with heap := ((s.heap.update a (Obj.mapSeq fun _ => #[])).push (seqObj "tuple" vs.toArray 0)).push (seqObj "list" #[] 0) }
  dsimp only
  have hsz : ¬ vs.toArray.size < 2 := by simp; omega
  rw [if_neg hsz, if_neg hsz]
  obtain ⟨v₁, v₂, rest, rfl⟩ : ∃ v₁ v₂ rest, vs = v₁ :: v₂ :: rest := by
    match vs, h64 with
    | v₁ :: v₂ :: rest, _ => exact ⟨v₁, v₂, rest, rfl⟩
  rw [keyKind_ints hI]
  refine wpAny_bind (wpAny_pure ?_)
  have hps := pairsOf_size (v₁ :: v₂ :: rest)
  refine wpAny_bind (wpAny_mono (wpS_sortRuns127 (a₀ := pairsOf (v₁ :: v₂ :: rest)) (st := SortSt.mk' oneType' ((v₁ :: v₂ :: rest).toArray.zip (v₁ :: v₂ :: rest).toArray) #[] 7 none)
    (Q := fun _ st' => (arrOf st').Perm (pairsOf (v₁ :: v₂ :: rest)) ∧ failedOf st' = none ∧ SortedTo (arrOf st') (pairsOf (v₁ :: v₂ :: rest)).size)
    hI.intKeys ⟨Array.Perm.refl _, rfl, rfl, rfl⟩ (by rw [hps]; exact h64) (by rw [hps]; exact h128) fun st' a1 a2 a3 => ⟨a1, a2, a3⟩) ?_ fun _ _ e => e)
  rintro ⟨⟨⟩, st'⟩ s' ⟨rfl, hp, hf, hs⟩
  dsimp only
  refine wpAny_bind (seqEpoch_at ho6 rfl ?_)
  refine wpAny_bind (listUpdate_at ho6 rfl ?_ (hsz2 := by refine Nat.le_trans (Nat.le_of_eq ((Array.size_map ..).trans (hp.size_eq.trans hps))) ?_; rw [sizeLine_eq]; omega))
  rw [hf]
  simp only [bne_self_eq_false, Bool.false_eq_true, if_false]
  obtain ⟨ns', q1, q2, q3⟩ := sorted_out hI hp hs
  exact wpAny_pure (h _ ns' q1 q2 q3)

theorem sorted_ints127 {l : Addr} {vs : List Value} {ns : List Int} {Q : Value → Shared → Prop} (hl : s.heap.IsList l vs.toArray) (hI : IntsAre vs ns) (h64 : 64 ≤ vs.length) (h128 : vs.length < 128)
    (h : ∀ (out : Array Value) (ns' : List Int), IntsAre out.toList ns' → ns'.Perm ns → ns'.Pairwise (· ≤ ·) → Q (.ref (s.heap.objs.size + 1)) { s with heap := sortedAll s.heap vs out }) :
    wpAny (model prog w) A (call (.builtin "sorted") [.ref l]) Q E s := by
  have hz : vs.length ≤ sizeLine := by rw [sizeLine_eq]; omega
  refine Calls.call_function_entry kind_sorted plain_sorted entry_sorted (args_sorted1 _) ?_
  unfold Builtin.«sorted»
  refine wpAny_bind (m := checkCount "sorted" 1 1 _) (wpAny_pure ?_)
  refine wpAny_bind (collect_list hl ?_ hz)
  refine wpAny_bind (wpAny_newList ?_)
  have hsz : ((s.heap.push (seqObj "list" #[] 0)).update s.heap.objs.size (Obj.mapSeq (· ++ vs.toArray))).objs.size = s.heap.objs.size + 1 := by
    rw [Heap.size_update, size_push']
  have hoL : (((s.heap.push (seqObj "list" #[] 0)).update s.heap.objs.size (Obj.mapSeq (· ++ vs.toArray))).push (seqObj "list" vs.toArray 0)).get? (s.heap.objs.size + 1) = some (seqObj "list" vs.toArray 0) := by
    rw [← hsz]; exact Heap.get?_push_size _ rfl
  show wpAny _ _ _ _ _ { s with heap := ((s.heap.push (seqObj "list" #[] 0)).update s.heap.objs.size (Obj.mapSeq (· ++ vs.toArray))).push (seqObj "list" vs.toArray 0) }
  rw [hsz]
  refine wpAny_bind (wpAny_holding (wpAny_call_entry slot_list_sort ⟨_, hoL, rfl⟩ entry_list_sort (sort_tree127 hoL hI h64 h128 fun out ns' a1 a2 a3 => ⟨_, rfl, ?_⟩) (args_list_sort _)))
  exact wpAny_pure ⟨_, rfl, h out ns' a1 a2 a3⟩
end
end MineS
end

section
open PySem PySem.W PyProof.Rows
set_option maxRecDepth 100000
namespace Mine

/-! ## 1. Plain data, what bears it in a heap -/

inductive D where
  | non
  | bool (b : Bool)
  | int (i : Int)
  | str (s : PySem.Str)
  | list (xs : List D)
  | tup (xs : List D)

/-- off P every object stays as it is -/
def Exact (P : Addr → Prop) (h h' : Heap) : Prop := ∀ b o, ¬ P b → h.get? b = some o → h'.get? b = some o

/-- the longest list that we speak of -/
def LB : Nat := 1000

/-- one heap goes on from another: every object stays, up to its slots -/
def Ext (h h' : Heap) : Prop := ∀ b o, h.get? b = some o → ∃ sl, h'.get? b = some { o with slots := sl }
theorem Ext.refl (h : Heap) : Ext h h := fun _ o e => ⟨o.slots, e⟩
theorem Ext.trans {a b c : Heap} (x : Ext a b) (y : Ext b c) : Ext a c := fun k o e => by
  obtain ⟨sl, e1⟩ := x k o e
  obtain ⟨sl', e2⟩ := y k _ e1
  exact ⟨sl', e2⟩
theorem Ext.of {h h' : Heap} (k : ∀ b o, h.get? b = some o → h'.get? b = some o) : Ext h h' := fun b o e => ⟨o.slots, k b o e⟩
theorem Ext.none {h h' : Heap} (x : Ext h h') {a : Addr} (e : h'.get? a = none) : h.get? a = none := by
  cases q : h.get? a with
  | none => rfl
  | some o => obtain ⟨sl, e1⟩ := x a o q; rw [e] at e1; cases e1
theorem Ext.ns {h h' : Heap} (x : Ext h h') {a : Addr} {m : PySem.Str → Option Value} (n : h.Ns a m) : h'.Ns a m := by
  obtain ⟨o, es, ep, ho, hd, hk, hf⟩ := n
  obtain ⟨sl, e⟩ := x a o ho
  exact ⟨_, es, ep, e, hd, hk, hf⟩
theorem Ext.isList {h h' : Heap} (x : Ext h h') {a : Addr} {vs : Array Value} (n : h.IsList a vs) : h'.IsList a vs := by
  obtain ⟨o, ho, hc, k, hd⟩ := n
  obtain ⟨sl, e⟩ := x a o ho
  exact ⟨_, e, hc, k, hd⟩
theorem Ext.isTup {h h' : Heap} (x : Ext h h') {a : Addr} {vs : Array Value} (n : IsTup h a vs) : IsTup h' a vs := by
  obtain ⟨o, ho, hc, k, hd⟩ := n
  obtain ⟨sl, e⟩ := x a o ho
  exact ⟨_, e, hc, k, hd⟩
theorem Ext.isCell {h h' : Heap} (x : Ext h h') {a : Addr} {v : Option Value} (n : h.IsCell a v) : h'.IsCell a v := by
  obtain ⟨o, ho, hd⟩ := n
  obtain ⟨sl, e⟩ := x a o ho
  exact ⟨_, e, hd⟩
theorem Ext.noLimit {h h' : Heap} (x : Ext h h') (n : h.NoLimit) : h'.NoLimit := by
  obtain ⟨mc, a, b⟩ := n
  exact ⟨mc, x.ns a, b⟩
theorem Ext.codeRec {h h' : Heap} (x : Ext h h') {cd : Value} {q : PySem.Str} (n : h.CodeRec cd q) : h'.CodeRec cd q := by
  obtain ⟨c, o, vs, t, e, g, r⟩ := n
  obtain ⟨sl, e'⟩ := x c o g
  exact ⟨c, _, vs, t, e, e', r⟩

mutual
/-- value v bears datum d in heap h; every address on the way lies in S -/
inductive Rep (h : Heap) (S : Addr → Prop) : Value → D → Prop where
  | non : Rep h S .none .non
  | bool (b : Bool) : Rep h S (.bool b) (.bool b)
  | int (i : Int) (t : Tok) : Rep h S (.int i t) (.int i)
  | str (s : PySem.Str) (t : Tok) : Rep h S (.str s t) (.str s)
  | list {a : Addr} {vs : List Value} {ds : List D} : S a → h.IsList a vs.toArray → ds.length ≤ LB → RepL h S vs ds → Rep h S (.ref a) (.list ds)
  | tup {a : Addr} {vs : List Value} {ds : List D} : S a → IsTup h a vs.toArray → ds.length ≤ LB → RepL h S vs ds → Rep h S (.ref a) (.tup ds)
inductive RepL (h : Heap) (S : Addr → Prop) : List Value → List D → Prop where
  | nil : RepL h S [] []
  | cons {v : Value} {d : D} {vs : List Value} {ds : List D} : Rep h S v d → RepL h S vs ds → RepL h S (v :: vs) (d :: ds)
end

/-- S' holds wherever S does and the object stays -/
def On (h h' : Heap) (S S' : Addr → Prop) : Prop := ∀ a, S a → ∀ o, h.get? a = some o → (∃ xs n, o.data = .seq xs n) → S' a ∧ ∃ sl, h'.get? a = some { o with slots := sl }

mutual
theorem Rep.on {h h' : Heap} {S S' : Addr → Prop} (k : On h h' S S') : ∀ {v : Value} {d : D}, Rep h S v d → Rep h' S' v d
  | _, _, .non => .non
  | _, _, .bool b => .bool b
  | _, _, .int i t => .int i t
  | _, _, .str s t => .str s t
  | _, _, .list (a := a) hs hl hb hr => by
    obtain ⟨o, ho, hc, n, hd⟩ := hl
    obtain ⟨h1, sl, h2⟩ := k a hs o ho ⟨_, _, hd⟩
    exact .list h1 ⟨_, h2, hc, n, hd⟩ hb (RepL.on k hr)
  | _, _, .tup (a := a) hs hl hb hr => by
    obtain ⟨o, ho, hc, n, hd⟩ := hl
    obtain ⟨h1, sl, h2⟩ := k a hs o ho ⟨_, _, hd⟩
    exact .tup h1 ⟨_, h2, hc, n, hd⟩ hb (RepL.on k hr)
theorem RepL.on {h h' : Heap} {S S' : Addr → Prop} (k : On h h' S S') : ∀ {vs : List Value} {ds : List D}, RepL h S vs ds → RepL h' S' vs ds
  | _, _, .nil => .nil
  | _, _, .cons hv hr => .cons (Rep.on k hv) (RepL.on k hr)
end

theorem On.of {h h' : Heap} {S S' : Addr → Prop} (x : Ext h h') (m : ∀ a, S a → S' a) : On h h' S S' := fun a hs o ho _ => ⟨m a hs, x a o ho⟩
theorem Rep.ext {h h' : Heap} {S : Addr → Prop} {v : Value} {d : D} (r : Rep h S v d) (x : Ext h h') : Rep h' S v d := r.on (.of x fun _ y => y)
theorem RepL.ext {h h' : Heap} {S : Addr → Prop} {vs : List Value} {ds : List D} (r : RepL h S vs ds) (x : Ext h h') : RepL h' S vs ds := r.on (.of x fun _ y => y)
theorem Rep.mono {h : Heap} {S S' : Addr → Prop} {v : Value} {d : D} (r : Rep h S v d) (m : ∀ a, S a → S' a) : Rep h S' v d := r.on (.of (.refl h) m)
theorem RepL.mono {h : Heap} {S S' : Addr → Prop} {vs : List Value} {ds : List D} (r : RepL h S vs ds) (m : ∀ a, S a → S' a) : RepL h S' vs ds := r.on (.of (.refl h) m)
theorem Rep.any {h : Heap} {S : Addr → Prop} {v : Value} {d : D} (r : Rep h S v d) : Rep h (fun _ => True) v d := r.mono fun _ _ => trivial
theorem RepL.any {h : Heap} {S : Addr → Prop} {vs : List Value} {ds : List D} (r : RepL h S vs ds) : RepL h (fun _ => True) vs ds := r.mono fun _ _ => trivial

theorem RepL.length {h : Heap} {S : Addr → Prop} : ∀ {vs : List Value} {ds : List D}, RepL h S vs ds → vs.length = ds.length
  | _, _, .nil => rfl
  | _, _, .cons _ r => by simp [r.length]
theorem RepL.get {h : Heap} {S : Addr → Prop} : ∀ {vs : List Value} {ds : List D}, RepL h S vs ds → ∀ {i : Nat} {d : D}, ds[i]? = some d → ∃ v, vs[i]? = some v ∧ Rep h S v d
  | _, _, .nil, i, d, e => by simp at e
  | _, _, .cons hv r, 0, d, e => by simp at e; subst e; exact ⟨_, by simp, hv⟩
  | _, _, .cons hv r, i + 1, d, e => by simpa using r.get (by simpa using e)
theorem RepL.get' {h : Heap} {S : Addr → Prop} : ∀ {vs : List Value} {ds : List D}, RepL h S vs ds → ∀ {i : Nat} {v : Value}, vs[i]? = some v → ∃ d, ds[i]? = some d ∧ Rep h S v d
  | _, _, .nil, i, d, e => by simp at e
  | _, _, .cons hv r, 0, d, e => by simp at e; subst e; exact ⟨_, by simp, hv⟩
  | _, _, .cons hv r, i + 1, d, e => by simpa using r.get' (by simpa using e)
theorem RepL.append {h : Heap} {S : Addr → Prop} : ∀ {vs : List Value} {ds : List D}, RepL h S vs ds → ∀ {ws : List Value} {es : List D}, RepL h S ws es → RepL h S (vs ++ ws) (ds ++ es)
  | _, _, .nil, _, _, r => r
  | _, _, .cons hv r, _, _, r' => .cons hv (r.append r')
theorem RepL.drop {h : Heap} {S : Addr → Prop} : ∀ (n : Nat) {vs : List Value} {ds : List D}, RepL h S vs ds → RepL h S (vs.drop n) (ds.drop n)
  | 0, _, _, r => r
  | _ + 1, _, _, .nil => .nil
  | n + 1, _, _, .cons _ r => r.drop n
theorem RepL.take {h : Heap} {S : Addr → Prop} : ∀ (n : Nat) {vs : List Value} {ds : List D}, RepL h S vs ds → RepL h S (vs.take n) (ds.take n)
  | 0, _, _, _ => .nil
  | _ + 1, _, _, .nil => .nil
  | n + 1, _, _, .cons hv r => .cons hv (r.take n)
theorem RepL.reverse {h : Heap} {S : Addr → Prop} : ∀ {vs : List Value} {ds : List D}, RepL h S vs ds → RepL h S vs.reverse ds.reverse
  | _, _, .nil => .nil
  | _, _, .cons hv r => by simpa using r.reverse.append (.cons hv .nil)
theorem RepL.replicate {h : Heap} {S : Addr → Prop} {v : Value} {d : D} (r : Rep h S v d) : ∀ n : Nat, RepL h S (List.replicate n v) (List.replicate n d)
  | 0 => .nil
  | n + 1 => .cons r (RepL.replicate r n)
theorem RepL.set {h : Heap} {S : Addr → Prop} {v : Value} {d : D} (rv : Rep h S v d) : ∀ {vs : List Value} {ds : List D}, RepL h S vs ds → ∀ i : Nat, RepL h S (vs.set i v) (ds.set i d)
  | _, _, .nil, _ => .nil
  | _, _, .cons _ r, 0 => .cons rv r
  | _, _, .cons hv r, i + 1 => .cons hv (r.set rv i)

theorem Rep.list_inv {h : Heap} {S : Addr → Prop} {v : Value} {ds : List D} (r : Rep h S v (.list ds)) : ∃ a vs, v = .ref a ∧ S a ∧ h.IsList a vs.toArray ∧ ds.length ≤ LB ∧ RepL h S vs ds := by
  cases r with | list a b c d => exact ⟨_, _, rfl, a, b, c, d⟩
theorem Rep.tup_inv {h : Heap} {S : Addr → Prop} {v : Value} {ds : List D} (r : Rep h S v (.tup ds)) : ∃ a vs, v = .ref a ∧ S a ∧ IsTup h a vs.toArray ∧ ds.length ≤ LB ∧ RepL h S vs ds := by
  cases r with | tup a b c d => exact ⟨_, _, rfl, a, b, c, d⟩
theorem Rep.int_inv {h : Heap} {S : Addr → Prop} {v : Value} {i : Int} (r : Rep h S v (.int i)) : ∃ t, v = .int i t := by
  cases r; exact ⟨_, rfl⟩
theorem Rep.bool_inv {h : Heap} {S : Addr → Prop} {v : Value} {b : Bool} (r : Rep h S v (.bool b)) : v = .bool b := by
  cases r; rfl
theorem Rep.str_inv {h : Heap} {S : Addr → Prop} {v : Value} {x : PySem.Str} (r : Rep h S v (.str x)) : ∃ t, v = .str x t := by
  cases r; exact ⟨_, rfl⟩
theorem Rep.non_inv {h : Heap} {S : Addr → Prop} {v : Value} (r : Rep h S v .non) : v = .none := by
  cases r; rfl
theorem RepL.nil_inv {h : Heap} {S : Addr → Prop} {vs : List Value} (r : RepL h S vs []) : vs = [] := by
  cases r; rfl
theorem RepL.cons_inv {h : Heap} {S : Addr → Prop} {vs : List Value} {d : D} {ds : List D} (r : RepL h S vs (d :: ds)) : ∃ v ws, vs = v :: ws ∧ Rep h S v d ∧ RepL h S ws ds := by
  cases r with | cons a b => exact ⟨_, _, rfl, a, b⟩

mutual
theorem Rep.uniq {h : Heap} {S S' : Addr → Prop} : ∀ {v : Value} {d d' : D}, Rep h S v d → Rep h S' v d' → d = d'
  | _, _, _, .non, r => by cases r; rfl
  | _, _, _, .bool _, r => by cases r; rfl
  | _, _, _, .int _ _, r => by cases r; rfl
  | _, _, _, .str _ _, r => by cases r; rfl
  | _, _, _, .list _ hl _ hr, r => by
    obtain ⟨o, ho, hc, n, hd⟩ := hl
    cases r with
    | list _ hl' _ hr' =>
      obtain ⟨o', ho', _, n', hd'⟩ := hl'
      rw [ho] at ho'; cases ho'
      rw [hd] at hd'
      injection hd' with q _
      have q' := congrArg Array.toList q
      simp only at q'
      subst q'
      rw [RepL.uniq hr hr']
    | tup _ hl' _ hr' =>
      obtain ⟨o', ho', hc', _⟩ := hl'
      rw [ho] at ho'; cases ho'
      rw [hc] at hc'; exact absurd hc' (by simp)
  | _, _, _, .tup _ hl _ hr, r => by
    obtain ⟨o, ho, hc, n, hd⟩ := hl
    cases r with
    | tup _ hl' _ hr' =>
      obtain ⟨o', ho', _, n', hd'⟩ := hl'
      rw [ho] at ho'; cases ho'
      rw [hd] at hd'
      injection hd' with q _
      have q' := congrArg Array.toList q
      simp only at q'
      subst q'
      rw [RepL.uniq hr hr']
    | list _ hl' _ hr' =>
      obtain ⟨o', ho', hc', _⟩ := hl'
      rw [ho] at ho'; cases ho'
      rw [hc] at hc'; exact absurd hc' (by simp)
theorem RepL.uniq {h : Heap} {S S' : Addr → Prop} : ∀ {vs : List Value} {ds ds' : List D}, RepL h S vs ds → RepL h S' vs ds' → ds = ds'
  | _, _, _, .nil, r => by cases r; rfl
  | _, _, _, .cons hv hr, r => by
    cases r with | cons hv' hr' => rw [Rep.uniq hv hv', RepL.uniq hr hr']
end

/-- the ints of a list of data -/
def intsOf : List D → Option (List Int)
  | [] => some []
  | .int i :: r => (intsOf r).map (i :: ·)
  | _ :: _ => none
theorem intsOf_map (l : List Int) : intsOf (l.map D.int) = some l := by
  induction l with
  | nil => rfl
  | cons i r ih => simp [intsOf, ih]
theorem intsOf_eq : ∀ {ds : List D} {l : List Int}, intsOf ds = some l → ds = l.map D.int
  | [], l, e => by simp [intsOf] at e; subst e; rfl
  | .int i :: r, l, e => by
    simp only [intsOf, Option.map_eq_some_iff] at e
    obtain ⟨k, e1, rfl⟩ := e
    rw [intsOf_eq e1]; rfl
  | .non :: _, _, e => by simp [intsOf] at e
  | .bool _ :: _, _, e => by simp [intsOf] at e
  | .str _ :: _, _, e => by simp [intsOf] at e
  | .list _ :: _, _, e => by simp [intsOf] at e
  | .tup _ :: _, _, e => by simp [intsOf] at e
theorem RepL.ints {h : Heap} {S : Addr → Prop} : ∀ {vs : List Value} {l : List Int}, RepL h S vs (l.map D.int) → IntsAre vs l
  | [], [], _ => .nil
  | _, _ :: _, .cons (.int _ t) r => .cons _ t (RepL.ints r)
theorem RepL.of_ints {h : Heap} {S : Addr → Prop} : ∀ {vs : List Value} {l : List Int}, IntsAre vs l → RepL h S vs (l.map D.int)
  | [], [], _ => .nil
  | _, _ :: _, .cons _ t r => .cons (.int _ t) (RepL.of_ints r)

end Mine
end

section
open PySem PySem.W PyProof.Rows
set_option maxRecDepth 100000
namespace Mine

/-! ## 2. The term language and what it means -/

abbrev Sg := Nat → Option D
def upd (σ : Sg) (i : Nat) (d : D) : Sg := fun j => if j = i then some d else σ j
theorem upd_eq (σ : Sg) (i : Nat) (d : D) (j : Nat) : upd σ i d j = if j = i then some d else σ j := rfl
theorem upd_same (σ : Sg) (i : Nat) (d : D) : upd σ i d i = some d := by simp [upd]
theorem upd_ne (σ : Sg) {i j : Nat} (d : D) (h : j ≠ i) : upd σ i d j = σ j := by simp [upd, h]

mutual
inductive Pat where
  | v (i : Nat)
  | tup (ps : PatL)
inductive PatL where
  | nil
  | cons (p : Pat) (ps : PatL)
end

inductive Op2 where | add | sub | mul | fdiv | mod | pow
inductive Cm where | eq | ne | lt | le | gt | ge | inn | nin
inductive K where | non | tru | fls | int (i : Int) | str (s : PySem.Str)
inductive Bi where | len | sum | sorted | int | max2 | min2 | maxL | minL

mutual
inductive T where
  | k (c : K)
  | v (i : Nat)
  | op (o : Op2) (a b : T)
  | neg (a : T)
  | cmp (o : Cm) (a b : T)
  | isn (yes : Bool) (a : T)
  | bop (isAnd : Bool) (l : TL)
  | not (a : T)
  | ite (c a b : T)
  | list (l : TL)
  | rep (a n : T)
  | tup (l : TL)
  | idx (a i : T)
  | sl (a : T) (lo hi : TO)
  | rev (a : T)
  | call (f : Nat) (l : TL)
  | bi (b : Bi) (l : TL)
  | comp (elt : T) (g : GL)
inductive TL where
  | nil
  | cons (a : T) (l : TL)
inductive TO where
  | none
  | some (a : T)
inductive Sr where
  | t (a : T)
  | range1 (a : T)
  | range2 (a b : T)
  | zip (a b : T)
  | enum (a : T)
inductive GL where
  | nil
  | cons (p : Pat) (s : Sr) (c : TL) (g : GL)
end

mutual
inductive TS where
  | asg (p : Pat) (e : T)
  | own1 (x : Nat) (e : T)
  | ownN (xs : List Nat) (es : TL)
  | aug (x : Nat) (o : Op2) (e : T)
  | setI (x : Nat) (i e : T)
  | augI (x : Nat) (i e : T)
  | app (x : Nat) (e : T)
  | ite (c : T) (a b : SL)
  | loop (p : Pat) (s : Sr) (b : SL)
  | loopB (p : Pat) (x : Nat) (b : SL)
  | whil (n : Nat) (c : T) (b : SL)
  | ret (e : T)
  | retO (x : Nat)
  | retC (f : Nat) (l : TL)
  | raise
  | try (b h : SL)
  | cont
  | dead
inductive SL where
  | nil
  | cons (s : TS) (l : SL)
end

/-! ### operations on data -/

def K.d : K → D
  | .non => .non
  | .tru => .bool true
  | .fls => .bool false
  | .int i => .int i
  | .str s => .str s

def small (a : Int) : Bool := decide (a.natAbs < 2 ^ 63)
def op2D : Op2 → D → D → Option D
  | .add, .int a, .int b => some (.int (a + b))
  | .sub, .int a, .int b => some (.int (a - b))
  | .mul, .int a, .int b => if small a || small b then some (.int (a * b)) else none
  | .fdiv, .int a, .int b => if 0 < b ∧ small b then some (.int (a / b)) else none
  | .mod, .int a, .int b => if 0 < b then some (.int (a % b)) else none
  | .pow, .int a, .int b => if 0 ≤ b ∧ b ≤ 64 ∧ a.natAbs ≤ 64 then some (.int (a ^ b.toNat)) else none
  | .add, .list a, .list b => if a.length + b.length ≤ LB then some (.list (a ++ b)) else none
  | _, _, _ => none
def negD : D → Option D
  | .int a => some (.int (-a))
  | _ => none
def eqD : D → D → Option Bool
  | .int a, .int b => some (a == b)
  | .str a, .str b => some (a == b)
  | .non, .non => some true
  | .non, .list _ => some false
  | .list _, .non => some false
  | .list a, .list b => (intsOf a).bind fun x => (intsOf b).bind fun y => some (x == y)
  | _, _ => none
def anyEq (d : D) : List D → Option Bool
  | [] => some false
  | x :: r => (eqD x d).bind fun b => (anyEq d r).map fun c => b || c
def inD : D → D → Option Bool
  | d, .list xs => anyEq d xs
  | d, .tup xs => anyEq d xs
  | _, _ => none
def cmD : Cm → D → D → Option Bool
  | .eq, a, b => eqD a b
  | .ne, .int a, .int b => some (!(a == b))
  | .ne, .list a, .list b => (eqD (.list a) (.list b)).map (!·)
  | .lt, .int a, .int b => some (decide (a < b))
  | .le, .int a, .int b => some (decide (a ≤ b))
  | .gt, .int a, .int b => some (decide (b < a))
  | .ge, .int a, .int b => some (decide (b ≤ a))
  | .inn, a, b => inD a b
  | .nin, a, b => (inD a b).map (!·)
  | _, _, _ => none
def isNon : D → Bool
  | .non => true
  | _ => false
def seqD : D → Option (List D)
  | .list xs => some xs
  | .tup xs => some xs
  | _ => none
def listD : D → Option (List D)
  | .list xs => some xs
  | _ => none
def intD : D → Option Int
  | .int i => some i
  | _ => none
def boolD : D → Option Bool
  | .bool b => some b
  | _ => none
/-- the place that an index means -/
def placeN (n : Nat) (i : Int) : Option Nat := if 0 ≤ i ∧ i.toNat < n then some i.toNat else none
def place (n : Nat) (i : Int) : Option Nat :=
  if 0 ≤ i then (if i.toNat < n then some i.toNat else none) else if (-i).toNat ≤ n then some (n - (-i).toNat) else none
def idxD (a i : D) : Option D := (seqD a).bind fun xs => (intD i).bind fun k => (place xs.length k).bind fun j => xs[j]?
def slD (xs : List D) (lo hi : Option Int) : Option (List D) :=
  match lo, hi with
  | none, none => none
  | some l, none => if 0 ≤ l ∧ small l then some (xs.drop l.toNat) else none
  | none, some u => if 0 ≤ u ∧ small u then some (xs.take u.toNat) else none
  | some l, some u => if 0 ≤ l ∧ 0 ≤ u ∧ small l ∧ small u then some ((xs.take u.toNat).drop l.toNat) else none

def ins (i : Int) : List Int → List Int
  | [] => [i]
  | j :: r => if i ≤ j then i :: j :: r else j :: ins i r
def isort : List Int → List Int
  | [] => []
  | i :: r => ins i (isort r)
def maxI : Int → List Int → Int
  | m, [] => m
  | m, i :: r => maxI (if i > m then i else m) r
def minI : Int → List Int → Int
  | m, [] => m
  | m, i :: r => minI (if i < m then i else m) r

def biD : Bi → List D → Option D
  | .len, [a] => (seqD a).map fun xs => .int xs.length
  | .sum, [a] => (listD a).bind fun xs => (intsOf xs).map fun l => .int l.sum
  | .sorted, [a] => (listD a).bind fun xs => (intsOf xs).bind fun l => if l.length < 128 then some (.list ((isort l).map .int)) else none
  | .int, [.int i] => some (.int i)
  | .max2, [.int a, .int b] => some (.int (if b > a then b else a))
  | .min2, [.int a, .int b] => some (.int (if b < a then b else a))
  | .maxL, [a] => (listD a).bind fun xs => (intsOf xs).bind fun l => match l with | [] => none | i :: r => some (.int (maxI i r))
  | .minL, [a] => (listD a).bind fun xs => (intsOf xs).bind fun l => match l with | [] => none | i :: r => some (.int (minI i r))
  | _, _ => none

def tiny (a : Int) : Bool := decide (a.natAbs < 2 ^ 62)
def rangeD (a b : Int) : Option (List D) := if tiny a ∧ tiny b ∧ b - a ≤ LB then some ((List.range (b - a).toNat).map fun (j : Nat) => D.int (a + j)) else none
def zipD : List D → List D → List D
  | x :: r, y :: q => .tup [x, y] :: zipD r q
  | _, _ => []
def enumD : Nat → List D → List D
  | _, [] => []
  | n, x :: r => .tup [.int n, x] :: enumD (n + 1) r

def flatM {α : Type} (f : α → Option (List D)) : List α → Option (List D)
  | [] => some []
  | d :: r => (f d).bind fun a => (flatM f r).bind fun b => some (a ++ b)

def tupD : D → Option (List D)
  | .tup xs => some xs
  | _ => none
mutual
def bindP (own : Nat → Bool) : Pat → D → Sg → Option Sg
  | .v i, d, σ => if own i then none else some (upd σ i d)
  | .tup ps, d, σ => (tupD d).bind fun ds => bindPL own ps ds σ
def bindPL (own : Nat → Bool) : PatL → List D → Sg → Option Sg
  | .nil, [], σ => some σ
  | .cons p ps, d :: ds, σ => (bindP own p d σ).bind fun σ' => bindPL own ps ds σ'
  | _, _, _ => none
end

mutual
def Pat.vars : Pat → List Nat
  | .v i => [i]
  | .tup ps => ps.vars
def PatL.vars : PatL → List Nat
  | .nil => []
  | .cons p ps => p.vars ++ ps.vars
end
def GL.vars : GL → List Nat
  | .nil => []
  | .cons p _ _ g => p.vars ++ g.vars
def unb (l : List Nat) (σ : Sg) : Sg := fun i => if l.contains i then none else σ i

abbrev Fn := Nat → List D → Option (Except Unit D)
def okD : Option (Except Unit D) → Option D
  | some (.ok d) => some d
  | _ => none

section
variable (own : Nat → Bool) (F : Fn)

mutual
def ev : Bool → T → Sg → Option D
  | _, .k c, _ => some c.d
  | bw, .v i, σ => if own i && !bw then none else σ i
  | _, .op o a b, σ => (ev false a σ).bind fun x => (ev false b σ).bind fun y => op2D o x y
  | _, .neg a, σ => (ev false a σ).bind negD
  | _, .cmp o a b, σ => (ev true a σ).bind fun x => (ev true b σ).bind fun y => (cmD o x y).map .bool
  | _, .isn yes a, σ => (ev true a σ).map fun x => .bool (isNon x == yes)
  | _, .bop isAnd l, σ => (evBop isAnd l σ).map .bool
  | _, .not a, σ => (ev false a σ).bind fun x => (boolD x).map fun b => .bool !b
  | _, .ite c a b, σ => (ev false c σ).bind fun x => (boolD x).bind fun q => if q then ev false a σ else ev false b σ
  | _, .list l, σ => (evL false l σ).bind fun ds => if ds.length ≤ LB then some (.list ds) else none
  | _, .rep a n, σ => (ev false a σ).bind fun d => (ev false n σ).bind fun y => (intD y).bind fun b => if 0 ≤ b ∧ b ≤ LB then some (.list (List.replicate b.toNat d)) else none
  | _, .tup l, σ => (evL false l σ).bind fun ds => if ds.length ≤ LB then some (.tup ds) else none
  | _, .idx a i, σ => (ev true a σ).bind fun x => (ev false i σ).bind fun y => idxD x y
  | _, .sl a lo hi, σ => (ev false a σ).bind fun x => (listD x).bind fun xs => (evO lo σ).bind fun l => (evO hi σ).bind fun u => (slD xs l u).map .list
  | _, .rev a, σ => (ev false a σ).bind fun x => (listD x).map fun xs => .list xs.reverse
  | _, .call f l, σ => (evL false l σ).bind fun ds => okD (F f ds)
  | _, .bi b l, σ => (evL true l σ).bind fun ds => biD b ds
  | _, .comp elt g, σ => match g with
    | .nil => none
    | .cons p s c g' => if (p.vars ++ g'.vars).any own then none else (evSr s σ).bind fun ds => (flatM (fun d => (bindP own p d (unb (p.vars ++ g'.vars) σ)).bind fun σ' => (evC c σ').bind fun b => if b then evG (fun σ => ev false elt σ) g' σ' else some []) ds).bind fun ds => if ds.length ≤ LB then some (.list ds) else none
def evL : Bool → TL → Sg → Option (List D)
  | _, .nil, _ => some []
  | bw, .cons a l, σ => (ev bw a σ).bind fun x => (evL bw l σ).bind fun xs => some (x :: xs)
def evO : TO → Sg → Option (Option Int)
  | .none, _ => some none
  | .some a, σ => (ev false a σ).bind fun x => (intD x).map some
def evBop : Bool → TL → Sg → Option Bool
  | _, .nil, _ => none
  | isAnd, .cons a l, σ => (ev false a σ).bind fun x => (boolD x).bind fun b => match l with
    | .nil => some b
    | .cons _ _ => if b == isAnd then evBop isAnd l σ else some b
def evC : TL → Sg → Option Bool
  | .nil, _ => some true
  | .cons a l, σ => (ev false a σ).bind fun x => (boolD x).bind fun b => if b then evC l σ else some false
def evSr : Sr → Sg → Option (List D)
  | .t a, σ => (ev false a σ).bind listD
  | .range1 a, σ => (ev false a σ).bind fun x => (intD x).bind fun n => rangeD 0 n
  | .range2 a b, σ => (ev false a σ).bind fun x => (ev false b σ).bind fun y => (intD x).bind fun m => (intD y).bind fun n => rangeD m n
  | .zip a b, σ => (ev false a σ).bind fun x => (ev false b σ).bind fun y => (listD x).bind fun xs => (listD y).bind fun ys => some (zipD xs ys)
  | .enum a, σ => (ev false a σ).bind fun x => (listD x).bind fun xs => some (enumD 0 xs)
def evG : (Sg → Option D) → GL → Sg → Option (List D)
  | f, .nil, σ => (f σ).bind fun d => some [d]
  | f, .cons p s c g, σ => (evSr s σ).bind fun ds => flatM (fun d => (bindP own p d σ).bind fun σ' => (evC c σ').bind fun b => if b then evG f g σ' else some []) ds
end
end

inductive R where
  | nxt (σ : Sg)
  | cnt (σ : Sg)
  | ret (d : D)
  | ties

def loopF (f : D → Sg → Option R) : List D → Sg → Option R
  | [], σ => some (.nxt σ)
  | d :: r, σ => (f d σ).bind fun x => match x with
    | .nxt σ' => loopF f r σ'
    | .cnt σ' => loopF f r σ'
    | x => some x
def whileF (c : Sg → Option Bool) (f : Sg → Option R) : Nat → Sg → Option R
  | 0, _ => none
  | n + 1, σ => (c σ).bind fun b => if b then (f σ).bind fun x => match x with
      | .nxt σ' => whileF c f n σ'
      | .cnt σ' => whileF c f n σ'
      | x => some x
    else some (.nxt σ)

def T.fresh : T → Bool
  | .op .. | .rep .. | .list _ | .comp .. | .sl .. | .rev _ => true
  | .bi .sorted _ => true
  | _ => false
def updN : List Nat → List D → Sg → Sg
  | x :: xs, d :: ds, σ => updN xs ds (upd σ x d)
  | _, _, σ => σ
def okN (own : Nat → Bool) : List Nat → TL → Bool
  | [], .nil => true
  | x :: xs, .cons e es => (!own x || e.fresh) && okN own xs es
  | _, _ => false
def okND (own : Nat → Bool) : List Nat → List D → Bool
  | [], [] => true
  | x :: xs, d :: ds => (!own x || (listD d).isSome) && okND own xs ds
  | _, _ => false

section
variable (own : Nat → Bool) (F : Fn)

mutual
/-- mu: which owned names may be changed here; ra: a raise may happen here -/
def evS : (Nat → Bool) → TS → Sg → Option R
  | _, .asg p e, σ => (ev own F false e σ).bind fun d => (bindP own p d σ).map .nxt
  | mu, .own1 x e, σ => if own x && mu x && e.fresh then (ev own F false e σ).bind fun d => (listD d).map fun ds => .nxt (upd σ x (.list ds)) else none
  | mu, .ownN xs es, σ => if okN own xs es && xs.all (fun x => !own x || mu x) then (evL own F false es σ).bind fun ds => if okND own xs ds then some (.nxt (updN xs ds σ)) else none else none
  | _, .aug x o e, σ => if own x then none else (σ x).bind fun a => (intD a).bind fun a => (ev own F false e σ).bind fun b => (intD b).bind fun b => (op2D o (.int a) (.int b)).map fun d => .nxt (upd σ x d)
  | mu, .setI x i e, σ => if own x && mu x then (ev own F false e σ).bind fun d => (σ x).bind fun a => (listD a).bind fun xs => (ev own F false i σ).bind fun k => (intD k).bind fun k => (placeN xs.length k).map fun j => .nxt (upd σ x (.list (xs.set j d))) else none
  | mu, .augI x i e, σ => if own x && mu x then (σ x).bind fun a => (listD a).bind fun xs => (ev own F false i σ).bind fun k => (intD k).bind fun k => (placeN xs.length k).bind fun j => (xs[j]?).bind fun y => (intD y).bind fun y =>
      (ev own F false e σ).bind fun b => (intD b).map fun b => .nxt (upd σ x (.list (xs.set j (.int (y + b))))) else none
  | mu, .app x e, σ => if own x && mu x then (σ x).bind fun a => (listD a).bind fun xs => (ev own F false e σ).bind fun d => if xs.length + 1 ≤ LB then some (.nxt (upd σ x (.list (xs ++ [d])))) else none else none
  | mu, .ite c a b, σ => (ev own F false c σ).bind fun x => (boolD x).bind fun q => if q then evSL mu a σ else evSL mu b σ
  | mu, .loop p s b, σ => (evSr own F s σ).bind fun ds => loopF (fun d σ => (bindP own p d σ).bind fun σ' => evSL mu b σ') ds σ
  | _, .loopB p x b, σ => if own x then (σ x).bind fun a => (listD a).bind fun ds => loopF (fun d σ => (bindP own p d σ).bind fun σ' => evSL (fun _ => false) b σ') ds σ else none
  | mu, .whil n c b, σ => whileF (fun σ => (ev own F false c σ).bind boolD) (fun σ => evSL mu b σ) n σ
  | _, .ret e, σ => (ev own F false e σ).map .ret
  | _, .retO x, σ => if own x then (σ x).bind fun a => (listD a).map fun xs => .ret (.list xs) else none
  | _, .retC f l, σ => (evL own F false l σ).bind fun ds => (F f ds).map fun r => match r with | .ok d => .ret d | .error _ => .ties
  | _, .raise, _ => some .ties
  | mu, .try b h, σ => (evSL mu b σ).bind fun r => match r with
    | .ties => evSL mu h σ
    | r => some r
  | _, .cont, σ => some (.cnt σ)
  | _, .dead, _ => none
def evSL : (Nat → Bool) → SL → Sg → Option R
  | _, .nil, σ => some (.nxt σ)
  | mu, .cons s l, σ => (evS mu s σ).bind fun r => match r with
    | .nxt σ' => evSL mu l σ'
    | r => some r
end
end

end Mine
end

section
open PySem PySem.W PyProof.Rows
set_option maxRecDepth 100000
namespace Mine

/-! ## 3. Frames and the state -/

/-- the name x holds v -/
def ValAt (env : Env) (h : Heap) (x : PySem.Str) (v : Value) : Prop :=
  (env.kindOf x = some .local ∧ ∃ m, h.Ns env.locals m ∧ m x = some v) ∨
  ((env.kindOf x = some .cell ∨ env.kindOf x = some .free) ∧ ∃ c, env.cells.lookup x = some c ∧ h.IsCell c (some v))

structure FrOk (sc : Scope) (h₀ : Heap) (env : Env) (h : Heap) : Prop where
  kind : env.scope.kind = .function
  glob : env.globals = mainGlobals
  bi : env.builtins = builtinsNs
  ns : ∃ m, h.Ns env.locals m
  newL : h₀.get? env.locals = none
  kL : ∀ x, sc.names.lookup x = some .local → env.kindOf x = some .local
  kC : ∀ x, sc.names.lookup x = some .cell → env.kindOf x = some .cell ∧ ∃ c, env.cells.lookup x = some c ∧ h₀.get? c = none
  kF : ∀ x, sc.names.lookup x = some .free → (env.kindOf x = some .cell ∨ env.kindOf x = some .free) ∧ ∃ c, env.cells.lookup x = some c
  kG : ∀ x, sc.names.lookup x = some .globalImplicit → env.kindOf x = some .globalImplicit
  cell : ∀ x c, env.cells.lookup x = some c → ∃ v, h.IsCell c v
  inj : ∀ x y c, env.cells.lookup x = some c → env.cells.lookup y = some c → x = y

def updv (vals : Nat → Value) (i : Nat) (v : Value) : Nat → Value := fun j => if j = i then v else vals j
theorem updv_same (vals : Nat → Value) (i : Nat) (v : Value) : updv vals i v i = v := by simp [updv]
theorem updv_ne (vals : Nat → Value) {i j : Nat} (v : Value) (h : j ≠ i) : updv vals i v j = vals j := by simp [updv, h]

/-- a is no owned list's address -/
def NotO (own : Nat → Bool) (σ : Sg) (vals : Nat → Value) (a : Addr) : Prop := ∀ j, own j = true → (σ j).isSome = true → vals j ≠ .ref a

def isV (sc : Scope) (x : PySem.Str) : Bool := match sc.names.lookup x with
  | some .local => true
  | some .cell => true
  | some .free => true
  | _ => false
def isW (sc : Scope) (x : PySem.Str) : Bool := match sc.names.lookup x with
  | some .local => true
  | some .cell => true
  | _ => false

/-- what does not turn while a frame runs: the bottom heap, the frames of the stack, the names' table, what is owned, the addresses that values may have, the heap at the def's start -/
structure Cx where
  base : Heap
  P : Addr → Prop
  tab : List PySem.Str
  own : Nat → Bool
  S : Addr → Prop
  g₀ : Heap

structure StV (C : Cx) (sc : Scope) (h₀ : Heap) (env : Env) (σ : Sg) (vals : Nat → Value) (h : Heap) : Prop where
  fr : FrOk sc h₀ env h
  g : Ext C.g₀ h₀
  ext : Ext h₀ h
  stay : ∀ b o, C.base.get? b = some o → h.get? b = some o
  newS : ∀ a, h.get? a = none → C.S a
  bg : ∀ b o, C.base.get? b = some o → C.g₀.get? b ≠ none
  pf : ∀ a, C.P a → ∃ o es n, h.get? a = some o ∧ o.data = .dict es n
  bP : ∀ a, C.P a → C.base.get? a = none
  nodup : C.tab.Nodup
  val : ∀ i d x, σ i = some d → C.tab[i]? = some x → isV sc x = true → ValAt env h x (vals i)
  rep : ∀ i d, σ i = some d → C.own i = false → Rep h (fun a => C.S a ∧ NotO C.own σ vals a) (vals i) d
  owned : ∀ i d, σ i = some d → C.own i = true → ∃ a ds vs, d = .list ds ∧ vals i = .ref a ∧ h.IsList a vs.toArray ∧ RepL h (fun a => C.S a ∧ NotO C.own σ vals a) vs ds ∧ ds.length ≤ LB ∧ C.g₀.get? a = none
  dist : ∀ i j a, C.own i = true → C.own j = true → (σ i).isSome = true → (σ j).isSome = true → vals i = .ref a → vals j = .ref a → i = j

/-- one state goes on from another: nothing old is changed -/
def Le (base : Heap) (P : Addr → Prop) (s s' : Shared) : Prop :=
  ∃ h' tk, s' = { s with heap := h', toks := tk } ∧ Ext s.heap h' ∧ Exact P s.heap h' ∧ ∀ b o, base.get? b = some o → s.heap.get? b = some o → h'.get? b = some o
theorem Le.refl (base : Heap) (P : Addr → Prop) (s : Shared) : Le base P s s := ⟨s.heap, s.toks, rfl, .refl _, fun _ _ _ e => e, fun _ _ _ e => e⟩
theorem Le.trans {base : Heap} {P : Addr → Prop} {a b c : Shared} (x : Le base P a b) (y : Le base P b c) : Le base P a c := by
  obtain ⟨h1, t1, rfl, e1, k1, b1⟩ := x
  obtain ⟨h2, t2, rfl, e2, k2, b2⟩ := y
  exact ⟨h2, t2, rfl, e1.trans e2, fun b o n e => k2 b o n (k1 b o n e), fun b o q e => b2 b o q (b1 b o q e)⟩
theorem Le.keep {base : Heap} {P : Addr → Prop} {s : Shared} {h' : Heap} {tk : Nat} (k : ∀ b o, s.heap.get? b = some o → h'.get? b = some o) : Le base P s { s with heap := h', toks := tk } :=
  ⟨h', tk, rfl, .of k, fun b o _ e => k b o e, fun b o _ e => k b o e⟩
theorem Le.ext {base : Heap} {P : Addr → Prop} {s s' : Shared} (x : Le base P s s') : Ext s.heap s'.heap := by
  obtain ⟨h1, t1, rfl, e1, _⟩ := x; exact e1
theorem Le.exact {base : Heap} {P : Addr → Prop} {s s' : Shared} (x : Le base P s s') : Exact P s.heap s'.heap := by
  obtain ⟨h1, t1, rfl, _, e1, _⟩ := x; exact e1
theorem Le.stay {base : Heap} {P : Addr → Prop} {s s' : Shared} (x : Le base P s s') (b : Addr) (o : Obj) (q : base.get? b = some o) (e : s.heap.get? b = some o) : s'.heap.get? b = some o := by
  obtain ⟨h1, t1, rfl, _, _, e1⟩ := x; exact e1 b o q e
theorem Le.tok (base : Heap) (P : Addr → Prop) (s : Shared) (tk : Nat) : Le base P s { s with toks := tk } := ⟨s.heap, tk, rfl, .refl _, fun _ _ _ e => e, fun _ _ _ e => e⟩
theorem Le.push (base : Heap) (P : Addr → Prop) (s : Shared) (o : Obj) : Le base P s { s with heap := s.heap.push o } := Le.keep (tk := s.toks) fun _ _ e => Heap.get?_push_of_some _ e
/-- a change at an address that was not there -/
theorem Le.new {base : Heap} {P : Addr → Prop} {s : Shared} {h₁ h' : Heap} {tk : Nat} {a : Addr} (x : Le base P s { s with heap := h₁, toks := tk }) (n : s.heap.get? a = none) (k : Heap.SameBut a h₁ h') (tk' : Nat) :
    Le base P s { s with heap := h', toks := tk' } := by
  obtain ⟨h1, t1, e, e1, k1, b1⟩ := x
  obtain rfl : h₁ = h1 := congrArg Shared.heap e
  have ne : ∀ b o, s.heap.get? b = some o → b ≠ a := fun b o q z => by rw [z, n] at q; cases q
  exact ⟨h', tk', rfl, fun b o q => let ⟨sl, w⟩ := e1 b o q; ⟨sl, (k.2 b (ne b o q)).trans w⟩, fun b o p q => (k.2 b (ne b o q)).trans (k1 b o p q), fun b o p q => (k.2 b (ne b o q)).trans (b1 b o p q)⟩

section
variable {C : Cx} {sc : Scope} {h₀ h h' : Heap} {env : Env} {σ : Sg} {vals : Nat → Value}

theorem ValAt.ext {x : PySem.Str} {v : Value} (a : ValAt env h x v) (e : Ext h h') : ValAt env h' x v := by
  rcases a with ⟨k, m, n, q⟩ | ⟨k, c, q, n⟩
  · exact .inl ⟨k, m, e.ns n, q⟩
  · exact .inr ⟨k, c, q, e.isCell n⟩
theorem FrOk.ext (F : FrOk sc h₀ env h) (e : Ext h h') : FrOk sc h₀ env h' :=
  ⟨F.kind, F.glob, F.bi, let ⟨m, n⟩ := F.ns; ⟨m, e.ns n⟩, F.newL, F.kL, F.kC, F.kF, F.kG, fun x c q => let ⟨v, n⟩ := F.cell x c q; ⟨v, e.isCell n⟩, F.inj⟩
theorem StV.le (V : StV C sc h₀ env σ vals h) (e : Ext h h') (k : ∀ b o, C.base.get? b = some o → h.get? b = some o → h'.get? b = some o) : StV C sc h₀ env σ vals h' where
  fr := V.fr.ext e
  g := V.g
  ext := V.ext.trans e
  stay := fun b o q => k b o q (V.stay b o q)
  newS := fun a n => V.newS a (e.none n)
  bg := V.bg
  pf := fun a p => let ⟨o, es, n, q, d⟩ := V.pf a p; let ⟨sl, w⟩ := e a o q; ⟨_, es, n, w, d⟩
  bP := V.bP
  nodup := V.nodup
  val := fun i d x a b c => (V.val i d x a b c).ext e
  rep := fun i d a b => (V.rep i d a b).ext e
  owned := fun i d a b => let ⟨ad, ds, vs, q1, q2, q3, q4, q5⟩ := V.owned i d a b; ⟨ad, ds, vs, q1, q2, e.isList q3, q4.ext e, q5⟩
  dist := V.dist
theorem StV.Le {s s' : Shared} (V : StV C sc h₀ env σ vals s.heap) (x : Le C.base C.P s s') : StV C sc h₀ env σ vals s'.heap := V.le x.ext x.stay

/-- the set that values may lie in -/
def Sx (C : Cx) (σ : Sg) (vals : Nat → Value) (a : Addr) : Prop := C.S a ∧ NotO C.own σ vals a

theorem NotO.new {own : Nat → Bool} {a : Addr} (V : StV C sc h₀ env σ vals h) (n : h.get? a = none) : NotO C.own σ vals a := fun j o s e => by
  obtain ⟨d, hd⟩ := Option.isSome_iff_exists.mp s
  obtain ⟨b, ds, vs, _, q, ⟨ob, g, _⟩, _⟩ := V.owned j d hd o
  rw [q] at e
  obtain rfl : b = a := by injection e
  rw [n] at g; cases g
theorem StV.new (V : StV C sc h₀ env σ vals h) {a : Addr} (n : h.get? a = none) : Sx C σ vals a :=
  ⟨V.newS a n, NotO.new (own := C.own) V n⟩
theorem StV.offP (V : StV C sc h₀ env σ vals h) {a : Addr} {o : Obj} (e : h.get? a = some o) (n : ∀ es k, o.data ≠ .dict es k) : ¬ C.P a := fun p => by
  obtain ⟨o', es, k, g, d⟩ := V.pf a p
  rw [e] at g; cases g
  exact n es k d
theorem StV.offP_new (V : StV C sc h₀ env σ vals h) {a : Addr} (e : h.get? a = none) : ¬ C.P a := fun p => by
  obtain ⟨o', es, k, g, d⟩ := V.pf a p
  rw [e] at g; cases g
end

theorem isW_isV {sc : Scope} {x : PySem.Str} (h : isW sc x = true) : isV sc x = true := by
  unfold isW at h; unfold isV
  split at h <;> simp_all

section
variable {M : Model} {A : Around} {E : Value → Shared → Prop} {s : Shared} {C : Cx} {sc : Scope} {h₀ : Heap} {env : Env} {σ : Sg} {vals : Nat → Value}

theorem load_ok {x : PySem.Str} {v : Value} {Q : Value → Shared → Prop} (F : FrOk sc h₀ env s.heap) (a : ValAt env s.heap x v) (hx : (x == ("__classdict__" : PySem.Str)) = false) (h : Q v s) : wpAny M A (loadName env x) Q E s := by
  rcases a with ⟨k, m, n, q⟩ | ⟨k, c, q, n⟩
  · exact wpAny_loadName_local F.kind k n q h
  · rcases k with k | k
    · exact wpAny_loadName_cell F.kind k q n h
    · exact wpAny_loadName_free F.kind k q n h hx

/-- what may be stored under the name i: plain data, or, for an owned name, a list that nothing else bears -/
def ItemOk (C : Cx) (σ : Sg) (vals : Nat → Value) (h : Heap) (i : Nat) (v : Value) (d : D) : Prop :=
  (C.own i = false ∧ Rep h (Sx C σ vals) v d) ∨
  (C.own i = true ∧ ∃ a ds vs, v = .ref a ∧ d = .list ds ∧ ¬ C.S a ∧ NotO C.own σ vals a ∧ h.IsList a vs.toArray ∧ RepL h (Sx C σ vals) vs ds ∧ ds.length ≤ LB ∧ C.g₀.get? a = none)

/-- storing a value under a name of the scope's own -/
theorem store_any {i : Nat} {x : PySem.Str} {v : Value} {d : D} {Q : Unit → Shared → Prop} (V : StV C sc h₀ env σ vals s.heap) (hx : C.tab[i]? = some x) (hw : isW sc x = true)
    (hr : ItemOk C σ vals s.heap i v d)
    (h : ∀ h' tk, StV C sc h₀ env (upd σ i d) (updv vals i v) h' → (∀ b o, s.heap.get? b = some o → b ≠ env.locals → (∀ u, o.data ≠ .cell u) → h'.get? b = some o) →
      (∀ b, h₀.get? b ≠ none → h'.get? b = s.heap.get? b) → Q () { s with heap := h', toks := tk }) :
    wpAny M A (storeName env x v) Q E s := by
  have notO : ∀ a, C.S a → NotO C.own σ vals a → NotO C.own (upd σ i d) (updv vals i v) a := fun a sa n j oj sj e => by
    by_cases hj : j = i
    · subst hj
      rcases hr with ⟨ho, _⟩ | ⟨_, a', ds, vs, rfl, _, nS, _⟩
      · rw [ho] at oj; cases oj
      · rw [updv_same] at e; cases e; exact nS sa
    · rw [upd_ne σ d hj] at sj; rw [updv_ne vals v hj] at e; exact n j oj sj e
  have tabne : ∀ j y, C.tab[j]? = some y → j ≠ i → y ≠ x := fun j y hj ne e => by
    subst e
    obtain ⟨hj1, hj2⟩ := List.getElem?_eq_some_iff.mp hj
    obtain ⟨hi1, hi2⟩ := List.getElem?_eq_some_iff.mp hx
    exact ne ((List.getElem_inj V.nodup).mp (hj2.trans hi2.symm))
  have newg : ∀ a, h₀.get? a = none → C.g₀.get? a = none := fun a n => V.g.none n
  -- what is common to both roads
  have main : ∀ (h' : Heap) (L : Addr) (oL : Obj), s.heap.get? L = some oL → h'.get? L ≠ none → (∀ xs n, oL.data ≠ .seq xs n) → h₀.get? L = none → Heap.SameBut L s.heap h' → FrOk sc h₀ env h' → ValAt env h' x v →
      (∀ y w, y ≠ x → ValAt env s.heap y w → ValAt env h' y w) → (∀ a, C.P a → ∃ o es n, h'.get? a = some o ∧ o.data = .dict es n) →
      StV C sc h₀ env (upd σ i d) (updv vals i v) h' := fun h' L oL hL hL' hLd hLn hs F hv hval hp => by
    have ne : ∀ b o, h₀.get? b = some o → b ≠ L := fun b o e z => by rw [z, hLn] at e; cases e
    have on : On s.heap h' (Sx C σ vals) (fun a => C.S a ∧ NotO C.own (upd σ i d) (updv vals i v) a) := fun a ha o hao ⟨xs, n, hd⟩ => by
      have hne : a ≠ L := fun z => by subst z; rw [hL] at hao; cases hao; exact hLd _ _ hd
      exact ⟨⟨ha.1, notO a ha.1 ha.2⟩, o.slots, (hs.2 a hne).trans hao⟩
    refine ⟨F, V.g, fun b o e => let ⟨sl, w⟩ := V.ext b o e; ⟨sl, (hs.2 b (ne b o e)).trans w⟩, fun b o e => ?_, fun a n => V.newS a ((hs.2 a (fun z => hL' (z ▸ n))).symm.trans n), V.bg, hp, V.bP, V.nodup, fun j dj y hj hy hsc => ?_, fun j dj hj oj => ?_, fun j dj hj oj => ?_, fun j k a oj ok sj sk ej ek => ?_⟩
    · have hb : b ≠ L := fun z => V.bg b o e (newg b (z ▸ hLn))
      exact (hs.2 b hb).trans (V.stay b o e)
    · by_cases hji : j = i
      · subst hji
        rw [hx] at hy; cases hy
        rw [updv_same]; exact hv
      · rw [upd_ne σ d hji] at hj
        rw [updv_ne vals v hji]
        exact hval y _ (tabne j y hy hji) (V.val j dj y hj hy hsc)
    · by_cases hji : j = i
      · subst hji
        rw [upd_same] at hj; cases hj
        rw [updv_same]
        rcases hr with ⟨_, hr⟩ | ⟨ho, _⟩
        · exact hr.on on
        · rw [ho] at oj; cases oj
      · rw [upd_ne σ d hji] at hj
        rw [updv_ne vals v hji]
        exact (V.rep j dj hj oj).on on
    · by_cases hji : j = i
      · subst hji
        rw [upd_same] at hj; cases hj
        rw [updv_same]
        rcases hr with ⟨ho, _⟩ | ⟨_, a, ds, vs, q1, q2, _, _, ⟨o, g1, g2, n, g3⟩, q4, q5⟩
        · rw [ho] at oj; cases oj
        · have hne : a ≠ L := fun z => by subst z; rw [hL] at g1; cases g1; exact hLd _ _ g3
          exact ⟨a, ds, vs, q2, q1, ⟨o, (hs.2 a hne).trans g1, g2, n, g3⟩, q4.on on, q5⟩
      · rw [upd_ne σ d hji] at hj
        rw [updv_ne vals v hji]
        obtain ⟨a, ds, vs, q1, q2, ⟨o, g1, g2, n, g3⟩, q4, q5⟩ := V.owned j dj hj oj
        have hne : a ≠ L := fun z => by subst z; rw [hL] at g1; cases g1; exact hLd _ _ g3
        exact ⟨a, ds, vs, q1, q2, ⟨o, (hs.2 a hne).trans g1, g2, n, g3⟩, q4.on on, q5⟩
    · by_cases hji : j = i
      · by_cases hki : k = i
        · rw [hji, hki]
        · exfalso
          subst hji
          rw [upd_ne σ d hki] at sk
          rw [updv_ne vals v hki] at ek
          rw [updv_same] at ej
          rcases hr with ⟨ho, _⟩ | ⟨_, a', ds, vs, q, _, _, nO, _⟩
          · rw [ho] at oj; cases oj
          · rw [q] at ej; cases ej; exact nO k ok sk ek
      · by_cases hki : k = i
        · exfalso
          subst hki
          rw [upd_ne σ d hji] at sj
          rw [updv_ne vals v hji] at ej
          rw [updv_same] at ek
          rcases hr with ⟨ho, _⟩ | ⟨_, a', ds, vs, q, _, _, nO, _⟩
          · rw [ho] at ok; cases ok
          · rw [q] at ek; cases ek; exact nO j oj sj ej
        · rw [upd_ne σ d hji] at sj
          rw [upd_ne σ d hki] at sk
          rw [updv_ne vals v hji] at ej
          rw [updv_ne vals v hki] at ek
          exact V.dist j k a oj ok sj sk ej ek
  unfold isW at hw
  split at hw
  · rename_i hl
    have hk := V.fr.kL x hl
    obtain ⟨m, hn⟩ := V.fr.ns
    obtain ⟨oL, es, ep, hL, hLd, hLk⟩ := id hn
    refine wpAny_storeName_local hk hn (fun h' hn' hs => ?_) (by rw [V.fr.kind]; rfl)
    have cne : ∀ y c, env.cells.lookup y = some c → c ≠ env.locals := fun y c hc z => by
      obtain ⟨u, oc, hoc, hcd⟩ := V.fr.cell y c hc
      rw [z, hL] at hoc; cases hoc; rw [hLd] at hcd; cases hcd
    refine h h' _ (main h' env.locals oL hL (by obtain ⟨o, _, _, q, _⟩ := id hn'; rw [q]; simp) (fun xs n z => by rw [hLd] at z; cases z) V.fr.newL hs ⟨V.fr.kind, V.fr.glob, V.fr.bi, ⟨_, hn'⟩, V.fr.newL, V.fr.kL, V.fr.kC, V.fr.kF, V.fr.kG, fun y c hc => let ⟨u, n⟩ := V.fr.cell y c hc; ⟨u, n.sameBut hs (cne y c hc)⟩, V.fr.inj⟩
      (.inl ⟨hk, _, hn', by simp⟩) (fun y u hy a => ?_) fun a p => ?_) (fun b o e nb _ => (hs.2 b nb).trans e) fun b nb => hs.2 b fun z => nb (by rw [z]; exact V.fr.newL)
    · rcases a with ⟨k, m', n, q⟩ | ⟨k, c, q, n⟩
      · refine .inl ⟨k, _, hn', ?_⟩
        rw [if_neg hy]
        obtain ⟨o1, e1, p1, a1, b1, _, f1⟩ := n
        obtain ⟨o2, e2, p2, a2, b2, _, f2⟩ := hn
        rw [a1] at a2; cases a2
        rw [b1] at b2; cases b2
        rw [← f2, f1]; exact q
      · exact .inr ⟨k, c, q, n.sameBut hs (cne y c q)⟩
    · by_cases ha : a = env.locals
      · subst ha
        obtain ⟨o, es, ep, q, d, _⟩ := hn'
        exact ⟨o, es, ep, q, d⟩
      · obtain ⟨o, es, n, q, d⟩ := V.pf a p
        exact ⟨o, es, n, (hs.2 a ha).trans q, d⟩
  · rename_i hl
    obtain ⟨hk, c, hc, hcn⟩ := V.fr.kC x hl
    obtain ⟨u, hu⟩ := V.fr.cell x c hc
    obtain ⟨oc, hoc, hcd⟩ := id hu
    refine wpAny_storeName_cell V.fr.kind hk hc hu fun h' hv' hs => ?_
    have lne : env.locals ≠ c := fun z => by
      obtain ⟨m, o, es, ep, q, d, _⟩ := V.fr.ns
      rw [z, hoc] at q; cases q; rw [hcd] at d; cases d
    have hcell : ∀ y c', env.cells.lookup y = some c' → ∃ w, h'.IsCell c' w := fun y c' hy => by
      by_cases z : c' = c
      · exact ⟨_, z ▸ hv'⟩
      · obtain ⟨w, n⟩ := V.fr.cell y c' hy
        exact ⟨w, n.sameBut hs z⟩
    refine h h' _ (main h' c oc hoc (by obtain ⟨o, q, _⟩ := id hv'; rw [q]; simp) (fun xs n z => by rw [hcd] at z; cases z) hcn hs ⟨V.fr.kind, V.fr.glob, V.fr.bi, let ⟨m, n⟩ := V.fr.ns; ⟨m, n.sameBut hs lne⟩, V.fr.newL, V.fr.kL, V.fr.kC, V.fr.kF, V.fr.kG, hcell, V.fr.inj⟩
      (.inr ⟨.inl hk, c, hc, hv'⟩) (fun y u hy a => ?_) fun a p => ?_) (fun b o e _ nc => (hs.2 b fun z => by subst z; rw [hoc] at e; cases e; exact nc _ hcd).trans e) fun b nb => hs.2 b fun z => nb (by rw [z]; exact hcn)
    · rcases a with ⟨k, m', n, q⟩ | ⟨k, c', q, n⟩
      · exact .inl ⟨k, m', n.sameBut hs lne, q⟩
      · exact .inr ⟨k, c', q, n.sameBut hs fun z => hy (V.fr.inj y x c (z ▸ q) hc)⟩
    · obtain ⟨o, es, n, q, d⟩ := V.pf a p
      exact ⟨o, es, n, (hs.2 a fun z => by subst z; rw [hoc] at q; cases q; rw [hcd] at d; cases d).trans q, d⟩
  · cases hw

theorem store_ok {i : Nat} {x : PySem.Str} {v : Value} {d : D} {Q : Unit → Shared → Prop} (V : StV C sc h₀ env σ vals s.heap) (hx : C.tab[i]? = some x) (hw : isW sc x = true) (ho : C.own i = false)
    (hr : Rep s.heap (Sx C σ vals) v d)
    (h : ∀ h' tk, StV C sc h₀ env (upd σ i d) (updv vals i v) h' → (∀ b o, s.heap.get? b = some o → b ≠ env.locals → (∀ u, o.data ≠ .cell u) → h'.get? b = some o) →
      (∀ b, h₀.get? b ≠ none → h'.get? b = s.heap.get? b) → Q () { s with heap := h', toks := tk }) :
    wpAny M A (storeName env x v) Q E s := store_any V hx hw (.inl ⟨ho, hr⟩) h
end
end Mine
end

section
open PySem PySem.W PyProof.Rows PySem.SeqAt PySem.MeetsSeq PySem.MeetsSeq2 PySem.MeetsSeq3
set_option maxRecDepth 100000
namespace Mine

/-! ## 4. One operation each -/

/-- what is known of the exception that is being handled -/
abbrev HOk (A : Around) : Prop := A.handled = none
/-- the mark of a calm function's table: it may run while an exception is being handled -/
def calmN : PySem.Str := PySem.Str.ofString "0calm"
def calmT (tab : List PySem.Str) : Bool := tab.contains calmN
def calmI (f : Nat) : Bool := decide (9 ≤ f)
def HC (A : Around) (C : Cx) : Prop := A.handled = none ∨ (calmT C.tab = true ∧ ∃ x, A.handled = some (.ref x) ∧ Exc C.base x)
theorem HC.hx {A : Around} {C : Cx} {h : Heap} (x : HC A C) (st : ∀ b o, C.base.get? b = some o → h.get? b = some o) : HX A h := by
  rcases x with x | ⟨_, a, q, o, vs, h1, h2, h3⟩
  · exact .inl x
  · exact .inr ⟨a, o, vs, q, st a o h1, h2, h3⟩
theorem HC.no {A : Around} {C : Cx} (x : HC A C) (n : calmT C.tab = false) : A.handled = none := by
  rcases x with x | ⟨c, _⟩
  · exact x
  · rw [n] at c; cases c

section
variable {prog : Program} {w : World} {A : Around} {E : Value → Shared → Prop} {s : Shared}

abbrev newL (vs : List Value) : Obj := { cls := .type "list", data := .seq vs.toArray }
abbrev newT (vs : List Value) : Obj := { cls := .type "tuple", data := .seq vs.toArray }

theorem LBs : LB ≤ sizeLine := by rw [sizeLine_eq]; decide

theorem p_newList {M : Model} {vs : List Value} {Q : Value → Shared → Prop} (hz : vs.length ≤ LB) (h : Q (.ref s.heap.objs.size) { s with heap := s.heap.push (newL vs) }) : wpAny M A (newList vs) Q E s :=
  wpAny_newObj_type h (by show vs.toArray.size ≤ sizeLine; rw [List.size_toArray]; exact Nat.le_trans hz LBs)
theorem p_newTuple {M : Model} {vs : List Value} {Q : Value → Shared → Prop} (hz : vs.length ≤ LB) (h : Q (.ref s.heap.objs.size) { s with heap := s.heap.push (newT vs) }) : wpAny M A (newTuple vs) Q E s :=
  wpAny_newObj_type h (by show vs.toArray.size ≤ sizeLine; rw [List.size_toArray]; exact Nat.le_trans hz LBs)

theorem p_addList {l b : Addr} {vs ws : List Value} {Q : Value → Shared → Prop} (hl : s.heap.IsList l vs.toArray) (hb : s.heap.IsList b ws.toArray) (hz : vs.length + ws.length ≤ LB)
    (h : Q (.ref s.heap.objs.size) { s with heap := s.heap.push (newL (vs ++ ws)) }) : wpAny (model prog w) A (binaryOp .Add (.ref l) (.ref b)) Q E s := by
  obtain ⟨⟨c1, d1, e1, f1⟩, ho, hc, n, hd⟩ := id hl
  obtain ⟨⟨c2, d2, e2, f2⟩, ho2, hc2, n2, hd2⟩ := id hb
  dsimp only at hc hd hc2 hd2
  subst hc hd hc2 hd2
  have e : vs.toArray ++ ws.toArray = (vs ++ ws).toArray := by simp
  refine concat_meets ⟨_, ho, rfl⟩ ⟨_, ho2, rfl⟩ noFill_list_add seq_list_add PySem.F.slot_list_add PySem.F.entry_list_add (PySem.F.args_list_add_2 _ _)
    (list_addW l b vs.toArray ws.toArray n n2 d1 d2 f1 f2 (Nat.le_trans (by simpa using hz) LBs)) ⟨ho, ho2, ?_⟩
  rw [e]
  exact h

theorem foldl_app_replicate (v : Value) : ∀ (n : Nat) (acc : List Value), List.foldl (fun x1 x2 => x1 ++ x2) acc.toArray (List.replicate n #[v]) = (acc ++ List.replicate n v).toArray
  | 0, acc => by simp
  | n + 1, acc => by
    rw [List.replicate_succ, List.foldl_cons, show acc.toArray ++ #[v] = (acc ++ [v]).toArray from by simp, foldl_app_replicate v n, List.replicate_succ]
    simp
theorem p_rep {l : Addr} {v : Value} {k : Nat} {x : Int} {u : Tok} {Q : Value → Shared → Prop} (hl : s.heap.get? l = some { cls := .type "list", dict := none, data := .seq #[v] k, slots := #[] })
    (h0 : 0 ≤ x) (h1 : x ≤ LB) (h : Q (.ref s.heap.objs.size) { s with heap := s.heap.push (newL (List.replicate x.toNat v)) }) : wpAny (model prog w) A (binaryOp .Mult (.ref l) (.int x u)) Q E s := by
  have hx : x ≤ 1000 := h1
  have e : List.foldl (fun x1 x2 => x1 ++ x2) #[] (List.replicate (if (#[v] : Array Value).isEmpty = true then 0 else x.toNat) #[v]) = (List.replicate x.toNat v).toArray := by
    have := foldl_app_replicate v x.toNat []
    simpa using this
  refine wpAny_binaryOp_repeat_ref (T := "list") (U := "int") (by decide) ⟨_, hl, rfl⟩ (fun s' => typeIs_int s' x u) noFill_list_mul F.fills_int_mul F.slot_int_rmul repeat_list F.slot_int_index.lookup
    (call_meets F.slot_int_rmul (typeIs_int s x u) F.entry_int_rmul (F.args_int_rmul_2 _ _) (int___rmul___int_list x u l #[v] k)
      ⟨hl, rfl, ⟨_, hl, rfl⟩, call_meets F.slot_list_mul ⟨_, hl, rfl⟩ F.entry_list_mul (F.args_list_mul_2 _ _)
        (AutoListH.list___mul___list_int_3 l #[v] k x u (by simp [Builtin.List.listFitsIndex]; omega) (by have e : (#[v] : Array Value).size = 1 := rfl; rw [e]; omega) (by have := sizeLine_eq; simp [Builtin.List.listTooLong]; omega))
        ⟨hl, ?_⟩⟩)
  show Q (.ref s.heap.objs.size) { s with heap := s.heap.push { cls := .type "list", data := .seq (List.foldl (fun x1 x2 => x1 ++ x2) #[] (List.replicate (if (#[v] : Array Value).isEmpty = true then 0 else x.toNat) #[v])) } }
  rw [e]; exact h

theorem p_mul {a b : Int} {t u : Tok} {Q : Value → Shared → Prop} (hs : (small a || small b) = true) (h : Q (.int (a * b) s.toks) { s with toks := s.toks + 1 }) : wpAny (model prog w) A (binaryOp .Mult (.int a t) (.int b u)) Q E s := by
  have bits : ∀ c : Int, small c = true → Builtin.Int.intBits c ≤ 64 := fun c hc => by
    have hc : c.natAbs < 2 ^ 63 := of_decide_eq_true hc
    unfold Builtin.Int.intBits
    split
    · omega
    · rename_i h0
      have hne : c.natAbs ≠ 0 := by simpa using h0
      have : c.natAbs.log2 < 63 := (Nat.log2_lt hne).mpr hc
      omega
  refine PySem.P.mul_int h ?_
  rcases Bool.or_eq_true_iff.mp hs with q | q
  · exact .of_left (bits a q)
  · exact .of_right (bits b q)

theorem p_fdiv {a b : Int} {t u : Tok} {Q : Value → Shared → Prop} (h0 : 0 < b) (hs : small b = true) (h : Q (.int (a / b) s.toks) { s with toks := s.toks + 1 }) : wpAny (model prog w) A (binaryOp .FloorDiv (.int a t) (.int b u)) Q E s := by
  have hb : b.natAbs < 2 ^ 63 := of_decide_eq_true hs
  refine PyProof.Rows.floordiv_int (by omega) ?_ (.inl (PyProof.noPylong_of_log2 ?_))
  · rw [Int.fdiv_eq_ediv_of_nonneg a (by omega)]; exact h
  · have : b.natAbs.log2 < 63 := (Nat.log2_lt (by omega)).mpr hb
    omega
theorem p_mod {a b : Int} {t u : Tok} {Q : Value → Shared → Prop} (h0 : 0 < b) (h : Q (.int (a % b) s.toks) { s with toks := s.toks + 1 }) : wpAny (model prog w) A (binaryOp .Mod (.int a t) (.int b u)) Q E s := by
  refine PyProof.Rows.mod_int (by omega) ?_
  rw [Int.fmod_eq_emod_of_nonneg a (by omega)]; exact h
theorem p_pow {a b : Int} {t u : Tok} {Q : Value → Shared → Prop} (h0 : 0 ≤ b) (h1 : b ≤ 64) (ha : a.natAbs ≤ 64) (h : Q (.int (a ^ b.toNat) s.toks) { s with toks := s.toks + 1 }) : wpAny (model prog w) A (binaryOp .Pow (.int a t) (.int b u)) Q E s := by
  have hbits : Builtin.Int.intBits a ≤ 7 := by
    unfold Builtin.Int.intBits
    split
    · omega
    · rename_i hn
      have hne : a.natAbs ≠ 0 := by simpa using hn
      have : a.natAbs.log2 < 7 := (Nat.log2_lt hne).mpr (by omega)
      omega
  refine PyProof.Rows.pow_int h0 ?_ h
  have h2 : (Builtin.Int.intBits a : Int) * b ≤ 7 * 64 := Int.mul_le_mul (by omega) h1 h0 (by omega)
  omega

end
end Mine
end

section
open PySem PySem.W PyProof.Rows PySem.SeqAt PySem.MeetsSeq PySem.MeetsSeq2 PySem.MeetsSeq3
set_option maxRecDepth 100000
namespace Mine

/-! ## 5. Comparisons, items, cuts -/

section
variable {prog : Program} {w : World} {A : Around} {E : Value → Shared → Prop} {s : Shared}

theorem isTuple_of {h : Heap} {a : Addr} {vs : Array Value} (x : IsTup h a vs) : h.IsTuple a vs := x

/-- two lists of ints, at their places -/
theorem ints_at {vs ws : List Value} {x y : List Int} (hx : IntsAre vs x) (hy : IntsAre ws y) (A : Around) (s : Shared) (j : Nat) (h1 : j < vs.toArray.size) (h2 : j < ws.toArray.size) :
    EqAt A s vs.toArray[j] ws.toArray[j] (x.getD j 0 == y.getD j 0) := by
  have key : ∀ {vs : List Value} {x : List Int}, IntsAre vs x → ∀ j (h : j < vs.length), ∃ t, vs[j] = .int (x.getD j 0) t := by
    intro vs x h
    induction h with
    | nil => intro j h; simp at h
    | cons n t r ih =>
      intro j h
      cases j with
      | zero => exact ⟨t, rfl⟩
      | succ j => obtain ⟨t', e⟩ := ih j (by simpa using h); exact ⟨t', by simpa using e⟩
  obtain ⟨t, e⟩ := key hx j (by simpa using h1)
  obtain ⟨u, e'⟩ := key hy j (by simpa using h2)
  have e1 : vs.toArray[j] = .int (x.getD j 0) t := by simpa using e
  have e2 : ws.toArray[j] = .int (y.getD j 0) u := by simpa using e'
  rw [e1, e2]
  exact EqAt.int_int _ _ _ _
theorem all_beq : ∀ (x y : List Int), x.length = y.length → ((List.range x.length).all fun j => x.getD j 0 == y.getD j 0) = (x == y)
  | [], [], _ => rfl
  | a :: r, b :: q, h => by
    have ih := all_beq r q (by simpa using h)
    rw [List.length_cons, List.range_succ_eq_map, List.all_cons, List.all_map]
    have : ((fun j => (a :: r).getD j 0 == (b :: q).getD j 0) ∘ Nat.succ) = fun j => r.getD j 0 == q.getD j 0 := by funext j; simp
    rw [this, ih]
    simp [List.cons_beq_cons]

theorem eq_at {d e : D} {b : Bool} {v u : Value} {S S' : Addr → Prop} (he : eqD d e = some b) (hv : Rep s.heap S v d) (hu : Rep s.heap S' u e) (hc : A.units + 1 < cLine) :
    RcAt A s v u b ∧ EqAt A s v u b := by
  unfold eqD at he
  split at he
  · cases hv; cases hu; cases he; exact ⟨.int_int _ _ _ _, .int_int _ _ _ _⟩
  · cases hv; cases hu; cases he; exact ⟨.str_str _ _ _ _, .str_str _ _ _ _⟩
  · cases hv; cases hu; cases he; exact ⟨.none_none, .same _⟩
  · obtain ⟨l, vs, rfl, _, hl, _⟩ := hu.list_inv; cases hv; cases he; exact ⟨.none_list hl (by omega), .none_list hl (by omega)⟩
  · obtain ⟨l, vs, rfl, _, hl, _⟩ := hv.list_inv; cases hu; cases he; exact ⟨.list_none hl (by omega), .list_none hl (by omega)⟩
  · rename_i da db
    simp only [Option.bind_eq_some_iff] at he
    obtain ⟨x, hx, y, hy, he⟩ := he
    cases he
    obtain ⟨l, vs, rfl, _, hl, _, hr⟩ := hv.list_inv
    obtain ⟨m, ws, rfl, _, hm, _, hq⟩ := hu.list_inv
    have ea := intsOf_eq hx
    have eb := intsOf_eq hy
    subst ea eb
    have hx' := hr.ints
    have hy' := hq.ints
    have e1 : vs.length = x.length := hx'.length
    have e2 : ws.length = y.length := hy'.length
    have rc : RcAt A s (.ref l) (.ref m) (x == y) := by
      by_cases hsz : vs.length = ws.length
      · have h := RcAt.lists (A := A) (e := fun j => x.getD j 0 == y.getD j 0) hl hm (by simpa using hsz) (by omega) (fun j h1 h2 => ints_at hx' hy' A.in1 s j h1 h2)
        rw [show vs.toArray.size = x.length from by simpa using e1, all_beq x y (by omega)] at h
        exact h
      · have h := RcAt.lists_lengths (A := A) hl hm (by simpa using hsz) (by omega)
        have : (x == y) = false := by
          rw [beq_eq_false_iff_ne]; rintro rfl; omega
        rw [this]; exact h
    refine ⟨rc, ?_⟩
    by_cases hne : l = m
    · subst hne
      have : (x == y) = true := by
        obtain ⟨o, ho, _, n, hd⟩ := hl
        obtain ⟨o', ho', _, n', hd'⟩ := hm
        rw [ho] at ho'; cases ho'
        rw [hd] at hd'
        injection hd' with q _
        have q' : vs = ws := by simpa using q
        subst q'
        have uniq : ∀ {vs : List Value} {x y : List Int}, IntsAre vs x → IntsAre vs y → x = y := by
          intro vs x y h
          induction h generalizing y with
          | nil => intro h'; cases h'; rfl
          | cons n t r ih => intro h'; cases h' with | cons _ _ r' => rw [ih r']
        rw [uniq hx' hy']; exact beq_self_eq_true _
      rw [this]; exact .same _
    · exact .of_refs hne rc
  · cases he

theorem p_eq {d e : D} {b : Bool} {v u : Value} {S S' : Addr → Prop} {Q : Value → Shared → Prop} (he : eqD d e = some b) (hv : Rep s.heap S v d) (hu : Rep s.heap S' u e) (hc : A.units + 1 < cLine) (h : Q (.bool b) s) :
    wpAny (model prog w) A (compareOp .Eq v u) Q E s := (eq_at he hv hu hc).1 prog w E Q h

theorem p_neInts {a b : Int} {t u : Tok} {Q : Value → Shared → Prop} (h : Q (.bool (!(a == b))) s) : wpAny (model prog w) A (compareOp .NotEq (.int a t) (.int b u)) Q E s :=
  RcNeAt.int_int a t b u prog w E Q h
theorem p_neLists {da db : List D} {b : Bool} {v u : Value} {S S' : Addr → Prop} {Q : Value → Shared → Prop} (he : eqD (.list da) (.list db) = some b) (hv : Rep s.heap S v (.list da)) (hu : Rep s.heap S' u (.list db)) (hc : A.units + 1 < cLine)
    (h : Q (.bool (!b)) s) : wpAny (model prog w) A (compareOp .NotEq v u) Q E s := by
  unfold eqD at he
  simp only [Option.bind_eq_some_iff] at he
  obtain ⟨x, hx, y, hy, he⟩ := he
  cases he
  obtain ⟨l, vs, rfl, _, hl, _, hr⟩ := hv.list_inv
  obtain ⟨m, ws, rfl, _, hm, _, hq⟩ := hu.list_inv
  have ea := intsOf_eq hx
  have eb := intsOf_eq hy
  subst ea eb
  have hx' := hr.ints
  have hy' := hq.ints
  have e1 : vs.length = x.length := hx'.length
  have e2 : ws.length = y.length := hy'.length
  by_cases hsz : vs.length = ws.length
  · have h' := RcNeAt.lists (A := A) (e := fun j => x.getD j 0 == y.getD j 0) hl hm (by simpa using hsz) (by omega) (fun j h1 h2 => ints_at hx' hy' A.in1 s j h1 h2)
    rw [show vs.toArray.size = x.length from by simpa using e1, all_beq x y (by omega)] at h'
    exact h' prog w E Q h
  · have h' := RcNeAt.lists_lengths (A := A) hl hm (by simpa using hsz) (by omega)
    have : (x == y) = false := by
      rw [beq_eq_false_iff_ne]; rintro rfl; omega
    rw [this] at h; exact h' prog w E Q h

/-! ### membership -/

theorem anyEq_at {d : D} {v : Value} {S S' : Addr → Prop} (hv : Rep s.heap S v d) (hc : A.units + 1 < cLine) {xs : List D} {vs : List Value} {b : Bool} (he : anyEq d xs = some b) (hr : RepL s.heap S' vs xs) :
    ∃ e : Value → Bool, (∀ y, y ∈ vs → EqAt A s y v (e y)) ∧ vs.any e = b := by
  have key : ∀ {xs : List D} {vs : List Value} {b : Bool}, anyEq d xs = some b → RepL s.heap S' vs xs →
      (∀ y, y ∈ vs → ∃ x q, Rep s.heap S' y x ∧ eqD x d = some q) ∧ ∀ e : Value → Bool, (∀ y x, Rep s.heap S' y x → eqD x d = some (e y) ∨ eqD x d = none) → vs.any e = b := by
    intro xs
    induction xs with
    | nil =>
      intro vs b he hr
      obtain rfl := hr.nil_inv
      simp only [anyEq, Option.some.injEq] at he
      exact ⟨fun y h => by simp at h, fun e _ => by simpa using he⟩
    | cons x r ih =>
      intro vs b he hr
      obtain ⟨u, ws, rfl, hu, hr⟩ := hr.cons_inv
      simp only [anyEq, Option.bind_eq_some_iff, Option.map_eq_some_iff] at he
      obtain ⟨q, hq, c, hc, rfl⟩ := he
      obtain ⟨h1, h2⟩ := ih hc hr
      refine ⟨fun y hy => ?_, fun e h => ?_⟩
      · rcases List.mem_cons.mp hy with rfl | hy
        · exact ⟨x, q, hu, hq⟩
        · exact h1 y hy
      · rw [List.any_cons, h2 e h]
        rcases h u x hu with h | h
        · rw [hq] at h; cases h; rfl
        · rw [hq] at h; cases h
  obtain ⟨h1, h2⟩ := key he hr
  classical
  refine ⟨fun y => decide (∃ x, Rep s.heap S' y x ∧ eqD x d = some true), fun y hy => ?_, h2 _ fun y x hyx => ?_⟩
  · obtain ⟨x, q, hyx, hq⟩ := h1 y hy
    have := (eq_at (A := A) hq hyx hv hc).2
    have e : decide (∃ x, Rep s.heap S' y x ∧ eqD x d = some true) = q := by
      cases q with
      | true => exact decide_eq_true ⟨x, hyx, hq⟩
      | false =>
        refine decide_eq_false fun ⟨x', hyx', hq'⟩ => ?_
        rw [← hyx.uniq hyx', hq] at hq'; cases hq'
    show EqAt A s y v (decide (∃ x, Rep s.heap S' y x ∧ eqD x d = some true))
    rw [e]; exact this
  · cases hx : eqD x d with
    | none => exact .inr rfl
    | some q =>
      refine .inl ?_
      congr 1
      cases q with
      | true => exact (decide_eq_true ⟨x, hyx, hx⟩).symm
      | false =>
        refine (decide_eq_false fun ⟨x', hyx', hq'⟩ => ?_).symm
        rw [← hyx.uniq hyx', hx] at hq'; cases hq'

theorem p_in {d e : D} {b : Bool} {v u : Value} {S S' : Addr → Prop} {Q : Value → Shared → Prop} (he : inD d e = some b) (hv : Rep s.heap S v d) (hu : Rep s.heap S' u e) (hc : A.units + 2 < cLine) (h : Q (.bool b) s) :
    wpAny (model prog w) A (compareOp .In v u) Q E s := by
  have hc1 : A.in1.units + 1 < cLine := hc
  unfold inD at he
  split at he
  · obtain ⟨l, vs, rfl, _, hl, _, hr⟩ := hu.list_inv
    obtain ⟨q, h1, h2⟩ := anyEq_at (A := A.in1) hv hc1 he hr
    refine in_listAt q hl (fun y hy => h1 y (by simpa using hy)) ?_
    rw [List.any_toArray, h2]; exact h
  · obtain ⟨l, vs, rfl, _, hl, _, hr⟩ := hu.tup_inv
    obtain ⟨q, h1, h2⟩ := anyEq_at (A := A.in1) hv hc1 he hr
    refine in_tupleAt q hl (fun y hy => h1 y (by simpa using hy)) ?_
    rw [List.any_toArray, h2]; exact h
  · cases he
theorem p_notIn {d e : D} {b : Bool} {v u : Value} {S S' : Addr → Prop} {Q : Value → Shared → Prop} (he : inD d e = some b) (hv : Rep s.heap S v d) (hu : Rep s.heap S' u e) (hc : A.units + 2 < cLine) (h : Q (.bool (!b)) s) :
    wpAny (model prog w) A (compareOp .NotIn v u) Q E s := by
  have hc1 : A.in1.units + 1 < cLine := hc
  unfold inD at he
  split at he
  · obtain ⟨l, vs, rfl, _, hl, _, hr⟩ := hu.list_inv
    obtain ⟨q, h1, h2⟩ := anyEq_at (A := A.in1) hv hc1 he hr
    refine notIn_listAt q hl (fun y hy => h1 y (by simpa using hy)) ?_
    rw [List.any_toArray, h2]; exact h
  · obtain ⟨l, vs, rfl, _, hl, _, hr⟩ := hu.tup_inv
    obtain ⟨q, h1, h2⟩ := anyEq_at (A := A.in1) hv hc1 he hr
    refine notIn_tupleAt q hl (fun y hy => h1 y (by simpa using hy)) ?_
    rw [List.any_toArray, h2]; exact h
  · cases he

theorem p_cmp {o : Cm} {op : CmpOp} {d e : D} {b : Bool} {v u : Value} {S S' : Addr → Prop} {Q : Value → Shared → Prop}
    (hop : op = match o with | .eq => .Eq | .ne => .NotEq | .lt => .Lt | .le => .LtE | .gt => .Gt | .ge => .GtE | .inn => .In | .nin => .NotIn)
    (he : cmD o d e = some b) (hv : Rep s.heap S v d) (hu : Rep s.heap S' u e) (hc : A.units + 2 < cLine) (h : Q (.bool b) s) :
    wpAny (model prog w) A (compareOp op v u) Q E s := by
  subst hop
  unfold cmD at he
  split at he
  · exact p_eq he hv hu (by omega) h
  · obtain ⟨t, rfl⟩ := hv.int_inv; obtain ⟨t', rfl⟩ := hu.int_inv; cases he; exact p_neInts h
  · simp only [Option.map_eq_some_iff] at he
    obtain ⟨q, hq, rfl⟩ := he
    exact p_neLists hq hv hu (by omega) h
  · obtain ⟨t, rfl⟩ := hv.int_inv; obtain ⟨t', rfl⟩ := hu.int_inv; cases he; exact PySem.P.lt_int h
  · obtain ⟨t, rfl⟩ := hv.int_inv; obtain ⟨t', rfl⟩ := hu.int_inv; cases he; exact PySem.P.le_int h
  · obtain ⟨t, rfl⟩ := hv.int_inv; obtain ⟨t', rfl⟩ := hu.int_inv; cases he; exact PySem.P.gt_int h
  · obtain ⟨t, rfl⟩ := hv.int_inv; obtain ⟨t', rfl⟩ := hu.int_inv; cases he; exact PySem.P.ge_int h
  · exact p_in he hv hu hc h
  · simp only [Option.map_eq_some_iff] at he
    obtain ⟨q, hq, rfl⟩ := he
    exact p_notIn hq hv hu hc h
  · cases he

/-! ### items -/

theorem place_seqIndex {n : Nat} {k : Int} {j : Nat} (h : place n k = some j) : seqIndex? k n = some j ∧ j < n ∧ -(n : Int) ≤ k ∧ k < n := by
  unfold place at h
  split at h
  · split at h
    · cases h
      rename_i h0 h1
      refine ⟨?_, h1, by omega, by omega⟩
      unfold seqIndex?
      simp; omega
    · cases h
  · split at h
    · cases h
      rename_i h0 h1
      refine ⟨?_, by omega, by omega, by omega⟩
      rw [PySem.seqIndex_neg (by omega) (by omega)]
      congr 1; omega
    · cases h
end
end Mine
end

section
open PySem PySem.W PyProof.Rows PySem.SeqAt PySem.MeetsSeq PySem.MeetsSeq2 PySem.MeetsSeq3
set_option maxRecDepth 100000
namespace Mine

/-! ## 6. Items, cuts, built-ins -/

theorem subscripted_ops (slice : PySem.Expr) (o i : Value) : ∃ ops, subscripted slice false o i = operate ops (getItem o i) := by
  unfold subscripted
  split
  · exact ⟨_, rfl⟩
  · rename_i h; cases h
  · exact ⟨_, rfl⟩

section
variable {prog : Program} {w : World} {A : Around} {E : Value → Shared → Prop} {s : Shared}

theorem p_itemList {value slice : PySem.Expr} {l : Addr} {vs : List Value} {k : Int} {u : Tok} {j : Nat} {x : Value} {Q : Value → Shared → Prop} (hl : s.heap.IsList l vs.toArray) (hz : vs.length ≤ LB)
    (hp : place vs.length k = some j) (hx : vs[j]? = some x) (h : Q x s) : wpAny (model prog w) A (subscriptTail value slice (.ref l) (.int k u)) Q E s := by
  obtain ⟨ops, hs⟩ := subscripted_ops slice (.ref l) (.int k u)
  obtain ⟨_, h1, h2, h3⟩ := place_seqIndex hp
  have hz' : (vs.length : Int) ≤ 1000 := by have : vs.length ≤ 1000 := hz; omega
  refine tail_any hl.typeIs slot_list_getitem.lookup ?_ hs
  unfold place at hp
  by_cases h0 : 0 ≤ k
  · rw [if_pos h0] at hp
    split at hp
    · cases hp
      exact wpAny_getItem_list hl h0 (by omega) (by simpa using hx) h
    · cases hp
  · rw [if_neg h0] at hp
    split at hp
    · cases hp
      refine wpAny_getItem_list_neg hl (by omega) (by simpa using h2) (by omega) ?_ h
      rw [← hx]
      simp only [List.size_toArray, List.getElem?_toArray]
      congr 1; omega
    · cases hp

theorem p_itemTup {value slice : PySem.Expr} {l : Addr} {vs : List Value} {k : Int} {u : Tok} {j : Nat} {x : Value} {Q : Value → Shared → Prop} (hl : IsTup s.heap l vs.toArray) (hz : vs.length ≤ LB)
    (hp : place vs.length k = some j) (hx : vs[j]? = some x) (h : Q x s) : wpAny (model prog w) A (subscriptTail value slice (.ref l) (.int k u)) Q E s := by
  obtain ⟨ops, hs⟩ := subscripted_ops slice (.ref l) (.int k u)
  obtain ⟨h0, h1, h2, h3⟩ := place_seqIndex hp
  have hz' : (vs.length : Int) ≤ 1000 := by have : vs.length ≤ 1000 := hz; omega
  exact tail_any hl.typeIs slot_tuple_getitem.lookup (PyProof.Rows.getItem_tuple hl (by omega) (by omega) (by simpa using h0) (by simpa using hx) h) hs

theorem p_idx {value slice : PySem.Expr} {a i d : D} {v u : Value} {S S' : Addr → Prop} {Q : Value → Shared → Prop} (he : idxD a i = some d)
    (hv : Rep s.heap S v a ∨ ∃ l vs ds, v = .ref l ∧ a = .list ds ∧ s.heap.IsList l vs.toArray ∧ ds.length ≤ LB ∧ RepL s.heap S vs ds) (hu : Rep s.heap S' u i) (h : ∀ x, Rep s.heap S x d → Q x s) :
    wpAny (model prog w) A (subscriptTail value slice v u) Q E s := by
  unfold idxD at he
  simp only [Option.bind_eq_some_iff] at he
  obtain ⟨xs, h1, k, h2, j, h3, h4⟩ := he
  obtain ⟨t, rfl⟩ : ∃ t, u = .int k t := by
    cases i <;> simp [intD] at h2
    subst h2; exact hu.int_inv
  have fin : (∃ l vs ds, v = .ref l ∧ a = .list ds ∧ s.heap.IsList l vs.toArray ∧ ds.length ≤ LB ∧ RepL s.heap S vs ds) → wpAny (model prog w) A (subscriptTail value slice v (.int k t)) Q E s := by
    rintro ⟨l, vs, ds, rfl, rfl, hl, hz, hr⟩
    simp only [seqD, Option.some.injEq] at h1
    subst h1
    obtain ⟨x, hx, rx⟩ := hr.get h4
    exact p_itemList hl (by rw [hr.length]; exact hz) (by rw [hr.length]; exact h3) hx (h x rx)
  rcases hv with hv | hv
  · cases a with
    | list ds => obtain ⟨l, vs, e, _, hl, hz, hr⟩ := hv.list_inv; exact fin ⟨l, vs, ds, e, rfl, hl, hz, hr⟩
    | tup ds =>
      obtain ⟨l, vs, rfl, _, hl, hz, hr⟩ := hv.tup_inv
      simp only [seqD, Option.some.injEq] at h1
      subst h1
      obtain ⟨x, hx, rx⟩ := hr.get h4
      exact p_itemTup hl (by rw [hr.length]; exact hz) (by rw [hr.length]; exact h3) hx (h x rx)
    | _ => simp [seqD] at h1
  · exact fin hv

/-- a bound that is told or not -/
def partOf : Option Int → Tok → Value
  | none, _ => .none
  | some i, t => .int i t
theorem isPart_of (o : Option Int) (t : Tok) : IsPart (partOf o t) o := by cases o; exact .none; exact .int _ _

theorem pick_two (l : List Value) {a b : Int} (ha : 0 ≤ a) (hb : 0 ≤ b) : kms_pick l (some a) (some b) = (l.take b.toNat).drop a.toNat := by
  apply List.ext_getElem?
  intro i
  unfold kms_pick
  have e1 : kms_lo (some a) l.length = min a.toNat l.length := by simp only [kms_lo]; rw [if_neg (by omega)]
  have e2 : kms_hi (some b) l.length = min b.toNat l.length := by simp only [kms_hi]; rw [if_neg (by omega)]
  rw [e1, e2, List.getElem?_take, List.getElem?_drop, List.getElem?_drop, List.getElem?_take]
  by_cases h1 : a.toNat ≤ l.length
  · rw [Nat.min_eq_left h1]
    by_cases h2 : a.toNat + i < b.toNat
    · rw [if_pos h2]
      by_cases h3 : i < min b.toNat l.length - a.toNat
      · rw [if_pos h3]
      · rw [if_neg h3]
        exact (List.getElem?_eq_none (by omega)).symm
    · rw [if_neg h2, if_neg (by omega)]
  · rw [Nat.min_eq_right (show l.length ≤ a.toNat by omega)]
    have h4 : ¬ i < min b.toNat l.length - l.length := by omega
    rw [if_neg h4]
    split
    · exact (List.getElem?_eq_none (by omega)).symm
    · rfl

theorem pick_slD {vs : List Value} {lo hi : Option Int} {ds ds' : List D} (h : slD ds lo hi = some ds') (hlen : vs.length = ds.length) : ∃ f : ∀ {β : Type}, List β → List β, ds' = f ds ∧ (slicePick vs.toArray lo hi none).toList = f vs ∧ (∀ (hp : Heap) (S : Addr → Prop), RepL hp S vs ds → RepL hp S (f vs) (f ds)) ∧ (f ds).length ≤ ds.length := by
  unfold slD at h
  split at h
  · cases h
  · split at h
    · cases h
      rename_i hl
      rename_i l
      refine ⟨fun x => x.drop l.toNat, rfl, ?_, fun hp S r => r.drop _, by simp⟩
      have := slicePick_from' vs.toArray l.toNat
      rw [Int.toNat_of_nonneg hl.1] at this
      rw [this]
    · cases h
  · split at h
    · cases h
      rename_i u hu
      refine ⟨fun x => x.take u.toNat, rfl, ?_, fun hp S r => r.take _, by simp; omega⟩
      have := slicePick_upto' vs.toArray u.toNat
      rw [Int.toNat_of_nonneg hu.1] at this
      rw [this]
    · cases h
  · split at h
    · cases h
      rename_i l u hu
      refine ⟨fun x => (x.take u.toNat).drop l.toNat, rfl, ?_, fun hp S r => (r.take _).drop _, by simp; omega⟩
      rw [kms_pick_eq vs.toArray (some l) (some u)]
      exact pick_two vs hu.1 hu.2.1
    · cases h

/-- a cut of a list: the slice object, then the new list -/
theorem p_cut {value slice : PySem.Expr} {l : Addr} {vs : List Value} {vl vu vk : Value} {lo hi st : Option Int} {Q : Value → Shared → Prop} (hl : s.heap.IsList l vs.toArray) (hz : vs.length ≤ LB)
    (pl : IsPart vl lo) (pu : IsPart vu hi) (pk : IsPart vk st) (h0 : st ≠ some 0)
    (h : Q (.ref (s.heap.objs.size + 1)) { s with heap := (s.heap.push { cls := .type "slice", data := .fields #[vl, vu, vk] }).push (newL (slicePick vs.toArray lo hi st).toList) }) :
    wpAny (model prog w) A (subscriptTail value slice (.ref l) (.ref s.heap.objs.size)) Q E { s with heap := s.heap.push { cls := .type "slice", data := .fields #[vl, vu, vk] } } := by
  obtain ⟨ops, hs⟩ := subscripted_ops slice (.ref l) (.ref s.heap.objs.size)
  refine tail_any (Heap.IsList.typeIs (s := { s with heap := s.heap.push { cls := .type "slice", data := .fields #[vl, vu, vk] } }) (hl.push _)) list_getitem_lookup
    (wpAny_getItem_list_slice (hl.push _) (Heap.IsSliceOf.new ..) pl pu pk h0 ?_ (by show vs.toArray.size ≤ sizeLine; rw [List.size_toArray]; exact Nat.le_trans hz LBs)) hs
  show Q (.ref (s.heap.push _).objs.size) _
  rw [Heap.size_push]
  have e : newL (slicePick vs.toArray lo hi st).toList = { cls := .type "list", data := .seq (slicePick vs.toArray lo hi st) } := by simp [newL]
  rw [← e]
  exact h

/-! ### built-ins over ints -/

theorem old_push {h₁ h' : Heap} {I : Addr} {o : Obj} (hI : I = h₁.objs.size) (hk : ∀ b x, b ∉ [I] → (h₁.push o).get? b = some x → h'.get? b = some x) : ∀ b x, h₁.get? b = some x → h'.get? b = some x := fun b x e => by
  refine hk b x (fun hm => ?_) (Heap.get?_push_of_some _ e)
  rcases List.mem_cons.mp hm with e1 | hm
  · have := Heap.lt_size e; rw [e1, hI] at this; exact Nat.lt_irrefl _ this
  · cases hm

/-- the exception's address, if one is being handled -/
def hxl (A : Around) : List Addr := match A.handled with
  | some (.ref x) => [x]
  | _ => []
theorem HX.frame {A : Around} {h h' : Heap} (x : HX A h) (k : ∀ b ∈ hxl A, ∀ o, h.get? b = some o → h'.get? b = some o) : HX A h' := by
  rcases x with x | ⟨a, o, vs, q, h1, h2, h3⟩
  · exact .inl x
  · exact .inr ⟨a, o, vs, q, k a (by simp [hxl, q]) o h1, h2, h3⟩
theorem HX.at {A : Around} {h : Heap} (x : HX A h) : ∀ b ∈ hxl A, ∃ o, h.get? b = some o := fun b m => by
  rcases x with x | ⟨a, o, vs, q, h1, h2, h3⟩
  · simp [hxl, x] at m
  · simp [hxl, q] at m; subst m; exact ⟨o, h1⟩
theorem walks_listX (I ax : Addr) (hne : ax ≠ I) (items : Array Value) : Walks prog w A I (I :: ax :: hxl A) [I] items.size (fun i v => items[i]? = some v) (fun i h => h.IsListIter I ax i ∧ h.IsList ax items ∧ HX A h) where
  sub := fun b hb => by simp at hb; simp [hb]
  frame := fun _ _ _ st hk => ⟨st.1.at fun o e => hk I (by simp) o e, st.2.1.at fun o e => hk ax (by simp) o e, st.2.2.frame fun b m o e => hk b (by simp [m]) o e⟩
  item := fun i s Q E hi st hQ => by
    refine wpAny_pyNext_list_item st.1 st.2.1 (x := items[i]) (by simp [hi]) fun h' hit' hs' => ?_
    refine hQ _ h' s.toks (by simp [hi]) ⟨hit', st.2.1.extBut hs'.extBut hne, ?_⟩ fun b o hb e => hs'.extBut b o (fun h => hb (by simp [h])) e
    rcases st.2.2 with x | ⟨a, o, vs, q, h1, h2, h3⟩
    · exact .inl x
    · refine .inr ⟨a, o, vs, q, hs'.extBut a o (fun z => ?_) h1, h2, h3⟩
      subst z
      obtain ⟨o', ho', _, hd'⟩ := st.1
      rw [h1] at ho'; cases ho'
      rw [h2] at hd'; cases hd'
      simp at h3
  done := fun s Q E st hQ => next_list_end st.2.2 st.1 st.2.1 (by simp) fun h' he' => hQ h' s.toks fun b o hb e => he' b o (fun h => hb (by simp [h])) e
  self := fun _ _ _ _ st hQ => wpAny_pyIter_listiter st.1 hQ
theorem walks_list (hh : HOk A) (I ax : Addr) (hne : ax ≠ I) (items : Array Value) : Walks prog w A I [I, ax] [I] items.size (fun i v => items[i]? = some v) (fun i h => h.IsListIter I ax i ∧ h.IsList ax items) :=
  Walks.list hh I ax hne items

theorem intsAre_get : ∀ {vs : List Value} {x : List Int}, IntsAre vs x → ∀ {j : Nat} {v : Value}, vs[j]? = some v → ∃ t, v = .int (x.getD j 0) t
  | _, _, .nil, j, v, e => by simp at e
  | _, _, .cons n t r, 0, v, e => by simp at e; subst e; exact ⟨t, by simp⟩
  | _, _, .cons n t r, j + 1, v, e => by
    obtain ⟨u, hu⟩ := intsAre_get r (j := j) (v := v) (by simpa using e)
    exact ⟨u, by simpa using hu⟩

theorem preSum_list (l : List Int) : preSum (fun i => l.getD i 0) l.length = l.sum := by
  have key : ∀ j, j ≤ l.length → preSum (fun i => l.getD i 0) j = (l.take j).sum := by
    intro j
    induction j with
    | zero => intro _; simp [preSum]
    | succ j ih =>
      intro hj
      have e1 : l.take (j + 1) = l.take j ++ [l.getD j 0] := by
        rw [List.take_add_one, List.getElem?_eq_getElem (by omega)]; simp [List.getD_eq_getElem?_getD, List.getElem?_eq_getElem (show j < l.length by omega)]
      rw [preSum, ih (by omega), e1, List.sum_append]; simp
  simpa using key l.length (Nat.le_refl _)

theorem p_sum {l : Addr} {vs : List Value} {x : List Int} {Q : Value → Shared → Prop} (hx0 : HX A s.heap) (hl : s.heap.IsList l vs.toArray) (hx : IntsAre vs x)
    (h : ∀ h' tk t, (∀ b o, s.heap.get? b = some o → h'.get? b = some o) → Q (.int x.sum t) { s with heap := h', toks := tk }) : wpAny (model prog w) A (call (.builtin "sum") [.ref l]) Q E s := by
  have hlt : l < s.heap.objs.size := by obtain ⟨_, e, _⟩ := hl; exact Heap.lt_size e
  have e1 : vs.length = x.length := hx.length
  refine call_sum_walkG (wpAny_pyIter_list hl ⟨s.heap.objs.size, _, _, _, _, _, fun i => x.getD i 0, rfl, walks_listX (A := A.in1) s.heap.objs.size l (Nat.ne_of_lt hlt) vs.toArray,
    ⟨⟨_, Heap.get?_push_size _ rfl, rfl, rfl⟩, hl.push _, HX.keep (A := A.in1) hx0 fun b o e => Heap.get?_push_of_some _ e⟩, fun b hb => ?_, fun i v hv => intsAre_get hx (by simpa using hv), fun h' tk t hk => ?_⟩)
  · rw [Heap.size_push]
    rcases List.mem_cons.mp hb with rfl | hb
    · exact Nat.lt_succ_self _
    · rcases List.mem_cons.mp hb with rfl | hb
      · exact Nat.lt_succ_of_lt hlt
      · obtain ⟨o, q⟩ := HX.at (A := A.in1) hx0 b hb
        exact Nat.lt_succ_of_lt (Heap.lt_size q)
  · have := h h' tk t (old_push rfl hk)
    rw [← preSum_list, ← e1] at this
    simpa using this

theorem p_len {v : Value} {d : D} {xs : List D} {S : Addr → Prop} {Q : Value → Shared → Prop} (hs : seqD d = some xs) (hv : Rep s.heap S v d) (h : ∀ t tk, Q (.int xs.length t) { s with toks := tk }) :
    wpAny (model prog w) A (call (.builtin "len") [v]) Q E s := by
  cases d <;> simp [seqD] at hs
  · subst hs
    obtain ⟨l, vs, rfl, _, hl, hz, hr⟩ := hv.list_inv
    have hz' : (vs.length : Int) ≤ 1000 := by have : vs.length ≤ 1000 := by rw [hr.length]; exact hz
                                              omega
    refine Calls.call_len_list hl (by simp; omega) ?_
    have := h (s.toks + 1) (s.toks + 1 + 1)
    rw [← hr.length] at this
    simpa using this
  · subst hs
    obtain ⟨l, vs, rfl, _, hl, hz, hr⟩ := hv.tup_inv
    have hz' : (vs.length : Int) ≤ 1000 := by have : vs.length ≤ 1000 := by rw [hr.length]; exact hz
                                              omega
    refine PyProof.Rows.len_tuple hl (by simp; omega) ?_
    have := h (s.toks + 1) (s.toks + 1 + 1)
    rw [← hr.length] at this
    simpa using this
end
end Mine
end

section
open PySem PySem.W PyProof.Rows PySem.SeqAt PySem.MeetsSeq PySem.MeetsSeq2 PySem.MeetsSeq3
set_option maxRecDepth 100000
namespace Mine

/-! ## 7. sorted, max, min -/

theorem ins_perm (i : Int) : ∀ l : List Int, (ins i l).Perm (i :: l)
  | [] => .refl _
  | j :: r => by
    unfold ins
    split
    · exact .refl _
    · exact ((ins_perm i r).cons j).trans (.swap i j r)
theorem isort_perm : ∀ l : List Int, (isort l).Perm l
  | [] => .refl _
  | i :: r => (ins_perm i _).trans ((isort_perm r).cons i)
theorem ins_sorted (i : Int) : ∀ l : List Int, l.Pairwise (· ≤ ·) → (ins i l).Pairwise (· ≤ ·)
  | [], _ => by simp [ins]
  | j :: r, h => by
    obtain ⟨h1, h2⟩ := List.pairwise_cons.mp h
    unfold ins
    split
    · rename_i hij
      refine List.pairwise_cons.mpr ⟨fun a ha => ?_, h⟩
      rcases List.mem_cons.mp ha with rfl | ha
      · exact hij
      · exact Int.le_trans hij (h1 a ha)
    · rename_i hij
      refine List.pairwise_cons.mpr ⟨fun a ha => ?_, ins_sorted i r h2⟩
      rcases List.mem_cons.mp ((ins_perm i r).mem_iff.mp ha) with rfl | ha
      · omega
      · exact h1 a ha
theorem isort_sorted : ∀ l : List Int, (isort l).Pairwise (· ≤ ·)
  | [] => .nil
  | i :: r => ins_sorted i _ (isort_sorted r)
theorem sorted_uniq : ∀ {a b : List Int}, a.Perm b → a.Pairwise (· ≤ ·) → b.Pairwise (· ≤ ·) → a = b
  | [], b, p, _, _ => (List.nil_perm.mp p).symm
  | x :: r, b, p, ha, hb => by
    obtain ⟨h1, h2⟩ := List.pairwise_cons.mp ha
    cases b with
    | nil => exact absurd p.length_eq (by simp)
    | cons y q =>
      obtain ⟨h3, h4⟩ := List.pairwise_cons.mp hb
      have e : x = y := by
        have m1 : x ∈ y :: q := p.mem_iff.mp (List.mem_cons_self)
        have m2 : y ∈ x :: r := p.mem_iff.mpr (List.mem_cons_self)
        rcases List.mem_cons.mp m1 with e | m1
        · exact e
        · rcases List.mem_cons.mp m2 with e | m2
          · exact e.symm
          · have := h3 x m1; have := h1 y m2; omega
      subst e
      rw [sorted_uniq ((List.perm_cons x).mp p) h2 h4]

theorem maxI_spec : ∀ (l : List Int) (m : Int), maxI m l ∈ m :: l ∧ ∀ a ∈ m :: l, a ≤ maxI m l
  | [], m => by simp [maxI]
  | i :: r, m => by
    obtain ⟨h1, h2⟩ := maxI_spec r (if i > m then i else m)
    unfold maxI
    refine ⟨?_, fun a ha => ?_⟩
    · rcases List.mem_cons.mp h1 with e | h
      · rw [e]; split <;> simp
      · simp [h]
    · have h0 := h2 _ (List.mem_cons_self)
      rcases List.mem_cons.mp ha with rfl | ha
      · split at h0 <;> (split <;> omega)
      · rcases List.mem_cons.mp ha with rfl | ha
        · split at h0 <;> (split <;> omega)
        · exact h2 a (List.mem_cons_of_mem _ ha)
theorem minI_spec : ∀ (l : List Int) (m : Int), minI m l ∈ m :: l ∧ ∀ a ∈ m :: l, minI m l ≤ a
  | [], m => by simp [minI]
  | i :: r, m => by
    obtain ⟨h1, h2⟩ := minI_spec r (if i < m then i else m)
    unfold minI
    refine ⟨?_, fun a ha => ?_⟩
    · rcases List.mem_cons.mp h1 with e | h
      · rw [e]; split <;> simp
      · simp [h]
    · have h0 := h2 _ (List.mem_cons_self)
      rcases List.mem_cons.mp ha with rfl | ha
      · split at h0 <;> (split <;> omega)
      · rcases List.mem_cons.mp ha with rfl | ha
        · split at h0 <;> (split <;> omega)
        · exact h2 a (List.mem_cons_of_mem _ ha)

section
variable {prog : Program} {w : World} {A : Around} {E : Value → Shared → Prop} {s : Shared}

theorem p_sorted {l : Addr} {vs : List Value} {x : List Int} {Q : Value → Shared → Prop} (hl : s.heap.IsList l vs.toArray) (hx : IntsAre vs x) (hz : x.length < 128)
    (h : ∀ h' a out, (∀ b o, s.heap.get? b = some o → h'.get? b = some o) → s.heap.get? a = none → h'.IsList a out.toArray → IntsAre out (isort x) → Q (.ref a) { s with heap := h' }) :
    wpAny (model prog w) A (call (.builtin "sorted") [.ref l]) Q E s := by
  have both : (∀ (out : Array Value) (ns' : List Int), IntsAre out.toList ns' → ns'.Perm x → ns'.Pairwise (· ≤ ·) → Q (.ref (s.heap.objs.size + 1)) { s with heap := sortedAll s.heap vs out }) → wpAny (model prog w) A (call (.builtin "sorted") [.ref l]) Q E s := fun g => by
    by_cases h64 : vs.length < 64
    · exact sorted_ints hl hx h64 g
    · exact MineS.sorted_ints127 hl hx (by omega) (by rw [hx.length]; exact hz) g
  refine both fun out ns' a1 a2 a3 => ?_
  obtain ⟨e, he⟩ := sortedAll_at s.heap vs out
  have e1 : ns' = isort x := sorted_uniq (a2.trans (isort_perm x).symm) a3 (isort_sorted x)
  subst e1
  refine h _ _ out.toList (fun _ _ => sortedAll_old) ?_ ⟨_, he, rfl, e, by simp⟩ a1
  cases q : s.heap.get? (s.heap.objs.size + 1) with
  | none => rfl
  | some o => exact absurd (Heap.lt_size q) (Nat.not_lt.mpr (Nat.le_succ _))

theorem getD_mem' {x : List Int} {j : Nat} (h : j < x.length) : x.getD j 0 ∈ x := by
  rw [List.getD_eq_getElem?_getD, List.getElem?_eq_getElem h]; exact List.getElem_mem h
theorem mem_getD' {x : List Int} {a : Int} (h : a ∈ x) : ∃ j, j < x.length ∧ x.getD j 0 = a := by
  obtain ⟨j, hj, e⟩ := List.getElem_of_mem h
  exact ⟨j, hj, by rw [List.getD_eq_getElem?_getD, List.getElem?_eq_getElem hj]; exact e⟩

theorem p_max {l : Addr} {vs : List Value} {i : Int} {r : List Int} {Q : Value → Shared → Prop} (hh : HOk A) (hl : s.heap.IsList l vs.toArray) (hx : IntsAre vs (i :: r))
    (h : ∀ h' tk t, (∀ b o, s.heap.get? b = some o → h'.get? b = some o) → Q (.int (maxI i r) t) { s with heap := h', toks := tk }) : wpAny (model prog w) A (call (.builtin "max") [.ref l]) Q E s := by
  have hlt : l < s.heap.objs.size := by obtain ⟨_, e, _⟩ := hl; exact Heap.lt_size e
  have e1 : vs.length = r.length + 1 := by simpa using hx.length
  refine call_max_walk (wpAny_pyIter_list hl ⟨s.heap.objs.size, _, _, _, _, _, _, rfl, walks_list (A := A.in1) hh s.heap.objs.size l (Nat.ne_of_lt hlt) vs.toArray,
    ⟨⟨_, Heap.get?_push_size _ rfl, rfl, rfl⟩, hl.push _⟩, fun b hb => ?_, (by simp; omega), CmpOf.ints_gt (fun j => (i :: r).getD j 0) fun j v hv => intsAre_get hx (by simpa using hv), fun v h' tk hP hk => ?_⟩)
  · rw [Heap.size_push]
    rcases List.mem_cons.mp hb with rfl | hb
    · exact Nat.lt_succ_self _
    · rcases List.mem_cons.mp hb with rfl | hb
      · exact Nat.lt_succ_of_lt hlt
      · cases hb
  · have hP' : vs.toArray[_]? = some v := hP
    rw [List.getElem?_toArray] at hP'
    obtain ⟨t, rfl⟩ := intsAre_get hx hP'
    clear hP hP'
    obtain ⟨b1, b2⟩ := argBest_gt (fun j => (i :: r).getD j 0) (vs.toArray.size - 1)
    generalize argBest (fun a b => decide ((i :: r).getD a 0 > (i :: r).getD b 0)) (vs.toArray.size - 1) = k at *
    have hsz : vs.toArray.size - 1 = r.length := by simp; omega
    rw [hsz] at b1 b2
    have e2 : (i :: r).getD k 0 = maxI i r := by
      obtain ⟨m1, m2⟩ := maxI_spec r i
      have q1 := m2 _ (getD_mem' (x := i :: r) (j := k) (by simp; omega))
      obtain ⟨j, hj, ej⟩ := mem_getD' m1
      have q2 := b2 j (by simp at hj; omega)
      have q2 : (i :: r).getD j 0 ≤ (i :: r).getD k 0 := q2
      omega
    rw [e2]
    exact h h' tk t (old_push rfl hk)
theorem p_min {l : Addr} {vs : List Value} {i : Int} {r : List Int} {Q : Value → Shared → Prop} (hh : HOk A) (hl : s.heap.IsList l vs.toArray) (hx : IntsAre vs (i :: r))
    (h : ∀ h' tk t, (∀ b o, s.heap.get? b = some o → h'.get? b = some o) → Q (.int (minI i r) t) { s with heap := h', toks := tk }) : wpAny (model prog w) A (call (.builtin "min") [.ref l]) Q E s := by
  have hlt : l < s.heap.objs.size := by obtain ⟨_, e, _⟩ := hl; exact Heap.lt_size e
  have e1 : vs.length = r.length + 1 := by simpa using hx.length
  refine call_min_walk (wpAny_pyIter_list hl ⟨s.heap.objs.size, _, _, _, _, _, _, rfl, walks_list (A := A.in1) hh s.heap.objs.size l (Nat.ne_of_lt hlt) vs.toArray,
    ⟨⟨_, Heap.get?_push_size _ rfl, rfl, rfl⟩, hl.push _⟩, fun b hb => ?_, (by simp; omega), CmpOf.ints_lt (fun j => (i :: r).getD j 0) fun j v hv => intsAre_get hx (by simpa using hv), fun v h' tk hP hk => ?_⟩)
  · rw [Heap.size_push]
    rcases List.mem_cons.mp hb with rfl | hb
    · exact Nat.lt_succ_self _
    · rcases List.mem_cons.mp hb with rfl | hb
      · exact Nat.lt_succ_of_lt hlt
      · cases hb
  · have hP' : vs.toArray[_]? = some v := hP
    rw [List.getElem?_toArray] at hP'
    obtain ⟨t, rfl⟩ := intsAre_get hx hP'
    clear hP hP'
    obtain ⟨b1, b2⟩ := argBest_lt (fun j => (i :: r).getD j 0) (vs.toArray.size - 1)
    generalize argBest (fun a b => decide ((i :: r).getD a 0 < (i :: r).getD b 0)) (vs.toArray.size - 1) = k at *
    have hsz : vs.toArray.size - 1 = r.length := by simp; omega
    rw [hsz] at b1 b2
    have e2 : (i :: r).getD k 0 = minI i r := by
      obtain ⟨m1, m2⟩ := minI_spec r i
      have q1 := m2 _ (getD_mem' (x := i :: r) (j := k) (by simp; omega))
      obtain ⟨j, hj, ej⟩ := mem_getD' m1
      have q2 := b2 j (by simp at hj; omega)
      have q2 : (i :: r).getD k 0 ≤ (i :: r).getD j 0 := q2
      omega
    rw [e2]
    exact h h' tk t (old_push rfl hk)
theorem p_max2 {a b : Int} {t u : Tok} {Q : Value → Shared → Prop} (hh : HOk A) (h : ∀ h' tk t', (∀ c o, s.heap.get? c = some o → h'.get? c = some o) → Q (.int (if b > a then b else a) t') { s with heap := h', toks := tk }) :
    wpAny (model prog w) A (call (.builtin "max") [.int a t, .int b u]) Q E s :=
  max_two_ints hh fun h' tk hk => by
    have := h h' tk (if b > a then u else t) hk
    split <;> simp_all
theorem p_min2 {a b : Int} {t u : Tok} {Q : Value → Shared → Prop} (hh : HOk A) (h : ∀ h' tk t', (∀ c o, s.heap.get? c = some o → h'.get? c = some o) → Q (.int (if b < a then b else a) t') { s with heap := h', toks := tk }) :
    wpAny (model prog w) A (call (.builtin "min") [.int a t, .int b u]) Q E s :=
  min_two_ints hh fun h' tk hk => by
    have := h h' tk (if b < a then u else t) hk
    split <;> simp_all
end
end Mine
end

section
open PySem PySem.W PyProof.Rows PySem.SeqAt PySem.MeetsSeq PySem.MeetsSeq2 PySem.MeetsSeq3
set_option maxRecDepth 100000
namespace Mine

/-! ## 8. What a loop draws from -/

def isName : PySem.Expr → Bool
  | .Name .. => true
  | _ => false
def isTuple : PySem.Expr → Bool
  | .Tuple .. => true
  | _ => false

/-- an iterator that gives the data ds, one by one -/
structure It (prog : Program) (w : World) (A : Around) (target : PySem.Expr) (I : Addr) (fp wr : List Addr) (ds : List D) (Src : Heap → (Addr → Prop) → Prop) (St : Nat → Heap → Prop) : Prop where
  sub : ∀ b ∈ wr, b ∈ fp
  frame : ∀ i h h', St i h → (∀ b ∈ fp, ∀ o, h.get? b = some o → h'.get? b = some o) → St i h'
  obj : ∀ i h, St i h → ∀ b ∈ fp, ∃ o, h.get? b = some o ∧ (∀ es k, o.data ≠ .dict es k) ∧ ∀ u, o.data ≠ .cell u
  src : ∀ h h' S S', On h h' S S' → Src h S → Src h' S'
  item : ∀ i (s : Shared) (S : Addr → Prop) (d : D) (Q : Option Value → Shared → Prop) (E : Value → Shared → Prop), ds[i]? = some d → St i s.heap → Src s.heap S → (∀ a, s.heap.get? a = none → S a) →
    (∀ v h' tk, (∀ b o, b ∉ wr → s.heap.get? b = some o → h'.get? b = some o) →
      (∀ (s₂ : Shared) (Q' : Unit → Shared → Prop) (E' : Value → Shared → Prop), s₂.heap = h' →
        (∀ h'', St (i + 1) h'' → Rep h'' S v d → (∀ b o, b ∉ wr → h'.get? b = some o → h''.get? b = some o) → Q' () { s₂ with heap := h'' }) → wpAny (model prog w) A (letOwnedTupleGo target (.ref I) v) Q' E' s₂) →
      Q (some v) { s with heap := h', toks := tk }) → wpAny (model prog w) A (pyNext (.ref I)) Q E s
  done : ∀ (s : Shared) (Q : Option Value → Shared → Prop) (E : Value → Shared → Prop), HX A s.heap → St ds.length s.heap →
    (∀ h' tk, (∀ b o, b ∉ wr → s.heap.get? b = some o → h'.get? b = some o) → Q none { s with heap := h', toks := tk }) → wpAny (model prog w) A (pyNext (.ref I)) Q E s
  self : ∀ (s : Shared) (Q : Value → Shared → Prop) (E : Value → Shared → Prop), St 0 s.heap → Q (.ref I) s → wpAny (model prog w) A (pyIter (.ref I)) Q E s

section
variable {prog : Program} {w : World} {A : Around} {E : Value → Shared → Prop} {s : Shared}

theorem letGo_name {target : PySem.Expr} (h : isName target = true) (it v : Value) : letOwnedTupleGo target it v = pure () := by
  cases target <;> first | rfl | (simp [isName] at h)

theorem letGo_listiter {target : PySem.Expr} {I l : Addr} {i : Nat} {v : Value} {Q : Unit → Shared → Prop} (ht : isName target = true ∨ isTuple target = true) (hit : s.heap.IsListIter I l i) (h : Q () s) :
    wpAny (model prog w) A (letOwnedTupleGo target (.ref I) v) Q E s := by
  rcases ht with ht | ht
  · exact wpAny_of_eq (letGo_name ht _ _) h
  · cases target with
    | Tuple elts k pos =>
      cases v with
      | ref T => exact wpAny_letOwnedTupleGo_listiter hit h
      | _ => exact wpAny_of_eq (by rfl) h
    | _ => simp [isTuple] at ht

theorem It.list {target : PySem.Expr} (ht : isName target = true ∨ isTuple target = true) (I ax : Addr) (hne : ax ≠ I) {vs : List Value} {ds : List D} (hlen : vs.length = ds.length) :
    It prog w A target I [I, ax] [I] ds (fun h S => RepL h S vs ds) (fun i h => h.IsListIter I ax i ∧ h.IsList ax vs.toArray) where
  sub := fun b hb => by simp at hb; simp [hb]
  frame := fun i h h' st hk => ⟨st.1.at fun o e => hk I (by simp) o e, st.2.at fun o e => hk ax (by simp) o e⟩
  obj := fun i h st b hb => by
    obtain ⟨⟨o, ho, _, hd⟩, ⟨o', ho', _, n, hd'⟩⟩ := st
    rcases List.mem_cons.mp hb with rfl | hb
    · exact ⟨o, ho, fun _ _ => by rw [hd]; simp, fun _ => by rw [hd]; simp⟩
    · rcases List.mem_cons.mp hb with rfl | hb
      · exact ⟨o', ho', fun _ _ => by rw [hd']; simp, fun _ => by rw [hd']; simp⟩
      · cases hb
  src := fun h h' S S' on r => r.on on
  item := fun i s S d Q E hd st hs hS hQ => by
    obtain ⟨v, hv, rv⟩ := hs.get hd
    refine wpAny_pyNext_list_item st.1 st.2 (x := v) (by simpa using hv) fun h' hit' hs' => ?_
    refine hQ v h' s.toks (fun b o hb e => hs'.extBut b o (fun z => hb (by simp [z])) e) fun s₂ Q' E' e hQ' => ?_
    subst e
    refine letGo_listiter ht hit' (hQ' _ ⟨hit', st.2.extBut hs'.extBut hne⟩ (rv.on fun a ha o ho ⟨xs, n, hx⟩ => ?_) fun _ _ _ e => e)
    have hne' : a ≠ I := fun z => by subst z; obtain ⟨o', ho', _, hd'⟩ := st.1; rw [ho] at ho'; cases ho'; rw [hx] at hd'; cases hd'
    exact ⟨ha, o.slots, (hs'.2 a hne').trans ho⟩
  done := fun s Q E hx st hQ => next_list_end hx st.1 st.2 (by simp [hlen]) fun h' he' => hQ h' s.toks fun b o hb e => he' b o (fun h => hb (by simp [h])) e
  self := fun s Q E st hQ => wpAny_pyIter_listiter st.1 hQ

theorem walks_range (hh : HOk A) (I : Addr) (a : Int) (n : Nat) : Walks prog w A I [I] [I] n (fun i v => ∃ t, v = .int (a + (i : Int)) t) (fun i h => IsRangeIter h I (a + (i : Nat) * 1) ((n : Int) - (i : Nat)) 1) :=
  PyProof.Rows.LCg.range_walks hh a n

theorem It.range {target : PySem.Expr} (ht : isName target = true) (I : Addr) (a : Int) (n : Nat) :
    It prog w A target I [I] [I] ((List.range n).map fun (j : Nat) => D.int (a + j)) (fun _ _ => True) (fun i h => IsRangeIter h I (a + (i : Nat) * 1) ((n : Int) - (i : Nat)) 1) where
  sub := fun b hb => hb
  frame := fun i h h' st hk => hk I (by simp) _ st
  obj := fun i h st b hb => by
    obtain rfl := List.mem_singleton.mp hb
    exact ⟨_, st, fun _ _ => by simp, fun _ => by simp⟩
  src := fun _ _ _ _ _ _ => trivial
  item := fun i s S d Q E hd st hs hS hQ => by
    rw [List.getElem?_map, Option.map_eq_some_iff] at hd
    obtain ⟨j, hj, rfl⟩ := hd
    have hi : i < n := by
      have := (List.getElem?_eq_some_iff.mp hj).1
      simpa using this
    have hij : j = i := by
      have := (List.getElem?_eq_some_iff.mp hj).2
      simpa using this.symm
    subst hij
    refine wpAny_pyNext_range_item st (by omega) fun h' hit' hs' => ?_
    have st' : IsRangeIter h' I (a + ((j + 1 : Nat) : Int) * 1) ((n : Int) - ((j + 1 : Nat) : Int)) 1 := by
      have e1 : a + ((j + 1 : Nat) : Int) * 1 = a + (j : Int) * 1 + 1 := by push_cast; omega
      have e2 : (n : Int) - ((j + 1 : Nat) : Int) = (n : Int) - (j : Int) - 1 := by push_cast; omega
      rw [e1, e2]; exact hit'
    rw [Int.mul_one]
    refine hQ _ h' _ (fun b o hb e => hs'.extBut b o (fun h => hb (by simp [h])) e) fun s₂ Q' E' e hQ' => ?_
    subst e
    exact wpAny_of_eq (letGo_name ht _ _) (hQ' _ st' (.int _ _) fun _ _ _ e => e)
  done := fun s Q E hx st hQ => next_range_end hx st (by simp) fun h' he' => hQ h' s.toks fun b o _ e => he' b o e
  self := fun s Q E st hQ => wpAny_pyIter_rangeiter st hQ

theorem It.ofT {elts : List PySem.Expr} {k : Nat} {pos : Pos} {I : Addr} {fp wr : List Addr} {ds : List D} {Pt : Nat → Array Value → Prop} {St : Nat → Heap → Prop} {Mid : Nat → Addr → Heap → Prop} (Src : Heap → (Addr → Prop) → Prop)
    (W : WalksT prog w A I fp wr ds.length Pt St Mid)
    (obj : ∀ i h, St i h → ∀ b ∈ fp, ∃ o, h.get? b = some o ∧ (∀ es k, o.data ≠ .dict es k) ∧ ∀ u, o.data ≠ .cell u)
    (src : ∀ h h' S S', On h h' S S' → Src h S → Src h' S')
    (val : ∀ i h S vals d, ds[i]? = some d → Pt i vals → Src h S → ∃ es, d = .tup es ∧ RepL h (fun a => S a ∧ a ∉ wr) vals.toList es ∧ es.length ≤ LB) :
    It prog w A (.Tuple elts k pos) I fp wr ds Src St where
  sub := W.sub
  frame := W.frame
  obj := obj
  src := src
  item := fun i s S d Q E hd st hs hS hQ => by
    have hi : i < ds.length := (List.getElem?_eq_some_iff.mp hd).1
    refine W.item i s _ _ hi st fun T vals h' tk hP hT hIT hM hk => ?_
    obtain ⟨es, rfl, hr, hz⟩ := val i s.heap S vals d hd hP hs
    refine hQ _ h' tk hk fun s₂ Q' E' e hQ' => ?_
    subst e
    refine W.go elts k pos i T s₂ _ _ hM fun h'' st' hk' => hQ' h'' st' ?_ hk'
    have hTn : s.heap.get? T = none := by
      cases q : s.heap.get? T with
      | none => rfl
      | some o => exact absurd (Heap.lt_size q) (Nat.not_lt.mpr hT)
    obtain ⟨o, ho, hc, n, hd'⟩ := hIT
    refine .tup (vs := vals.toList) (hS T hTn) ⟨o, hk' T o (W.apart i T _ hM) ho, hc, n, by simpa using hd'⟩ hz (hr.on fun a ha o' ho' _ => ?_)
    exact ⟨ha.1, o'.slots, hk' a o' ha.2 (hk a o' ha.2 ho')⟩
  done := fun s Q E _ st hQ => W.done s Q E st hQ
  self := fun s Q E st hQ => W.self 0 s Q E st hQ

theorem zipD_length : ∀ a b : List D, (zipD a b).length = min a.length b.length
  | [], _ => by simp [zipD]
  | _ :: _, [] => by simp [zipD]
  | x :: r, y :: q => by simp [zipD, zipD_length r q]
theorem zipD_get : ∀ {a b : List D} {i : Nat} {d : D}, (zipD a b)[i]? = some d → ∃ x y, a[i]? = some x ∧ b[i]? = some y ∧ d = .tup [x, y]
  | [], _, i, d, h => by simp [zipD] at h
  | _ :: _, [], i, d, h => by simp [zipD] at h
  | x :: r, y :: q, 0, d, h => by simp [zipD] at h; exact ⟨x, y, by simp, by simp, h.symm⟩
  | x :: r, y :: q, i + 1, d, h => by simpa using zipD_get (a := r) (b := q) (i := i) (by simpa [zipD] using h)
theorem enumD_length : ∀ (n : Nat) (a : List D), (enumD n a).length = a.length
  | _, [] => rfl
  | n, x :: r => by simp [enumD, enumD_length (n + 1) r]
theorem enumD_get : ∀ {n : Nat} {a : List D} {i : Nat} {d : D}, (enumD n a)[i]? = some d → ∃ x, a[i]? = some x ∧ d = .tup [.int ((n + i : Nat) : Int), x]
  | _, [], i, d, h => by simp [enumD] at h
  | n, x :: r, 0, d, h => by simp [enumD] at h; exact ⟨x, by simp, by simp [h]⟩
  | n, x :: r, i + 1, d, h => by
    obtain ⟨y, h1, h2⟩ := enumD_get (n := n + 1) (a := r) (i := i) (by simpa [enumD] using h)
    exact ⟨y, by simpa using h1, by rw [h2]; congr 4; omega⟩

theorem LB2 : 2 ≤ LB := by decide
theorem RepL.two {h : Heap} {S : Addr → Prop} {v u : Value} {d e : D} (a : Rep h S v d) (b : Rep h S u e) : RepL h S [v, u] [d, e] := .cons a (.cons b .nil)

theorem On.and {h h' : Heap} {S S' : Addr → Prop} {P : Addr → Prop} (on : On h h' S S') : On h h' (fun a => S a ∧ P a) (fun a => S' a ∧ P a) := fun a ha o ho hx => let ⟨h1, h2⟩ := on a ha.1 o ho hx; ⟨⟨h1, ha.2⟩, h2⟩

theorem It.zip {elts : List PySem.Expr} {k : Nat} {pos : Pos} (hh : HOk A) {z TI TO i1 i2 l1 l2 : Addr} (Da : ZipApart z TI TO i1 i2 l1 l2) {xs ys : List Value} {dx dy : List D} (hx : xs.length = dx.length) (hy : ys.length = dy.length) :
    It prog w A (.Tuple elts k pos) z [z, TI, TO, i1, i2, l1, l2] [z, TO, i1, i2] (zipD dx dy) (fun h S => RepL h (fun a => S a ∧ a ∉ [z, TO, i1, i2]) xs dx ∧ RepL h (fun a => S a ∧ a ∉ [z, TO, i1, i2]) ys dy)
      (fun i h => IsZip h z TI TO .none ∧ IsPair h TI (.ref i1) (.ref i2) ∧ (∃ a b, IsPair h TO a b) ∧ h.IsListIter i1 l1 i ∧ h.IsListIter i2 l2 i ∧ h.IsList l1 xs.toArray ∧ h.IsList l2 ys.toArray) := by
  have W := WalksT.zip2 (prog := prog) (w := w) (A := A) hh z TI TO i1 i2 l1 l2 Da xs.toArray ys.toArray
  have e : min xs.toArray.size ys.toArray.size = (zipD dx dy).length := by rw [zipD_length]; simp [hx, hy]
  rw [e] at W
  refine It.ofT _ W (fun i h st b hb => ?_) (fun h h' S S' on r => ⟨r.1.on on.and, r.2.on on.and⟩) fun i h S vals d hd hP hs => ?_
  · obtain ⟨a1, a2, ⟨p, q, a3⟩, ⟨o4, a4, _, d4⟩, ⟨o5, a5, _, d5⟩, ⟨o6, a6, _, n6, d6⟩, ⟨o7, a7, _, n7, d7⟩⟩ := st
    simp only [List.mem_cons, List.not_mem_nil, or_false] at hb
    rcases hb with rfl | rfl | rfl | rfl | rfl | rfl | rfl
    · exact ⟨_, a1, fun _ _ => by simp, fun _ => by simp⟩
    · exact ⟨_, a2, fun _ _ => by simp, fun _ => by simp⟩
    · exact ⟨_, a3, fun _ _ => by simp, fun _ => by simp⟩
    · exact ⟨_, a4, fun _ _ => by rw [d4]; simp, fun _ => by rw [d4]; simp⟩
    · exact ⟨_, a5, fun _ _ => by rw [d5]; simp, fun _ => by rw [d5]; simp⟩
    · exact ⟨_, a6, fun _ _ => by rw [d6]; simp, fun _ => by rw [d6]; simp⟩
    · exact ⟨_, a7, fun _ _ => by rw [d7]; simp, fun _ => by rw [d7]; simp⟩
  · obtain ⟨a, b, ha, hb, rfl⟩ := zipD_get hd
    obtain ⟨x, y, h1, h2, rfl⟩ := hP
    obtain ⟨x', h1', rx⟩ := hs.1.get ha
    obtain ⟨y', h2', ry⟩ := hs.2.get hb
    rw [List.getElem?_toArray] at h1 h2
    rw [h1] at h1'; cases h1'
    rw [h2] at h2'; cases h2'
    exact ⟨[a, b], rfl, .two rx ry, LB2⟩

theorem It.enum {elts : List PySem.Expr} {k : Nat} {pos : Pos} (hh : HOk A) {e it l : Addr} (hei : e ≠ it) (hle : l ≠ e) (hli : l ≠ it) {xs : List Value} {dx : List D} (hx : xs.length = dx.length) :
    It prog w A (.Tuple elts k pos) e [e, it, l] [e, it] (enumD 0 dx) (fun h S => RepL h (fun a => S a ∧ a ∉ [e, it]) xs dx)
      (fun i h => (∃ old, IsEnum h e it i old) ∧ h.IsListIter it l i ∧ h.IsList l xs.toArray) := by
  have W := WalksT.enumerate (prog := prog) (w := w) (A := A) hh e it l hei hle hli xs.toArray
  have q : xs.toArray.size = (enumD 0 dx).length := by rw [enumD_length]; simp [hx]
  rw [q] at W
  refine It.ofT _ W (fun i h st b hb => ?_) (fun h h' S S' on r => r.on on.and) fun i h S vals d hd hP hs => ?_
  · obtain ⟨⟨old, a1⟩, ⟨o4, a4, _, d4⟩, ⟨o6, a6, _, n6, d6⟩⟩ := st
    simp only [List.mem_cons, List.not_mem_nil, or_false] at hb
    rcases hb with rfl | rfl | rfl
    · exact ⟨_, a1, fun _ _ => by simp, fun _ => by simp⟩
    · exact ⟨_, a4, fun _ _ => by rw [d4]; simp, fun _ => by rw [d4]; simp⟩
    · exact ⟨_, a6, fun _ _ => by rw [d6]; simp, fun _ => by rw [d6]; simp⟩
  · obtain ⟨a, ha, rfl⟩ := enumD_get hd
    obtain ⟨t, x, h1, rfl⟩ := hP
    obtain ⟨x', h1', rx⟩ := hs.get ha
    rw [List.getElem?_toArray] at h1
    rw [h1] at h1'; cases h1'
    refine ⟨[.int ((0 + i : Nat) : Int), a], rfl, ?_, LB2⟩
    rw [show ((0 + i : Nat) : Int) = (i : Int) from by omega]
    exact .two (.int _ _) rx
end
end Mine
end

section
open PySem PySem.W PyProof.Rows PySem.SeqAt PySem.MeetsSeq PySem.MeetsSeq2 PySem.MeetsSeq3
set_option maxRecDepth 100000
namespace Mine

/-! ## 9. The checker: a term t stands for the tree e -/

def opE : Op2 → PySem.Operator
  | .add => .Add | .sub => .Sub | .mul => .Mult | .fdiv => .FloorDiv | .mod => .Mod | .pow => .Pow
def cmE : Cm → PySem.CmpOp
  | .eq => .Eq | .ne => .NotEq | .lt => .Lt | .le => .LtE | .gt => .Gt | .ge => .GtE | .inn => .In | .nin => .NotIn
def isOpE (o : Op2) (p : PySem.Operator) : Bool := match o, p with
  | .add, .Add | .sub, .Sub | .mul, .Mult | .fdiv, .FloorDiv | .mod, .Mod | .pow, .Pow => true
  | _, _ => false
theorem isOpE_eq {o : Op2} {p : PySem.Operator} (h : isOpE o p = true) : p = opE o := by cases o <;> cases p <;> first | rfl | (simp [isOpE] at h)
def isCmE (o : Cm) (p : PySem.CmpOp) : Bool := match o, p with
  | .eq, .Eq | .ne, .NotEq | .lt, .Lt | .le, .LtE | .gt, .Gt | .ge, .GtE | .inn, .In | .nin, .NotIn => true
  | _, _ => false
theorem isCmE_eq {o : Cm} {p : PySem.CmpOp} (h : isCmE o p = true) : p = cmE o := by cases o <;> cases p <;> first | rfl | (simp [isCmE] at h)
def biE : Bi → PySem.Str × Value
  | .len => (PySem.Str.ofString "len", .builtin "len") | .sum => (PySem.Str.ofString "sum", .builtin "sum") | .sorted => (PySem.Str.ofString "sorted", .builtin "sorted")
  | .int => (PySem.Str.ofString "int", .type "int") | .max2 => (PySem.Str.ofString "max", .builtin "max") | .min2 => (PySem.Str.ofString "min", .builtin "min")
  | .maxL => (PySem.Str.ofString "max", .builtin "max") | .minL => (PySem.Str.ofString "min", .builtin "min")
/-- built-ins that no handled exception minds -/
def calmB : Bi → Bool
  | .max2 => false
  | .min2 => false
  | .maxL => false
  | .minL => false
  | _ => true
def isG (sc : Scope) (x : PySem.Str) : Bool := sc.names.lookup x == some .globalImplicit
def debugN : PySem.Str := PySem.Str.ofString "__debug__"
def clsdN : PySem.Str := PySem.Str.ofString "__classdict__"
def isSlice : PySem.Expr → Bool
  | .Slice .. => true
  | _ => false
def isSet : PySem.Expr → Bool
  | .Set .. => true
  | _ => false
def isStar : PySem.Expr → Bool
  | .Starred .. => true
  | _ => false
def keysOk (sc : Scope) : Bool := decide ((sc.names.map (·.1)).Nodup)

section
variable (tab fnm : List PySem.Str)

mutual
def chkP : Pat → Scope → PySem.Expr → Bool
  | .v i, sc, .Name x _ => tab[i]? == some x && isW sc x
  | .tup ps, sc, .Tuple es _ _ => !calmT tab && chkPL ps sc es
  | _, _, _ => false
def chkPL : PatL → Scope → List PySem.Expr → Bool
  | .nil, _, [] => true
  | .cons p ps, sc, e :: es => !isStar e && chkP p sc e && chkPL ps sc es
  | _, _, _ => false
end

/-- the scope of a comprehension within sc, whose targets are the names of vs -/
def scOk (sc isc : Scope) (vs : List Nat) : Bool :=
  isc.kind == .function && keysOk isc && (isc.names.all fun xk => match xk.2 with
    | .local => xk.1 == PySem.Str.ofString ".0" || vs.any fun i => tab[i]? == some xk.1
    | .cell => vs.any fun i => tab[i]? == some xk.1
    | .free => (sc.names.lookup xk.1 == some .cell || sc.names.lookup xk.1 == some .free)
    | .globalImplicit => true
    | _ => false) && !tab.contains (PySem.Str.ofString ".0")

mutual
def chk : T → Scope → PySem.Expr → Bool
  | .k c, _, .Constant d _ _ => match c, d with
    | .non, .none => true
    | .tru, .bool b => b
    | .fls, .bool b => !b
    | .int i, .int j => i == j
    | .str x, .str y => x == y
    | _, _ => false
  | .v i, sc, .Name x _ => tab[i]? == some x && isV sc x && x != debugN && x != clsdN
  | .op o a b, sc, .BinOp l p r _ => isOpE o p && chk a sc l && chk b sc r
  | .neg a, sc, .UnaryOp .USub x _ => chk a sc x
  | .cmp o a b, sc, .Compare l [p] [r] _ => isCmE o p && chk a sc l && chk b sc r && !isSet r
  | .isn yes a, sc, .Compare l [p] [.Constant .none _ _] _ => (match p with | .Is => yes | .IsNot => !yes | _ => false) && chk a sc l
  | .bop isAnd l, sc, .BoolOp p es _ => (match p with | .And => isAnd | .Or => !isAnd) && chkL l sc es
  | .not a, sc, .UnaryOp .Not x _ => chk a sc x
  | .ite c a b, sc, .IfExp t x y _ => chk c sc t && chk a sc x && chk b sc y
  | .list l, sc, .List es _ => chkL l sc es
  | .rep a n, sc, .BinOp (.List [x] _) .Mult r _ => chk a sc x && chk n sc r
  | .tup l, sc, .Tuple es _ _ => chkL l sc es
  | .idx a i, sc, .Subscript x y _ => !isSlice y && chk a sc x && chk i sc y
  | .sl a lo hi, sc, .Subscript x (.Slice l u none _) _ => chk a sc x && chkO lo sc l && chkO hi sc u
  | .rev a, sc, .Subscript x (.Slice none none (some (.UnaryOp .USub (.Constant (.int 1) _ _) _)) _) _ => chk a sc x
  | .call f l, sc, .Call (.Name x _) es [] _ => (!calmT tab || calmI f) && fnm[f]? == some x && isG sc x && x != debugN && !es.isEmpty && chkL l sc es
  | .bi b l, sc, .Call (.Name x _) es [] _ => (!calmT tab || calmB b) && x == (biE b).1 && isG sc x && !es.isEmpty && chkL l sc es
  | .comp elt g, sc, .ListComp e gens isc _ => scOk tab sc isc g.vars && decide g.vars.Nodup && chk elt isc e && (match g, gens with
    | .cons p s c g', ⟨target, iter, ifs, a⟩ :: gs => a == 0 && chkP tab p isc target && chkSr s sc target iter && chkL c isc ifs && chkG g' isc gs
    | _, _ => false)
  | _, _, _ => false
def chkL : TL → Scope → List PySem.Expr → Bool
  | .nil, _, [] => true
  | .cons a l, sc, e :: es => !isStar e && chk a sc e && chkL l sc es
  | _, _, _ => false
def chkO : TO → Scope → Option PySem.Expr → Bool
  | .none, _, none => true
  | .some a, sc, some e => chk a sc e
  | _, _, _ => false
def chkSr : Sr → Scope → PySem.Expr → PySem.Expr → Bool
  | .t a, sc, target, e => (isName target || isTuple target) && !isSet e && chk a sc e
  | .range1 a, sc, target, .Call (.Name x _) [e] [] _ => isName target && x == PySem.Str.ofString "range" && isG sc x && !isStar e && chk a sc e
  | .range2 a b, sc, target, .Call (.Name x _) [e, e'] [] _ => isName target && x == PySem.Str.ofString "range" && isG sc x && !isStar e && !isStar e' && chk a sc e && chk b sc e'
  | .zip a b, sc, target, .Call (.Name x _) [e, e'] [] _ => !calmT tab && isTuple target && x == PySem.Str.ofString "zip" && isG sc x && !isStar e && !isStar e' && chk a sc e && chk b sc e'
  | .enum a, sc, target, .Call (.Name x _) [e] [] _ => !calmT tab && isTuple target && x == PySem.Str.ofString "enumerate" && isG sc x && !isStar e && chk a sc e
  | _, _, _, _ => false
def chkG : GL → Scope → List PySem.Comprehension → Bool
  | .nil, _, [] => true
  | .cons p s c g, sc, ⟨target, iter, ifs, a⟩ :: gs => a == 0 && chkP tab p sc target && chkSr s sc target iter && chkL c sc ifs && chkG g sc gs
  | _, _, _ => false
end
end
end Mine
end

section
open PySem PySem.W PyProof.Rows PySem.SeqAt PySem.MeetsSeq PySem.MeetsSeq2 PySem.MeetsSeq3
set_option maxRecDepth 100000
namespace Mine

/-! ## 10. Soundness of terms -/

def RepB (bw : Bool) (h : Heap) (S : Addr → Prop) (v : Value) (d : D) : Prop :=
  Rep h S v d ∨ (bw = true ∧ ∃ l vs ds, v = .ref l ∧ d = .list ds ∧ h.IsList l vs.toArray ∧ ds.length ≤ LB ∧ RepL h S vs ds)
theorem RepB.plain {h : Heap} {S : Addr → Prop} {v : Value} {d : D} (r : RepB false h S v d) : Rep h S v d := r.elim id fun x => by cases x.1
theorem RepB.any {bw : Bool} {h : Heap} {S : Addr → Prop} {v : Value} {d : D} (r : RepB bw h S v d) : Rep h (fun _ => True) v d := by
  rcases r with r | ⟨_, l, vs, ds, rfl, rfl, hl, hz, hr⟩
  · exact r.any
  · exact .list trivial hl hz hr.any
theorem RepB.ext {bw : Bool} {h h' : Heap} {S : Addr → Prop} {v : Value} {d : D} (r : RepB bw h S v d) (x : Ext h h') : RepB bw h' S v d := by
  rcases r with r | ⟨b, l, vs, ds, e1, e2, hl, hz, hr⟩
  · exact .inl (r.ext x)
  · exact .inr ⟨b, l, vs, ds, e1, e2, x.isList hl, hz, hr.ext x⟩

def srcE : List (PySem.Str × Value) := [(PySem.Str.ofString "range", .type "range"), (PySem.Str.ofString "zip", .type "zip"), (PySem.Str.ofString "enumerate", .type "enumerate")]

structure Gl (C : Cx) (fnm : List PySem.Str) (fa : Nat → Addr) (mg mb : PySem.Str → Option Value) : Prop where
  g : C.base.Ns mainGlobals mg
  b : C.base.Ns builtinsNs mb
  bi : ∀ x : Bi, mg (biE x).1 = none ∧ mb (biE x).1 = some (biE x).2
  src : ∀ x ∈ srcE, mg x.1 = none ∧ mb x.1 = some x.2
  fn : ∀ f x, fnm[f]? = some x → mg x = some (.ref (fa f)) ∧ ∃ o fd, C.base.get? (fa f) = some o ∧ o.data = .func fd

structure AOk (A : Around) (C : Cx) : Prop where
  hh : HC A C
  units : A.units + 50 < cLine

structure CallOk (prog : Program) (w : World) (A : Around) (C : Cx) (fa : Nat → Addr) (F : Fn) : Prop where
  call : ∀ f ds d, (A.handled = none ∨ calmI f = true) → F f ds = some (.ok d) → ∀ (s : Shared) (vs : List Value) (S : Addr → Prop), RepL s.heap S vs ds → (∀ a, s.heap.get? a = none → S a) → (∀ b o, C.base.get? b = some o → s.heap.get? b = some o) →
    (∀ a, C.P a → ∃ o es n, s.heap.get? a = some o ∧ o.data = .dict es n) → ∀ (Q E : Value → Shared → Prop), (∀ v s', Le C.base C.P s s' → Rep s'.heap S v d → Q v s') → wpAny (model prog w) A (call (.ref (fa f)) vs) Q E s

section
variable (prog : Program) (w : World) (A : Around) (C : Cx) (fnm : List PySem.Str) (F : Fn)

def SoT (t : T) : Prop := ∀ {bw : Bool} {σ : Sg} {d : D} {sc : Scope} {e : PySem.Expr} {h₀ : Heap} {env : Env} {vals : Nat → Value} {s : Shared} {Q E : Value → Shared → Prop},
  ev C.own F bw t σ = some d → chk C.tab fnm t sc e = true → StV C sc h₀ env σ vals s.heap →
  (∀ v s', Le C.base C.P s s' → RepB bw s'.heap (Sx C σ vals) v d → (t.fresh = true → ∀ a, v = .ref a → s.heap.get? a = none) → Q v s') → wpAny (model prog w) A (eval e env) Q E s
def SoB (t : T) : Prop := ∀ {σ : Sg} {b : Bool} {sc : Scope} {e : PySem.Expr} {h₀ : Heap} {env : Env} {vals : Nat → Value} {s : Shared} {Q : Bool → Shared → Prop} {E : Value → Shared → Prop},
  ev C.own F false t σ = some (.bool b) → chk C.tab fnm t sc e = true → StV C sc h₀ env σ vals s.heap →
  (∀ s', Le C.base C.P s s' → Q b s') → wpAny (model prog w) A (isTrue e env (eval e env)) Q E s
def SoL (l : TL) : Prop := ∀ {bw : Bool} {σ : Sg} {ds : List D} {sc : Scope} {es : List PySem.Expr} {pos : Pos} {h₀ : Heap} {env : Env} {vals : Nat → Value} {s : Shared} {Q : List Value → Shared → Prop} {E : Value → Shared → Prop},
  evL C.own F bw l σ = some ds → chkL C.tab fnm l sc es = true → StV C sc h₀ env σ vals s.heap →
  (∀ vs s', Le C.base C.P s s' → vs.length = ds.length → (∀ S, (∀ a, Sx C σ vals a → S a) → bw = false → RepL s'.heap S vs ds) → RepL s'.heap (fun _ => True) vs ds → Q vs s') → wpAny (model prog w) A (spliced (backTo pos (starEach es env))) Q E s
end

section
variable {prog : Program} {w : World} {A : Around} {C : Cx} {fnm : List PySem.Str} {F : Fn} {fa : Nat → Addr} {mg mb : PySem.Str → Option Value}

/-- where the value's tree has no other truth than the value's -/
theorem so_truth {e : PySem.Expr} {env : Env} {b : Bool} {s : Shared} {Q : Bool → Shared → Prop} {E : Value → Shared → Prop}
    (he : ∀ x, isTrue e env x = (do let v ← x; standAt e.pos; holding [v] (truthy v)))
    (h : wpAny (model prog w) A (eval e env) (fun v s' => v = .bool b ∧ Q b s') E s) : wpAny (model prog w) A (isTrue e env (eval e env)) Q E s := by
  rw [he]
  refine wpAny_bind (wpAny_mono h (fun v s' hv => ?_) fun _ _ x => x)
  obtain ⟨rfl, hq⟩ := hv
  exact wpAny_bind (wpAny_standAt (wpAny_holding (wpAny_truthy_bool hq)))

theorem so_k (c : K) : SoT prog w A C fnm F (.k c) := by
  intro bw σ d sc e h₀ env vals s Q E he hc V h
  cases e with
  | Constant x k pos =>
    simp only [ev, Option.some.injEq] at he
    subst he
    cases c with
    | non => cases x <;> simp [chk] at hc; exact fun _ _ _ => h _ _ (.refl ..) (.inl .non) (by simp [T.fresh])
    | tru =>
      cases x <;> simp [chk] at hc
      subst hc
      exact fun _ _ _ => h _ _ (.refl ..) (.inl (.bool true)) (by simp [T.fresh])
    | fls =>
      cases x <;> simp [chk] at hc
      subst hc
      exact fun _ _ _ => h _ _ (.refl ..) (.inl (.bool false)) (by simp [T.fresh])
    | int i =>
      cases x <;> simp [chk] at hc
      subst hc
      exact wpAny_Constant_int (h _ _ (.tok ..) (.inl (.int _ _)) (by simp [T.fresh]))
    | str y =>
      cases x <;> simp [chk] at hc
      subst hc
      exact Calls.Constant_str (h _ _ (.tok ..) (.inl (.str _ _)) (by simp [T.fresh]))
  | _ => simp [chk] at hc

theorem ne_beq {x y : PySem.Str} (h : (x != y) = true) : (x == y) = false := by
  simpa [bne] using h

theorem so_v (i : Nat) : SoT prog w A C fnm F (.v i) := by
  intro bw σ d sc e h₀ env vals s Q E he hc V h
  cases e with
  | Name x pos =>
    simp only [chk, Bool.and_eq_true, beq_iff_eq] at hc
    obtain ⟨⟨⟨h1, h2⟩, h3⟩, h4⟩ := hc
    have go : ∀ hσ : σ i = some d, RepB bw s.heap (Sx C σ vals) (vals i) d → wpAny (model prog w) A (eval (.Name x pos) env) Q E s := fun hσ hr =>
      wpAny_Name (load_ok V.fr (V.val i d x hσ h1 h2) (ne_beq h4) (h _ _ (.refl ..) hr (by simp [T.fresh]))) (ne_beq h3)
    unfold ev at he
    split at he
    · cases he
    · rename_i ho
      by_cases hown : C.own i = true
      · obtain ⟨a, ds, vs, rfl, e2, hl, hr, hz, _⟩ := V.owned i d he hown
        have hb : bw = true := by
          cases bw with
          | true => rfl
          | false => simp [hown] at ho
        exact go he (.inr ⟨hb, a, vs, ds, e2, rfl, hl, hz, hr⟩)
      · exact go he (.inl (V.rep i d he (by simpa using hown)))
  | _ => simp [chk] at hc

theorem so_op {o : Op2} {a b : T} (ha : SoT prog w A C fnm F a) (hb : SoT prog w A C fnm F b) : SoT prog w A C fnm F (.op o a b) := by
  intro bw σ d sc e h₀ env vals s Q E he hc V h
  cases e with
  | BinOp l p r pos =>
    simp only [chk, Bool.and_eq_true] at hc
    obtain ⟨⟨h1, h2⟩, h3⟩ := hc
    obtain rfl := isOpE_eq h1
    simp only [ev, Option.bind_eq_some_iff] at he
    obtain ⟨x, hx, y, hy, he⟩ := he
    refine wpAny_BinOp (ha hx h2 V fun v s₁ L₁ r₁ _ => hb hy h3 (V.Le L₁) fun u s₂ L₂ r₂ _ => ?_)
    have r₁ := r₁.plain.ext L₂.ext
    have r₂ := r₂.plain
    have L := L₁.trans L₂
    have int : ∀ {k : Int} {t : Tok}, d = .int k → Q (.int k t) { s₂ with toks := s₂.toks + 1 } := fun {k t} hd => by
      subst hd
      exact h _ _ (L.trans (.tok ..)) (.inl (.int _ _)) (fun _ a e => by cases e)
    unfold op2D at he
    split at he
    · obtain ⟨t, rfl⟩ := r₁.int_inv; obtain ⟨t', rfl⟩ := r₂.int_inv; cases he; exact PySem.P.add_int (int rfl)
    · obtain ⟨t, rfl⟩ := r₁.int_inv; obtain ⟨t', rfl⟩ := r₂.int_inv; cases he; exact PySem.P.sub_int (int rfl)
    · obtain ⟨t, rfl⟩ := r₁.int_inv; obtain ⟨t', rfl⟩ := r₂.int_inv
      split at he
      · rename_i hs; cases he; exact p_mul hs (int rfl)
      · cases he
    · obtain ⟨t, rfl⟩ := r₁.int_inv; obtain ⟨t', rfl⟩ := r₂.int_inv
      split at he
      · rename_i hs; cases he; exact p_fdiv hs.1 hs.2 (int rfl)
      · cases he
    · obtain ⟨t, rfl⟩ := r₁.int_inv; obtain ⟨t', rfl⟩ := r₂.int_inv
      split at he
      · rename_i hs; cases he; exact p_mod hs (int rfl)
      · cases he
    · obtain ⟨t, rfl⟩ := r₁.int_inv; obtain ⟨t', rfl⟩ := r₂.int_inv
      split at he
      · rename_i hs; cases he; exact p_pow hs.1 hs.2.1 hs.2.2 (int rfl)
      · cases he
    · obtain ⟨la, vs, rfl, _, hl, _, hr⟩ := r₁.list_inv
      obtain ⟨lb, ws, rfl, _, hm, _, hq⟩ := r₂.list_inv
      split at he
      · rename_i hs
        cases he
        refine p_addList hl hm (by rw [hr.length, hq.length]; exact hs) ?_
        have Lp := L.trans (Le.push C.base C.P s₂ (newL (vs ++ ws)))
        have hn : s₂.heap.get? s₂.heap.objs.size = none := by
          cases q : s₂.heap.get? s₂.heap.objs.size with
          | none => rfl
          | some o => exact absurd (Heap.lt_size q) (Nat.lt_irrefl _)
        refine h _ _ Lp (.inl (.list ((V.Le L).new hn) ⟨_, Heap.get?_push_size _ rfl, rfl, _, rfl⟩ (by simpa using hs) ?_)) fun _ a e => ?_
        · exact (hr.append hq).ext (.of fun _ _ e => Heap.get?_push_of_some _ e)
        · cases e; exact L.ext.none hn
      · cases he
    · cases he
  | _ => simp [chk] at hc

theorem so_neg {a : T} (ha : SoT prog w A C fnm F a) : SoT prog w A C fnm F (.neg a) := by
  intro bw σ d sc e h₀ env vals s Q E he hc V h
  cases e with
  | UnaryOp op x pos =>
    cases op with
    | USub =>
      simp only [chk] at hc
      simp only [ev, Option.bind_eq_some_iff] at he
      obtain ⟨x, hx, he⟩ := he
      refine wpAny_UnaryOp (ha hx hc V fun v s₁ L₁ r₁ _ => ?_)
      cases x <;> simp [negD] at he
      subst he
      obtain ⟨t, rfl⟩ := r₁.plain.int_inv
      exact PySem.P.neg_int (h _ _ (L₁.trans (.tok ..)) (.inl (.int _ _)) (by simp [T.fresh]))
    | _ => simp [chk] at hc
  | _ => simp [chk] at hc

theorem noMarks {op : PySem.CmpOp} {r : PySem.Expr} (h : isSet r = false) : behindInMarks op r = false := by
  cases r <;> first | rfl | (simp [isSet] at h)

theorem so_cmp {o : Cm} {a b : T} (hu : A.units + 50 < cLine) (ha : SoT prog w A C fnm F a) (hb : SoT prog w A C fnm F b) : SoT prog w A C fnm F (.cmp o a b) := by
  intro bw σ d sc e h₀ env vals s Q E he hc V h
  cases e with
  | Compare l ops rs pos =>
    match ops, rs with
    | [p], [r] =>
      simp only [chk, Bool.and_eq_true, Bool.not_eq_true'] at hc
      obtain ⟨⟨⟨h1, h2⟩, h3⟩, h4⟩ := hc
      obtain rfl := isCmE_eq h1
      simp only [ev, Option.bind_eq_some_iff, Option.map_eq_some_iff] at he
      obtain ⟨x, hx, y, hy, q, hq, rfl⟩ := he
      refine wpAny_Compare1 (ha hx h2 V fun v s₁ L₁ r₁ _ => hb hy h3 (V.Le L₁) fun u s₂ L₂ r₂ _ => ?_) (noMarks h4)
      refine p_cmp (o := o) (by cases o <;> rfl) hq (r₁.any.ext L₂.ext) r₂.any (by omega) ?_
      exact h _ _ (L₁.trans L₂) (.inl (.bool _)) (by simp [T.fresh])
    | [], _ => simp [chk] at hc
    | [_], [] => simp [chk] at hc
    | _ :: _ :: _, _ => simp [chk] at hc
    | [_], _ :: _ :: _ => simp [chk] at hc
  | _ => simp [chk] at hc
theorem sb_cmp {o : Cm} {a b : T} (hu : A.units + 50 < cLine) (ha : SoT prog w A C fnm F a) (hb : SoT prog w A C fnm F b) : SoB prog w A C fnm F (.cmp o a b) := by
  intro σ q sc e h₀ env vals s Q E he hc V h
  cases e with
  | Compare l ops rs pos =>
    match ops, rs with
    | [p], [r] =>
      simp only [chk, Bool.and_eq_true, Bool.not_eq_true'] at hc
      obtain ⟨⟨⟨h1, h2⟩, h3⟩, h4⟩ := hc
      obtain rfl := isCmE_eq h1
      simp only [ev, Option.bind_eq_some_iff, Option.map_eq_some_iff] at he
      obtain ⟨x, hx, y, hy, q', hq, he⟩ := he
      cases he
      refine wpAny_isTrue_Compare1 (ha hx h2 V fun v s₁ L₁ r₁ _ => hb hy h3 (V.Le L₁) fun u s₂ L₂ r₂ _ => ?_) (noMarks h4)
      refine p_cmp (o := o) (by cases o <;> rfl) hq (r₁.any.ext L₂.ext) r₂.any (by omega) ?_
      exact wpAny_truthy_bool (h _ (L₁.trans L₂))
    | [], _ => simp [chk] at hc
    | [_], [] => simp [chk] at hc
    | _ :: _ :: _, _ => simp [chk] at hc
    | [_], _ :: _ :: _ => simp [chk] at hc
  | _ => simp [chk] at hc
end
end Mine
end

section
open PySem PySem.W PyProof.Rows PySem.SeqAt PySem.MeetsSeq PySem.MeetsSeq2 PySem.MeetsSeq3
set_option maxRecDepth 100000
namespace Mine

section
variable {prog : Program} {w : World} {A : Around} {C : Cx} {fnm : List PySem.Str} {F : Fn} {fa : Nat → Addr} {mg mb : PySem.Str → Option Value}

theorem rep_ne_none {h : Heap} {S : Addr → Prop} {v : Value} {d : D} (r : Rep h S v d) : (v == Value.none) = isNon d ∧ plainIs v .none = true := by
  cases r <;> exact ⟨by first | rfl | (simp [isNon]; done), rfl⟩

theorem is_none_ok {p : PySem.CmpOp} {yes : Bool} {v : Value} {d : D} {S : Addr → Prop} {s : Shared} {Q E : Value → Shared → Prop} (hp : (match p with | .Is => yes | .IsNot => !yes | _ => false) = true) (r : Rep s.heap S v d)
    (h : Q (.bool (isNon d == yes)) s) : wpAny (model prog w) A (compareOp p v .none) Q E s := by
  obtain ⟨e1, e2⟩ := rep_ne_none r
  cases p <;> simp at hp
  · subst hp; refine wpAny_is_plain e2 ?_; rw [e1]; simpa using h
  · subst hp; refine wpAny_isNot_plain e2 ?_; rw [e1]; simpa using h

theorem so_isn {yes : Bool} {a : T} (ha : SoT prog w A C fnm F a) : SoT prog w A C fnm F (.isn yes a) := by
  intro bw σ d sc e h₀ env vals s Q E he hc V h
  cases e with
  | Compare l ops rs pos =>
    match ops, rs with
    | [p], [r] =>
      cases r with
      | Constant c k q =>
        cases c with
        | none =>
          simp only [chk, Bool.and_eq_true] at hc
          obtain ⟨h1, h2⟩ := hc
          simp only [ev, Option.map_eq_some_iff] at he
          obtain ⟨x, hx, rfl⟩ := he
          refine wpAny_Compare1 (ha hx h2 V fun v s₁ L₁ r₁ _ => ?_) rfl
          show wpAny _ _ (pure Value.none) _ _ _
          exact wpAny_pure (is_none_ok h1 r₁.any (h _ _ L₁ (.inl (.bool _)) (by simp [T.fresh])))
        | _ => simp [chk] at hc
      | _ => simp [chk] at hc
    | [p], [] => simp [chk] at hc
    | [p], _ :: _ :: _ => simp [chk] at hc
    | [], _ => simp [chk] at hc
    | _ :: _ :: _, _ => simp [chk] at hc
  | _ => simp [chk] at hc
theorem sb_isn {yes : Bool} {a : T} (ha : SoT prog w A C fnm F a) : SoB prog w A C fnm F (.isn yes a) := by
  intro σ q sc e h₀ env vals s Q E he hc V h
  cases e with
  | Compare l ops rs pos =>
    match ops, rs with
    | [p], [r] =>
      cases r with
      | Constant c k q =>
        cases c with
        | none =>
          simp only [chk, Bool.and_eq_true] at hc
          obtain ⟨h1, h2⟩ := hc
          simp only [ev, Option.map_eq_some_iff] at he
          obtain ⟨x, hx, he⟩ := he
          cases he
          refine wpAny_isTrue_Compare1 (ha hx h2 V fun v s₁ L₁ r₁ _ => ?_) rfl
          show wpAny _ _ (pure Value.none) _ _ _
          exact wpAny_pure (is_none_ok h1 r₁.any (wpAny_truthy_bool (h _ L₁)))
        | _ => simp [chk] at hc
      | _ => simp [chk] at hc
    | [p], [] => simp [chk] at hc
    | [p], _ :: _ :: _ => simp [chk] at hc
    | [], _ => simp [chk] at hc
    | _ :: _ :: _, _ => simp [chk] at hc
  | _ => simp [chk] at hc

theorem boolD_some {d : D} {b : Bool} (h : boolD d = some b) : d = .bool b := by
  cases d <;> simp [boolD] at h
  subst h; rfl
theorem intD_some {d : D} {i : Int} (h : intD d = some i) : d = .int i := by
  cases d <;> simp [intD] at h
  subst h; rfl
theorem listD_some {d : D} {xs : List D} (h : listD d = some xs) : d = .list xs := by
  cases d <;> simp [listD] at h
  subst h; rfl

theorem so_not {a : T} (ha : SoT prog w A C fnm F a) : SoT prog w A C fnm F (.not a) := by
  intro bw σ d sc e h₀ env vals s Q E he hc V h
  cases e with
  | UnaryOp op x pos =>
    cases op with
    | Not =>
      simp only [chk] at hc
      simp only [ev, Option.bind_eq_some_iff, Option.map_eq_some_iff] at he
      obtain ⟨x, hx, b, hb, rfl⟩ := he
      obtain rfl := boolD_some hb
      refine wpAny_UnaryOp (ha hx hc V fun v s₁ L₁ r₁ _ => ?_)
      obtain rfl := r₁.plain.bool_inv
      exact not_of (wpAny_truthy_bool (h _ _ L₁ (.inl (.bool _)) (by simp [T.fresh])))
    | _ => simp [chk] at hc
  | _ => simp [chk] at hc
theorem sb_not {a : T} (ha : SoB prog w A C fnm F a) : SoB prog w A C fnm F (.not a) := by
  intro σ q sc e h₀ env vals s Q E he hc V h
  cases e with
  | UnaryOp op x pos =>
    cases op with
    | Not =>
      simp only [chk] at hc
      simp only [ev, Option.bind_eq_some_iff, Option.map_eq_some_iff] at he
      obtain ⟨x, hx, b, hb, he⟩ := he
      obtain rfl := boolD_some hb
      cases he
      exact wpAny_isTrue_Not (ha hx hc V fun s₁ L₁ => h _ L₁)
    | _ => simp [chk] at hc
  | _ => simp [chk] at hc

theorem so_ite {c a b : T} (hc' : SoB prog w A C fnm F c) (ha : SoT prog w A C fnm F a) (hb : SoT prog w A C fnm F b) : SoT prog w A C fnm F (.ite c a b) := by
  intro bw σ d sc e h₀ env vals s Q E he hc V h
  cases e with
  | IfExp t x y pos =>
    simp only [chk, Bool.and_eq_true] at hc
    obtain ⟨⟨h1, h2⟩, h3⟩ := hc
    simp only [ev, Option.bind_eq_some_iff] at he
    obtain ⟨q, hq, b, hb', he⟩ := he
    obtain rfl := boolD_some hb'
    refine wpAny_IfExp (hc' hq h1 V fun s₁ L₁ => ?_)
    cases b with
    | true =>
      simp only [if_true] at he ⊢
      exact ha he h2 (V.Le L₁) fun v s₂ L₂ r _ => h v s₂ (L₁.trans L₂) (.inl r.plain) (by simp [T.fresh])
    | false =>
      simp only [Bool.false_eq_true, if_false] at he ⊢
      exact hb he h3 (V.Le L₁) fun v s₂ L₂ r _ => h v s₂ (L₁.trans L₂) (.inl r.plain) (by simp [T.fresh])
  | _ => simp [chk] at hc
theorem sb_ite {c a b : T} (hc' : SoB prog w A C fnm F c) (ha : SoB prog w A C fnm F a) (hb : SoB prog w A C fnm F b) : SoB prog w A C fnm F (.ite c a b) := by
  intro σ q sc e h₀ env vals s Q E he hc V h
  cases e with
  | IfExp t x y pos =>
    simp only [chk, Bool.and_eq_true] at hc
    obtain ⟨⟨h1, h2⟩, h3⟩ := hc
    simp only [ev, Option.bind_eq_some_iff] at he
    obtain ⟨q, hq, b, hb', he⟩ := he
    obtain rfl := boolD_some hb'
    rw [arm_isTrue_IfExp]
    refine wpAny_bind (hc' hq h1 V fun s₁ L₁ => ?_)
    cases b with
    | true =>
      simp only [if_true] at he ⊢
      exact ha he h2 (V.Le L₁) fun s₂ L₂ => h s₂ (L₁.trans L₂)
    | false =>
      simp only [Bool.false_eq_true, if_false] at he ⊢
      exact hb he h3 (V.Le L₁) fun s₂ L₂ => h s₂ (L₁.trans L₂)
  | _ => simp [chk] at hc

/-! and, or: over a list -/
variable (prog w A C fnm F) in
def SoBo (l : TL) : Prop := (∀ {isAnd : Bool} {σ : Sg} {b : Bool} {sc : Scope} {p : PySem.BoolOp} {es : List PySem.Expr} {pos : Pos} {h₀ : Heap} {env : Env} {vals : Nat → Value} {s : Shared} {Q E : Value → Shared → Prop},
  (match p with | .And => isAnd | .Or => !isAnd) = true → evBop C.own F isAnd l σ = some b → chkL C.tab fnm l sc es = true → StV C sc h₀ env σ vals s.heap →
  (∀ s', Le C.base C.P s s' → Q (.bool b) s') → wpAny (model prog w) A (boolOp pos p (evalEach es env)) Q E s) ∧
 (∀ {isAnd : Bool} {σ : Sg} {b : Bool} {sc : Scope} {p : PySem.BoolOp} {es : List PySem.Expr} {h₀ : Heap} {env : Env} {vals : Nat → Value} {s : Shared} {Q : Bool → Shared → Prop} {E : Value → Shared → Prop},
  (match p with | .And => isAnd | .Or => !isAnd) = true → evBop C.own F isAnd l σ = some b → chkL C.tab fnm l sc es = true → StV C sc h₀ env σ vals s.heap →
  (∀ s', Le C.base C.P s s' → Q b s') → wpAny (model prog w) A (allTrue p es env) Q E s)

theorem sbo_nil : SoBo prog w A C fnm F .nil := ⟨by intro _ _ _ _ _ _ _ _ _ _ _ _ _ _ he; simp [evBop] at he, by intro _ _ _ _ _ _ _ _ _ _ _ _ _ he; simp [evBop] at he⟩
theorem sbo_cons {a : T} {l : TL} (ha : SoT prog w A C fnm F a) (hb : SoB prog w A C fnm F a) (hl : SoBo prog w A C fnm F l) : SoBo prog w A C fnm F (.cons a l) := by
  refine ⟨?_, ?_⟩
  · intro isAnd σ b sc p es pos h₀ env vals s Q E hp he hc V h
    cases es with
    | nil => simp [chkL] at hc
    | cons e es =>
      simp only [chkL, Bool.and_eq_true] at hc
      obtain ⟨⟨_, h1⟩, h2⟩ := hc
      simp only [evBop, Option.bind_eq_some_iff] at he
      obtain ⟨x, hx, q, hq, he⟩ := he
      obtain rfl := boolD_some hq
      rw [arm_evalEach_cons]
      cases l with
      | nil =>
        cases es with
        | cons => simp [chkL] at h2
        | nil =>
          cases he
          exact ha hx h1 V fun v s₁ L₁ r _ => by obtain rfl := r.plain.bool_inv; exact h _ L₁
      | cons a' l' =>
        cases es with
        | nil => simp [chkL] at h2
        | cons e' es' =>
          rw [arm_evalEach_cons]
          show wpAny _ _ (do
            let v ← eval e env
            standAt pos
            let t ← holding [v] (truthy v)
            match p, t with
            | .And, false | .Or, true => pure v
            | _, _ => boolOp pos p (eval e' env :: evalEach es' env)) _ _ _
          refine wpAny_bind (ha hx h1 V fun v s₁ L₁ r _ => wpAny_bind (wpAny_standAt (wpAny_bind (wpAny_holding ?_))))
          obtain rfl := r.plain.bool_inv
          refine wpAny_truthy_bool ?_
          have next : (if (q == isAnd) = true then evBop C.own F isAnd (.cons a' l') σ else some q) = some b := he
          cases p <;> cases q <;> simp at hp <;> subst hp
          · simp at next; subst next; exact wpAny_pure (h _ L₁)
          · exact hl.1 (p := .And) (es := e' :: es') rfl (by simpa using next) h2 (V.Le L₁) fun s₂ L₂ => h _ (L₁.trans L₂)
          · exact hl.1 (p := .Or) (es := e' :: es') rfl (by simpa using next) h2 (V.Le L₁) fun s₂ L₂ => h _ (L₁.trans L₂)
          · simp at next; subst next; exact wpAny_pure (h _ L₁)
  · intro isAnd σ b sc p es h₀ env vals s Q E hp he hc V h
    cases es with
    | nil => simp [chkL] at hc
    | cons e es =>
      simp only [chkL, Bool.and_eq_true] at hc
      obtain ⟨⟨_, h1⟩, h2⟩ := hc
      simp only [evBop, Option.bind_eq_some_iff] at he
      obtain ⟨x, hx, q, hq, he⟩ := he
      obtain rfl := boolD_some hq
      show wpAny _ _ (do
        match p, ← isTrue e env (eval e env) with
        | .And, false => pure false
        | .Or, true => pure true
        | _, _ => allTrue p es env) _ _ _
      refine wpAny_bind (hb hx h1 V fun s₁ L₁ => ?_)
      cases l with
      | nil =>
        cases es with
        | cons => simp [chkL] at h2
        | nil =>
          cases he
          cases p <;> cases b
          · exact wpAny_pure (h _ L₁)
          · exact wpAny_pure (h _ L₁)
          · exact wpAny_pure (h _ L₁)
          · exact wpAny_pure (h _ L₁)
      | cons a' l' =>
        have next : (if (q == isAnd) = true then evBop C.own F isAnd (.cons a' l') σ else some q) = some b := he
        cases p <;> cases q <;> simp at hp <;> subst hp
        · simp at next; subst next; exact wpAny_pure (h _ L₁)
        · exact hl.2 (p := .And) rfl (by simpa using next) h2 (V.Le L₁) fun s₂ L₂ => h _ (L₁.trans L₂)
        · exact hl.2 (p := .Or) rfl (by simpa using next) h2 (V.Le L₁) fun s₂ L₂ => h _ (L₁.trans L₂)
        · simp at next; subst next; exact wpAny_pure (h _ L₁)

theorem so_bop {isAnd : Bool} {l : TL} (hl : SoBo prog w A C fnm F l) : SoT prog w A C fnm F (.bop isAnd l) := by
  intro bw σ d sc e h₀ env vals s Q E he hc V h
  cases e with
  | BoolOp p es pos =>
    simp only [chk, Bool.and_eq_true] at hc
    simp only [ev, Option.map_eq_some_iff] at he
    obtain ⟨b, hb, rfl⟩ := he
    rw [arm_eval_BoolOp]
    exact hl.1 hc.1 hb hc.2 V fun s' L => h _ _ L (.inl (.bool _)) (by simp [T.fresh])
  | _ => simp [chk] at hc
theorem sb_bop {isAnd : Bool} {l : TL} (hl : SoBo prog w A C fnm F l) : SoB prog w A C fnm F (.bop isAnd l) := by
  intro σ q sc e h₀ env vals s Q E he hc V h
  cases e with
  | BoolOp p es pos =>
    simp only [chk, Bool.and_eq_true] at hc
    simp only [ev, Option.map_eq_some_iff] at he
    obtain ⟨b, hb, he⟩ := he
    cases he
    rw [arm_isTrue_BoolOp]
    exact hl.2 hc.1 hb hc.2 V h
  | _ => simp [chk] at hc

/-! lists of terms -/
theorem star_cons {e : PySem.Expr} {es : List PySem.Expr} {env : Env} {pos : Pos} (h : isStar e = false) : backTo pos (starEach (e :: es) env) = (false, eval e env) :: backTo pos (starEach es env) := by
  cases e <;> first | rfl | (simp [isStar] at h)
theorem sl_nil : SoL prog w A C fnm F .nil := by
  intro bw σ ds sc es pos h₀ env vals s Q E he hc V h
  cases es with
  | nil =>
    simp only [evL, Option.some.injEq] at he
    subst he
    exact Calls.spliced_nil (h _ _ (.refl ..) rfl (fun _ _ _ => .nil) .nil)
  | cons => simp [chkL] at hc
theorem sl_cons {a : T} {l : TL} (ha : SoT prog w A C fnm F a) (hl : SoL prog w A C fnm F l) : SoL prog w A C fnm F (.cons a l) := by
  intro bw σ ds sc es pos h₀ env vals s Q E he hc V h
  cases es with
  | nil => simp [chkL] at hc
  | cons e es =>
    simp only [chkL, Bool.and_eq_true, Bool.not_eq_true'] at hc
    obtain ⟨⟨h0, h1⟩, h2⟩ := hc
    simp only [evL, Option.bind_eq_some_iff] at he
    obtain ⟨x, hx, xs, hxs, he⟩ := he
    cases he
    rw [star_cons h0]
    refine Calls.spliced_cons (ha hx h1 V fun v s₁ L₁ r _ => hl hxs h2 (V.Le L₁) fun vs s₂ L₂ hlen hS hT => ?_)
    refine h _ _ (L₁.trans L₂) (by simp [hlen]) (fun S hs hb => ?_) (.cons (r.any.ext L₂.ext) hT)
    subst hb
    exact .cons ((r.plain.mono hs).ext L₂.ext) (hS S hs rfl)

theorem fresh_size {h : Heap} : h.get? h.objs.size = none := by
  cases q : h.get? h.objs.size with
  | none => rfl
  | some o => exact absurd (Heap.lt_size q) (Nat.lt_irrefl _)

theorem so_list {l : TL} (hl : SoL prog w A C fnm F l) : SoT prog w A C fnm F (.list l) := by
  intro bw σ d sc e h₀ env vals s Q E he hc V h
  cases e with
  | List es pos =>
    simp only [chk] at hc
    simp only [ev, Option.bind_eq_some_iff] at he
    obtain ⟨ds, hds, he⟩ := he
    split at he
    · rename_i hz
      cases he
      rw [arm_eval_List]
      refine wpAny_bind (wpAny_standAt (wpAny_bind (hl (pos := pos) hds hc V fun vs s₁ L₁ hlen hS hT => p_newList (by rw [hlen]; exact hz) ?_)))
      refine h _ _ (L₁.trans (.push ..)) (.inl (.list ((V.Le L₁).new fresh_size) ⟨_, Heap.get?_push_size _ rfl, rfl, _, rfl⟩ hz ((hS _ (fun _ y => y) rfl).ext (.of fun _ _ e => Heap.get?_push_of_some _ e)))) fun _ a e => ?_
      cases e; exact L₁.ext.none fresh_size
    · cases he
  | _ => simp [chk] at hc
theorem so_tup {l : TL} (hl : SoL prog w A C fnm F l) : SoT prog w A C fnm F (.tup l) := by
  intro bw σ d sc e h₀ env vals s Q E he hc V h
  cases e with
  | Tuple es k pos =>
    simp only [chk] at hc
    simp only [ev, Option.bind_eq_some_iff] at he
    obtain ⟨ds, hds, he⟩ := he
    split at he
    · rename_i hz
      cases he
      rw [arm_eval_Tuple]
      refine wpAny_bind (wpAny_standAt (wpAny_bind (hl (pos := pos) hds hc V fun vs s₁ L₁ hlen hS hT => p_newTuple (by rw [hlen]; exact hz) ?_)))
      refine h _ _ (L₁.trans (.push ..)) (.inl (.tup ((V.Le L₁).new fresh_size) ⟨_, Heap.get?_push_size _ rfl, rfl, _, rfl⟩ hz ((hS _ (fun _ y => y) rfl).ext (.of fun _ _ e => Heap.get?_push_of_some _ e)))) fun hf => by simp [T.fresh] at hf
    · cases he
  | _ => simp [chk] at hc
end
end Mine
end

section
open PySem PySem.W PyProof.Rows PySem.SeqAt PySem.MeetsSeq PySem.MeetsSeq2 PySem.MeetsSeq3
set_option maxRecDepth 100000
namespace Mine

section
variable {prog : Program} {w : World} {A : Around} {C : Cx} {fnm : List PySem.Str} {F : Fn} {fa : Nat → Addr} {mg mb : PySem.Str → Option Value}

theorem so_rep {a n : T} (ha : SoT prog w A C fnm F a) (hn : SoT prog w A C fnm F n) : SoT prog w A C fnm F (.rep a n) := by
  intro bw σ d sc e h₀ env vals s Q E he hc V h
  cases e with
  | BinOp l p r pos =>
    cases l with
    | List es q =>
      match es, p with
      | [x], .Mult =>
        simp only [chk, Bool.and_eq_true] at hc
        obtain ⟨h1, h2⟩ := hc
        simp only [ev, Option.bind_eq_some_iff] at he
        obtain ⟨da, hda, y, hy, b, hb, he⟩ := he
        obtain rfl := intD_some hb
        split at he
        · rename_i hz
          cases he
          by_cases hst : isStar x = true
          · cases x <;> first | (simp [isStar] at hst; done) | (cases a <;> simp [chk] at h1)
          refine wpAny_BinOp ?_
          rw [arm_eval_List]
          refine wpAny_bind (wpAny_standAt (wpAny_bind ?_))
          rw [star_cons (by simpa using hst)]
          refine Calls.spliced_cons (ha hda h1 V fun v s₁ L₁ r₁ _ => Calls.spliced_nil (p_newList (by show 1 ≤ LB; decide) ?_))
          have V₁ := V.Le L₁
          have Lp := L₁.trans (Le.push C.base C.P s₁ (newL [v]))
          have hP : ¬ C.P s₁.heap.objs.size := V₁.offP_new fresh_size
          refine hn hy h2 (V.Le Lp) fun u s₂ L₂ r₂ _ => ?_
          obtain ⟨t, rfl⟩ := r₂.plain.int_inv
          have hl := L₂.exact _ _ hP (Heap.get?_push_size (o := newL [v]) s₁.heap rfl)
          refine p_rep (k := 0) hl hz.1 hz.2 ?_
          have L := Lp.trans L₂
          refine h _ _ (L.trans (.push ..)) (.inl (.list ((V.Le L).new fresh_size) ⟨_, Heap.get?_push_size _ rfl, rfl, _, rfl⟩ ?_ ?_)) fun _ a e => ?_
          · simp; have := hz.2; simp [LB] at this ⊢; omega
          · have hr : Rep (s₂.heap.push (newL (List.replicate b.toNat v))) (Sx C σ vals) v da := (r₁.plain.ext ((Le.push C.base C.P s₁ (newL [v])).ext.trans L₂.ext)).ext (.of fun _ _ e => Heap.get?_push_of_some _ e)
            exact RepL.replicate hr b.toNat
          · cases e; exact L.ext.none fresh_size
        · cases he
      | [], _ => cases p <;> simp [chk] at hc
      | _ :: _ :: _, _ => cases p <;> simp [chk] at hc
      | [x], .Add => simp [chk] at hc
      | [x], .Sub => simp [chk] at hc
      | [x], .Div => simp [chk] at hc
      | [x], .FloorDiv => simp [chk] at hc
      | [x], .Mod => simp [chk] at hc
      | [x], .Pow => simp [chk] at hc
      | [x], .MatMult => simp [chk] at hc
      | [x], .LShift => simp [chk] at hc
      | [x], .RShift => simp [chk] at hc
      | [x], .BitOr => simp [chk] at hc
      | [x], .BitXor => simp [chk] at hc
      | [x], .BitAnd => simp [chk] at hc
    | _ => simp [chk] at hc
  | _ => simp [chk] at hc

theorem so_idx {a i : T} (ha : SoT prog w A C fnm F a) (hi : SoT prog w A C fnm F i) : SoT prog w A C fnm F (.idx a i) := by
  intro bw σ d sc e h₀ env vals s Q E he hc V h
  cases e with
  | Subscript x y pos =>
    simp only [chk, Bool.and_eq_true] at hc
    obtain ⟨⟨_, h1⟩, h2⟩ := hc
    simp only [ev, Option.bind_eq_some_iff] at he
    obtain ⟨p, hp, q, hq, he⟩ := he
    refine PyProof.Rows.Subscript_ (ha hp h1 V fun v s₁ L₁ r₁ _ => hi hq h2 (V.Le L₁) fun u s₂ L₂ r₂ _ => ?_)
    refine p_idx (S := Sx C σ vals) he ?_ r₂.plain fun x hx => h x _ (L₁.trans L₂) (.inl hx) (by simp [T.fresh])
    rcases r₁.ext L₂.ext with r | ⟨_, r⟩
    · exact .inl r
    · exact .inr r
  | _ => simp [chk] at hc

variable (prog w A C fnm F) in
def SoO (o : TO) : Prop := ∀ {σ : Sg} {k : Option Int} {sc : Scope} {e : Option PySem.Expr} {h₀ : Heap} {env : Env} {vals : Nat → Value} {s : Shared} {Q E : Value → Shared → Prop},
  evO C.own F o σ = some k → chkO C.tab fnm o sc e = true → StV C sc h₀ env σ vals s.heap →
  (∀ v s', Le C.base C.P s s' → IsPart v k → Q v s') → wpAny (model prog w) A (evalPart e env) Q E s
theorem soo_none : SoO prog w A C fnm F .none := by
  intro σ k sc e h₀ env vals s Q E he hc V h
  cases e with
  | none =>
    simp only [evO, Option.some.injEq] at he
    subst he
    rw [evalPart_none]
    exact wpAny_pure (h _ _ (.refl ..) .none)
  | some e => simp [chkO] at hc
theorem soo_some {a : T} (ha : SoT prog w A C fnm F a) : SoO prog w A C fnm F (.some a) := by
  intro σ k sc e h₀ env vals s Q E he hc V h
  cases e with
  | none => simp [chkO] at hc
  | some e =>
    simp only [chkO] at hc
    simp only [evO, Option.bind_eq_some_iff, Option.map_eq_some_iff] at he
    obtain ⟨x, hx, i, hi, rfl⟩ := he
    obtain rfl := intD_some hi
    rw [evalPart_some]
    exact ha hx hc V fun v s₁ L₁ r _ => by obtain ⟨t, rfl⟩ := r.plain.int_inv; exact h _ _ L₁ (.int ..)

theorem so_sl {a : T} {lo hi : TO} (ha : SoT prog w A C fnm F a) (hlo : SoO prog w A C fnm F lo) (hhi : SoO prog w A C fnm F hi) : SoT prog w A C fnm F (.sl a lo hi) := by
  intro bw σ d sc e h₀ env vals s Q E he hc V h
  cases e with
  | Subscript x y pos =>
    cases y with
    | Slice l u st p =>
      cases st with
      | some => simp [chk] at hc
      | none =>
        simp only [chk, Bool.and_eq_true] at hc
        obtain ⟨⟨h1, h2⟩, h3⟩ := hc
        simp only [ev, Option.bind_eq_some_iff, Option.map_eq_some_iff] at he
        obtain ⟨da, hda, xs, hxs, kl, hkl, ku, hku, ds', hsl, rfl⟩ := he
        obtain rfl := listD_some hxs
        refine PyProof.Rows.Subscript_ (ha hda h1 V fun v s₁ L₁ r₁ _ => wpAny_Slice (hlo hkl h2 (V.Le L₁) fun vl s₂ L₂ pl => hhi hku h3 (V.Le (L₁.trans L₂)) fun vu s₃ L₃ pu => ?_))
        rw [evalPart_none]
        refine wpAny_pure ?_
        have L := (L₁.trans L₂).trans L₃
        obtain ⟨la, vs, rfl, _, hl, hz, hr⟩ := (r₁.plain.ext (L₂.ext.trans L₃.ext)).list_inv
        obtain ⟨f, rfl, e2, e3, e4⟩ := pick_slD hsl hr.length
        refine p_cut hl (by rw [hr.length]; exact hz) pl pu .none (by simp) ?_
        have Lc := (L.trans (Le.push C.base C.P s₃ { cls := .type "slice", data := .fields #[vl, vu, Value.none] })).trans (Le.push C.base C.P _ (newL (slicePick vs.toArray kl ku none).toList))
        have hg : ((s₃.heap.push { cls := .type "slice", data := .fields #[vl, vu, Value.none] }).push (newL (slicePick vs.toArray kl ku none).toList)).get? (s₃.heap.objs.size + 1) = some (newL (slicePick vs.toArray kl ku none).toList) := by
          have := Heap.get?_push_size (o := newL (slicePick vs.toArray kl ku none).toList) (s₃.heap.push { cls := .type "slice", data := .fields #[vl, vu, Value.none] }) rfl
          rw [Heap.size_push] at this; exact this
        refine h _ _ Lc (.inl (.list ?_ ⟨_, hg, rfl, _, rfl⟩ (Nat.le_trans e4 hz) ?_)) fun _ a e => ?_
        · have := (V.Le (L.trans (Le.push C.base C.P s₃ { cls := .type "slice", data := .fields #[vl, vu, Value.none] }))).new fresh_size
          rw [Heap.size_push] at this; exact this
        · rw [e2]
          exact (e3 _ _ hr).ext (.of fun _ _ e => Heap.get?_push_of_some _ (Heap.get?_push_of_some _ e))
        · cases e
          refine L.ext.none ?_
          cases q : s₃.heap.get? (s₃.heap.objs.size + 1) with
          | none => rfl
          | some o => exact absurd (Heap.lt_size q) (Nat.not_lt.mpr (Nat.le_succ _))
    | _ => simp [chk] at hc
  | _ => simp [chk] at hc

theorem so_rev {a : T} (ha : SoT prog w A C fnm F a) : SoT prog w A C fnm F (.rev a) := by
  intro bw σ d sc e h₀ env vals s Q E he hc V h
  unfold chk at hc
  split at hc <;> try (first | cases hc | (rename_i hh _; cases hh; done) | (rename_i hh; cases hh; done))
  rename_i sc' hh
  cases hh
  simp only [ev, Option.bind_eq_some_iff, Option.map_eq_some_iff] at he
  obtain ⟨da, hda, xs, hxs, rfl⟩ := he
  obtain rfl := listD_some hxs
  refine PyProof.Rows.Subscript_ (ha hda hc V fun v s₁ L₁ r₁ _ => wpAny_Slice ?_)
  rw [evalPart_none]
  refine wpAny_pure (wpAny_pure ?_)
  rw [evalPart_some]
  refine wpAny_UnaryOp (wpAny_Constant_int (PySem.P.neg_int ?_))
  obtain ⟨la, vs, rfl, _, hl, hz, hr⟩ := r₁.plain.list_inv
  refine p_cut (s := { s₁ with toks := s₁.toks + 1 + 1 }) (st := some (-1)) hl (by rw [hr.length]; exact hz) .none .none (.int ..) (by simp) ?_
  have L := L₁.trans (Le.tok C.base C.P s₁ (s₁.toks + 1 + 1))
  have e2 : (slicePick vs.toArray none none (some (-1))).toList = vs.reverse := by rw [krv_pick]
  rw [e2]
  have Lp := L.trans (Le.push C.base C.P { s₁ with toks := s₁.toks + 1 + 1 } { cls := .type "slice", data := .fields #[Value.none, Value.none, Value.int (-1) (s₁.toks + 1)] })
  have Lc := Lp.trans (Le.push C.base C.P _ (newL vs.reverse))
  have hg : ((s₁.heap.push { cls := .type "slice", data := .fields #[Value.none, Value.none, Value.int (-1) (s₁.toks + 1)] }).push (newL vs.reverse)).get? (s₁.heap.objs.size + 1) = some (newL vs.reverse) := by
    have := Heap.get?_push_size (o := newL vs.reverse) (s₁.heap.push { cls := .type "slice", data := .fields #[Value.none, Value.none, Value.int (-1) (s₁.toks + 1)] }) rfl
    rw [Heap.size_push] at this; exact this
  refine h _ _ Lc (.inl (.list ?_ ⟨_, hg, rfl, _, rfl⟩ (by simpa using hz) ?_)) fun _ a e => ?_
  · have := (V.Le Lp).new fresh_size
    rw [Heap.size_push] at this; exact this
  · exact hr.reverse.ext (.of fun _ _ e => Heap.get?_push_of_some _ (Heap.get?_push_of_some _ e))
  · cases e
    refine L₁.ext.none ?_
    cases q : s₁.heap.get? (s₁.heap.objs.size + 1) with
    | none => rfl
    | some o => exact absurd (Heap.lt_size q) (Nat.not_lt.mpr (Nat.le_succ _))

theorem plain_trees {env : Env} {pos : Pos} {sc : Scope} : ∀ {l : TL} {es : List PySem.Expr}, chkL C.tab fnm l sc es = true → (backTo pos (starEach es env)).any (·.1) = false
  | .nil, [], _ => rfl
  | .nil, _ :: _, h => by simp [chkL] at h
  | .cons _ _, [], h => by simp [chkL] at h
  | .cons a l, e :: es, h => by
    simp only [chkL, Bool.and_eq_true, Bool.not_eq_true'] at h
    rw [star_cons h.1.1]
    show (false || (backTo pos (starEach es env)).any (·.1)) = false
    rw [plain_trees h.2]; rfl

theorem isG_eq {sc : Scope} {x : PySem.Str} (h : isG sc x = true) : sc.names.lookup x = some .globalImplicit := by
  unfold isG at h
  cases q : sc.names.lookup x with
  | none => rw [q] at h; cases h
  | some k => rw [q] at h; cases k <;> first | rfl | cases h

section
variable {σ : Sg} {sc : Scope} {h₀ : Heap} {env : Env} {vals : Nat → Value} {s : Shared} {Q E : Value → Shared → Prop}
theorem glob_name (G : Gl C fnm fa mg mb) (V : StV C sc h₀ env σ vals s.heap) {x : PySem.Str} {p : Pos} {v : Value} (hx : isG sc x = true) (hd : (x == debugN) = false) (hv : mg x = some v) (h : Q v s) :
    wpAny (model prog w) A (eval (.Name x p) env) Q E s :=
  Calls.Name_function_global V.fr.kind (V.fr.kG x (isG_eq hx)) (Calls.loadGlobal_global (V.fr.glob ▸ Ext.ns (.of V.stay) G.g) hv h) hd
theorem built_name (G : Gl C fnm fa mg mb) (V : StV C sc h₀ env σ vals s.heap) {x : PySem.Str} {p : Pos} {v : Value} (hx : isG sc x = true) (hd : (x == debugN) = false) (hv : mg x = none ∧ mb x = some v) (h : Q v s) :
    wpAny (model prog w) A (eval (.Name x p) env) Q E s :=
  Calls.Name_function_global V.fr.kind (V.fr.kG x (isG_eq hx)) (Calls.loadGlobal_builtin (V.fr.glob ▸ Ext.ns (.of V.stay) G.g) hv.1 (V.fr.bi ▸ Ext.ns (.of V.stay) G.b) hv.2 h) hd

theorem evalArgs_of {f : Value} {l : TL} {es : List PySem.Expr} {pos : Pos} {Q : Args → Shared → Prop} (hne : es.isEmpty = false) (hc : chkL C.tab fnm l sc es = true)
    (h : wpAny (model prog w) A (spliced (backTo pos (starEach es env))) (fun vs s' => Q ⟨vs, []⟩ s') E s) : wpAny (model prog w) A (evalArgs f true (backTo pos (starEach es env)) []) Q E s := by
  cases es with
  | nil => cases hne
  | cons e es =>
    cases l with
    | nil => simp [chkL] at hc
    | cons a l =>
      simp only [chkL, Bool.and_eq_true, Bool.not_eq_true'] at hc
      rw [star_cons hc.1.1] at h ⊢
      exact Calls.evalArgs_plain h
end

theorem so_call {f : Nat} {l : TL} (hA : AOk A C) (G : Gl C fnm fa mg mb) (K : CallOk prog w A C fa F) (hl : SoL prog w A C fnm F l) : SoT prog w A C fnm F (.call f l) := by
  intro bw σ d sc e h₀ env vals s Q E he hc V h
  unfold chk at hc
  split at hc <;> try (first | cases hc | (rename_i hh _; cases hh; done) | (rename_i hh; cases hh; done))
  rename_i f' l' sc' x p es pos hh
  cases hh
  simp only [Bool.and_eq_true, beq_iff_eq, Bool.not_eq_true'] at hc
  obtain ⟨⟨⟨⟨⟨h0, h1⟩, h2⟩, h3⟩, h4⟩, h5⟩ := hc
  have hcm : A.handled = none ∨ calmI f = true := by
    rcases Bool.or_eq_true _ _ ▸ h0 with z | z
    · exact .inl (hA.hh.no (by simpa using z))
    · exact .inr z
  simp only [ev, Option.bind_eq_some_iff] at he
  obtain ⟨ds, hds, he⟩ := he
  have he' : F f ds = some (.ok d) := by
    cases q : F f ds with
    | none => rw [q] at he; simp [okD] at he
    | some r => rw [q] at he; cases r <;> simp [okD] at he; rw [he]
  obtain ⟨g1, o, fd, g2, g3⟩ := G.fn f x h1
  refine PyProof.Rows.Call_Name rfl (glob_name G V h2 (ne_beq h3) g1 ?_)
  refine Calls.callWith_function (o := o) (fd := fd) (evalArgs_of h4 h5 (hl hds h5 V fun vs s₁ L₁ hlen hS _ => ⟨⟨(V.Le L₁).stay _ _ g2, g3⟩, ?_⟩))
  have V₁ := V.Le L₁
  exact K.call f ds d hcm he' s₁ vs _ (hS _ (fun _ y => y) rfl) (fun a n => V₁.new n) V₁.stay V₁.pf _ _ fun v s' L' r => h v s' (L₁.trans L') (.inl r) (by simp [T.fresh])

theorem so_bi {b : Bi} {l : TL} (hA : AOk A C) (G : Gl C fnm fa mg mb) (hl : SoL prog w A C fnm F l) : SoT prog w A C fnm F (.bi b l) := by
  intro bw σ d sc e h₀ env vals s Q E he hc V h
  unfold chk at hc
  split at hc <;> try (first | cases hc | (rename_i hh _; cases hh; done) | (rename_i hh; cases hh; done))
  rename_i f' l' sc' x p es pos hh
  cases hh
  simp only [Bool.and_eq_true, beq_iff_eq, Bool.not_eq_true'] at hc
  obtain ⟨⟨⟨⟨h0, h1⟩, h2⟩, h4⟩, h5⟩ := hc
  simp only [ev, Option.bind_eq_some_iff] at he
  obtain ⟨ds, hds, he⟩ := he
  subst h1
  have go : wpAny (model prog w) A (spliced (backTo pos (starEach es env))) (fun vs s' => wpAny (model prog w) A (call (biE b).2 vs) Q E s') E s →
      wpAny (model prog w) A (eval (.Call (.Name (biE b).1 p) es [] pos) env) Q E s := fun g => by
    refine PyProof.Rows.Call_Name rfl (built_name G V h2 (by cases b <;> decide) (G.bi b) ?_)
    cases b with
    | int => exact PyProof.Rows.callWith_type (plain_trees h5) (evalArgs_of h4 h5 g)
    | _ => exact Calls.callWith_builtin (plain_trees h5) (evalArgs_of h4 h5 g)
  refine go (hl hds h5 V fun vs s₁ L₁ hlen _ hT => ?_)
  have keep : ∀ {h' : Heap} {tk : Nat} {k : Int} {t : Tok}, d = .int k → (∀ c o, s₁.heap.get? c = some o → h'.get? c = some o) → Q (.int k t) { s₁ with heap := h', toks := tk } := fun hd hk => by
    subst hd
    exact h _ _ (L₁.trans (.keep hk)) (.inl (.int _ _)) (fun _ a e => by cases e)
  unfold biD at he
  split at he
  · simp only [Option.map_eq_some_iff] at he
    obtain ⟨xs, h6, rfl⟩ := he
    obtain ⟨v, ws, rfl, r, hn⟩ := hT.cons_inv
    obtain rfl := hn.nil_inv
    exact p_len h6 r fun t tk => keep rfl fun _ _ e => e
  · simp only [Option.map_eq_some_iff, Option.bind_eq_some_iff] at he
    obtain ⟨xs, h6, li, h7, rfl⟩ := he
    obtain rfl := listD_some h6
    obtain rfl := intsOf_eq h7
    obtain ⟨v, ws, rfl, r, hn⟩ := hT.cons_inv
    obtain rfl := hn.nil_inv
    obtain ⟨a, vs, rfl, _, hls, _, hr⟩ := r.list_inv
    exact p_sum (hA.hh.hx (V.Le L₁).stay) hls hr.ints fun h' tk t hk => keep rfl hk
  · simp only [Option.bind_eq_some_iff] at he
    obtain ⟨xs, h6, li, h7, he⟩ := he
    obtain rfl := listD_some h6
    obtain rfl := intsOf_eq h7
    obtain ⟨v, ws, rfl, r, hn⟩ := hT.cons_inv
    obtain rfl := hn.nil_inv
    obtain ⟨a, vs, rfl, _, hls, hz, hr⟩ := r.list_inv
    split at he
    · rename_i h64
      cases he
      refine p_sorted hls hr.ints h64 fun h' a' out hk hn' hl' hi' => ?_
      have L : Le C.base C.P s { s₁ with heap := h' } := L₁.trans (.keep (tk := s₁.toks) hk)
      refine h _ _ L (.inl (.list ((V.Le L₁).new hn') hl' ?_ (.of_ints hi'))) fun _ a e => ?_
      · rw [List.length_map, (isort_perm li).length_eq]; simpa using hz
      · cases e; exact L₁.ext.none hn'
    · cases he
  · cases he
    obtain ⟨v, ws, rfl, r, hn⟩ := hT.cons_inv
    obtain rfl := hn.nil_inv
    obtain ⟨t, rfl⟩ := r.int_inv
    exact call_int_int (keep (h' := s₁.heap) (tk := s₁.toks) rfl fun _ _ e => e)
  · cases he
    obtain ⟨v, ws, rfl, r, hn⟩ := hT.cons_inv
    obtain ⟨v', ws, rfl, r', hn⟩ := hn.cons_inv
    obtain rfl := hn.nil_inv
    obtain ⟨t, rfl⟩ := r.int_inv
    obtain ⟨t', rfl⟩ := r'.int_inv
    exact p_max2 (hA.hh.no (by simpa [calmB] using h0)) fun h' tk t' hk => keep rfl hk
  · cases he
    obtain ⟨v, ws, rfl, r, hn⟩ := hT.cons_inv
    obtain ⟨v', ws, rfl, r', hn⟩ := hn.cons_inv
    obtain rfl := hn.nil_inv
    obtain ⟨t, rfl⟩ := r.int_inv
    obtain ⟨t', rfl⟩ := r'.int_inv
    exact p_min2 (hA.hh.no (by simpa [calmB] using h0)) fun h' tk t' hk => keep rfl hk
  · simp only [Option.bind_eq_some_iff] at he
    obtain ⟨xs, h6, li, h7, he⟩ := he
    obtain rfl := listD_some h6
    obtain rfl := intsOf_eq h7
    obtain ⟨v, ws, rfl, r, hn⟩ := hT.cons_inv
    obtain rfl := hn.nil_inv
    obtain ⟨a, vs, rfl, _, hls, _, hr⟩ := r.list_inv
    cases li with
    | nil => cases he
    | cons i q => cases he; exact p_max (hA.hh.no (by simpa [calmB] using h0)) hls hr.ints fun h' tk t hk => keep rfl hk
  · simp only [Option.bind_eq_some_iff] at he
    obtain ⟨xs, h6, li, h7, he⟩ := he
    obtain rfl := listD_some h6
    obtain rfl := intsOf_eq h7
    obtain ⟨v, ws, rfl, r, hn⟩ := hT.cons_inv
    obtain rfl := hn.nil_inv
    obtain ⟨a, vs, rfl, _, hls, _, hr⟩ := r.list_inv
    cases li with
    | nil => cases he
    | cons i q => cases he; exact p_min (hA.hh.no (by simpa [calmB] using h0)) hls hr.ints fun h' tk t hk => keep rfl hk
  · cases he
end
end Mine
end

section
open PySem PySem.W PyProof.Rows PySem.SeqAt PySem.MeetsSeq PySem.MeetsSeq2 PySem.MeetsSeq3
set_option maxRecDepth 100000
namespace Mine

/-! ## 13. Patterns -/

/-- what binding the names of l leaves alone -/
structure Ag (own : Nat → Bool) (l : List Nat) (σ σ' : Sg) (vals vals' : Nat → Value) : Prop where
  off : ∀ j, j ∉ l → σ' j = σ j ∧ vals' j = vals j
  ow : ∀ j, own j = true → σ' j = σ j ∧ vals' j = vals j
theorem Ag.refl {own : Nat → Bool} {l : List Nat} {σ : Sg} {vals : Nat → Value} : Ag own l σ σ vals vals := ⟨fun _ _ => ⟨rfl, rfl⟩, fun _ _ => ⟨rfl, rfl⟩⟩
theorem Ag.trans {own : Nat → Bool} {l l' : List Nat} {σ σ' σ'' : Sg} {vals vals' vals'' : Nat → Value} (a : Ag own l σ σ' vals vals') (b : Ag own l' σ' σ'' vals' vals'') : Ag own (l ++ l') σ σ'' vals vals'' :=
  ⟨fun j n => by simp at n; obtain ⟨e1, e2⟩ := a.off j n.1; obtain ⟨e3, e4⟩ := b.off j n.2; exact ⟨e3.trans e1, e4.trans e2⟩,
   fun j n => by obtain ⟨e1, e2⟩ := a.ow j n; obtain ⟨e3, e4⟩ := b.ow j n; exact ⟨e3.trans e1, e4.trans e2⟩⟩
theorem Ag.wide {own : Nat → Bool} {l l' : List Nat} {σ σ' : Sg} {vals vals' : Nat → Value} (a : Ag own l σ σ' vals vals') (m : ∀ j ∈ l, j ∈ l') : Ag own l' σ σ' vals vals' :=
  ⟨fun j n => a.off j fun h => n (m j h), a.ow⟩
theorem Ag.notO {own : Nat → Bool} {l : List Nat} {σ σ' : Sg} {vals vals' : Nat → Value} (a : Ag own l σ σ' vals vals') {ad : Addr} : NotO own σ vals ad ↔ NotO own σ' vals' ad := by
  constructor
  · intro h j o s; obtain ⟨e1, e2⟩ := a.ow j o; rw [e1] at s; rw [e2]; exact h j o s
  · intro h j o s; obtain ⟨e1, e2⟩ := a.ow j o; rw [← e1] at s; rw [← e2]; exact h j o s
theorem Ag.sx {C : Cx} {l : List Nat} {σ σ' : Sg} {vals vals' : Nat → Value} (a : Ag C.own l σ σ' vals vals') {ad : Addr} : Sx C σ vals ad ↔ Sx C σ' vals' ad := and_congr_right fun _ => a.notO

/-- what a store into a frame leaves alone -/
structure Kp (h₀ : Heap) (env : Env) (h h' : Heap) : Prop where
  big : ∀ b o, h.get? b = some o → b ≠ env.locals → (∀ u, o.data ≠ .cell u) → h'.get? b = some o
  old : ∀ b o, h₀.get? b ≠ none → h.get? b = some o → h'.get? b = some o
theorem Kp.of {h₀ : Heap} {env : Env} {h h' : Heap} (k : ∀ b o, h.get? b = some o → h'.get? b = some o) : Kp h₀ env h h' := ⟨fun b o e _ _ => k b o e, fun b o _ e => k b o e⟩
theorem Kp.trans {h₀ : Heap} {env : Env} {a b c : Heap} (x : Kp h₀ env a b) (y : Kp h₀ env b c) : Kp h₀ env a c :=
  ⟨fun k o e n1 n2 => y.big k o (x.big k o e n1 n2) n1 n2, fun k o n e => y.old k o n (x.old k o n e)⟩

section
variable {C : Cx} {sc : Scope} {h₀ h h' : Heap} {env : Env} {σ σ' : Sg} {vals vals' : Nat → Value}
theorem Kp.on {S S' : Addr → Prop} (V : StV C sc h₀ env σ vals h) (k : Kp h₀ env h h') (m : ∀ a, S a → S' a) : On h h' S S' := fun a sa o ho ⟨xs, n, hd⟩ => by
  refine ⟨m a sa, o.slots, k.big a o ho (fun z => ?_) (fun u e => by rw [hd] at e; cases e)⟩
  obtain ⟨mm, o', es, ep, q, d, _⟩ := V.fr.ns
  rw [z, q] at ho; cases ho; rw [d] at hd; cases hd
/-- fewer names -/
theorem StV.less (V : StV C sc h₀ env σ' vals' h) (le : ∀ j d, σ j = some d → σ' j = some d ∧ vals' j = vals j) : StV C sc h₀ env σ vals h where
  fr := V.fr
  g := V.g
  ext := V.ext
  stay := V.stay
  newS := V.newS
  bg := V.bg
  pf := V.pf
  bP := V.bP
  nodup := V.nodup
  val := fun i d x a b c => by obtain ⟨e1, e2⟩ := le i d a; rw [← e2]; exact V.val i d x e1 b c
  rep := fun i d a b => by
    obtain ⟨e1, e2⟩ := le i d a
    rw [← e2]
    refine (V.rep i d e1 b).mono fun ad hs => ⟨hs.1, fun j o sj e => ?_⟩
    obtain ⟨dj, hj⟩ := Option.isSome_iff_exists.mp sj
    obtain ⟨f1, f2⟩ := le j dj hj
    exact hs.2 j o (by rw [f1]; rfl) (f2.trans e)
  owned := fun i d a b => by
    obtain ⟨e1, e2⟩ := le i d a
    obtain ⟨ad, ds, vs, q1, q2, q3, q4, q5⟩ := V.owned i d e1 b
    refine ⟨ad, ds, vs, q1, e2 ▸ q2, q3, q4.mono fun ad hs => ⟨hs.1, fun j o sj e => ?_⟩, q5⟩
    obtain ⟨dj, hj⟩ := Option.isSome_iff_exists.mp sj
    obtain ⟨f1, f2⟩ := le j dj hj
    exact hs.2 j o (by rw [f1]; rfl) (f2.trans e)
  dist := fun i j a oi oj si sj ei ej => by
    obtain ⟨di, hi⟩ := Option.isSome_iff_exists.mp si
    obtain ⟨dj, hj⟩ := Option.isSome_iff_exists.mp sj
    obtain ⟨e1, e2⟩ := le i di hi
    obtain ⟨f1, f2⟩ := le j dj hj
    exact V.dist i j a oi oj (by rw [e1]; rfl) (by rw [f1]; rfl) (e2.trans ei) (f2.trans ej)
end

theorem tupD_some {d : D} {xs : List D} (h : tupD d = some xs) : d = .tup xs := by
  cases d <;> simp [tupD] at h
  subst h; rfl
theorem each_cons {e : PySem.Expr} {es : List PySem.Expr} {env : Env} (h : isStar e = false) : assignEach (e :: es) env = (false, assign e env) :: assignEach es env := by
  cases e <;> first | rfl | (simp [isStar] at h)
theorem each_plain {tab : List PySem.Str} {sc : Scope} {env : Env} : ∀ {ps : PatL} {es : List PySem.Expr}, chkPL tab ps sc es = true → (assignEach es env).findIdx? (·.1) = none ∧ (assignEach es env).length = es.length
  | .nil, [], _ => ⟨rfl, rfl⟩
  | .nil, _ :: _, h => by simp [chkPL] at h
  | .cons _ _, [], h => by simp [chkPL] at h
  | .cons p ps, e :: es, h => by
    simp only [chkPL, Bool.and_eq_true, Bool.not_eq_true'] at h
    obtain ⟨i1, i2⟩ := each_plain (env := env) h.2
    rw [each_cons h.1.1]
    exact ⟨by simp [List.findIdx?_cons, i1], by simp [i2]⟩
theorem bindPL_len {own : Nat → Bool} {tab : List PySem.Str} {sc : Scope} : ∀ {ps : PatL} {es : List PySem.Expr} {ds : List D} {σ σ' : Sg}, chkPL tab ps sc es = true → bindPL own ps ds σ = some σ' → es.length = ds.length
  | .nil, [], [], _, _, _, _ => rfl
  | .nil, [], _ :: _, _, _, _, h => by simp [bindPL] at h
  | .nil, _ :: _, _, _, _, h, _ => by simp [chkPL] at h
  | .cons _ _, [], _, _, _, h, _ => by simp [chkPL] at h
  | .cons _ _, _ :: _, [], _, _, _, h => by simp [bindPL] at h
  | .cons p ps, e :: es, d :: ds, σ, σ', hc, h => by
    simp only [chkPL, Bool.and_eq_true] at hc
    simp only [bindPL, Option.bind_eq_some_iff] at h
    obtain ⟨σ'', _, h⟩ := h
    simp [bindPL_len hc.2 h]

section
variable {prog : Program} {w : World} {A : Around} {C : Cx}
variable {sc : Scope} {h₀ : Heap} {env : Env}

mutual
theorem so_bind (hh : HC A C) : ∀ (p : Pat) {σ σ' : Sg} {d : D} {target : PySem.Expr} {vals : Nat → Value} {s : Shared} {v : Value} {Q : Unit → Shared → Prop} {E : Value → Shared → Prop},
    bindP C.own p d σ = some σ' → chkP C.tab p sc target = true → StV C sc h₀ env σ vals s.heap → Rep s.heap (Sx C σ vals) v d →
    (∀ h' tk vals', StV C sc h₀ env σ' vals' h' → Ag C.own p.vars σ σ' vals vals' → Kp h₀ env s.heap h' → Q () { s with heap := h', toks := tk }) → wpAny (model prog w) A (assign target env v) Q E s
  | .v i, σ, σ', d, target, vals, s, v, Q, E, hb, hc, V, hr, h => by
    cases target with
    | Name x pos =>
      simp only [chkP, Bool.and_eq_true, beq_iff_eq] at hc
      simp only [bindP] at hb
      split at hb
      · cases hb
      · rename_i ho
        have ho : C.own i = false := by simpa using ho
        cases hb
        refine wpAny_assign_Name (store_ok V hc.1 hc.2 ho hr fun h' tk V' k1 k2 => h h' tk _ V' ⟨fun j n => ?_, fun j oj => ?_⟩ ⟨k1, fun b o n e => by rw [k2 b n]; exact e⟩)
        · have : j ≠ i := fun z => n (by simp [Pat.vars, z])
          exact ⟨upd_ne _ _ this, updv_ne _ _ this⟩
        · have : j ≠ i := fun z => by rw [z, ho] at oj; cases oj
          exact ⟨upd_ne _ _ this, updv_ne _ _ this⟩
    | _ => simp [chkP] at hc
  | .tup ps, σ, σ', d, target, vals, s, v, Q, E, hb, hc, V, hr, h => by
    cases target with
    | Tuple es k pos =>
      simp only [chkP, Bool.and_eq_true, Bool.not_eq_true'] at hc
      obtain ⟨hcm, hc⟩ := hc
      simp only [bindP, Option.bind_eq_some_iff] at hb
      obtain ⟨ds, hd, hb⟩ := hb
      obtain rfl := tupD_some hd
      obtain ⟨t, vs, rfl, _, hl, _, hr⟩ := hr.tup_inv
      obtain ⟨e1, e2⟩ := each_plain (env := env) hc
      refine PyProof.Rows.assign_Tuple_tuple (hh.no hcm) hl (by rw [e2, bindPL_len hc hb, List.size_toArray, hr.length]) e1 fun h₁ he => ?_
      have k : ∀ b o, s.heap.get? b = some o → h₁.get? b = some o := fun b o e => he b o (Nat.ne_of_lt (Heap.lt_size e)) e
      have V₁ : StV C sc h₀ env σ vals h₁ := V.le (.of k) fun b o _ e => k b o e
      exact so_bindL hh ps (s := { s with heap := h₁ }) hb hc V₁ (hr.ext (.of k)) fun h' tk vals' V' ag kp => h h' tk vals' V' ag ((Kp.of k).trans kp)
    | _ => simp [chkP] at hc
theorem so_bindL (hh : HC A C) : ∀ (ps : PatL) {σ σ' : Sg} {ds : List D} {es : List PySem.Expr} {vals : Nat → Value} {s : Shared} {vs : List Value} {Q : Unit → Shared → Prop} {E : Value → Shared → Prop},
    bindPL C.own ps ds σ = some σ' → chkPL C.tab ps sc es = true → StV C sc h₀ env σ vals s.heap → RepL s.heap (Sx C σ vals) vs ds →
    (∀ h' tk vals', StV C sc h₀ env σ' vals' h' → Ag C.own ps.vars σ σ' vals vals' → Kp h₀ env s.heap h' → Q () { s with heap := h', toks := tk }) → wpAny (model prog w) A (assignInOrder ((assignEach es env).map (·.2)) vs) Q E s
  | .nil, σ, σ', ds, es, vals, s, vs, Q, E, hb, hc, V, hr, h => by
    cases es with
    | cons => simp [chkPL] at hc
    | nil =>
      cases ds with
      | cons => simp [bindPL] at hb
      | nil =>
        simp only [bindPL, Option.some.injEq] at hb
        subst hb
        obtain rfl := hr.nil_inv
        exact wpAny_pure (h s.heap s.toks vals V .refl (.of fun _ _ e => e))
  | .cons p ps, σ, σ', ds, es, vals, s, vs, Q, E, hb, hc, V, hr, h => by
    cases es with
    | nil => simp [chkPL] at hc
    | cons e es =>
      simp only [chkPL, Bool.and_eq_true, Bool.not_eq_true'] at hc
      cases ds with
      | nil => simp [bindPL] at hb
      | cons d ds =>
        simp only [bindPL, Option.bind_eq_some_iff] at hb
        obtain ⟨σ₁, hb1, hb2⟩ := hb
        obtain ⟨v, ws, rfl, rv, rs⟩ := hr.cons_inv
        rw [each_cons hc.1.1]
        show wpAny _ _ (do holding ws (assign e env v); assignInOrder ((assignEach es env).map (·.2)) ws) _ _ _
        refine wpAny_bind (wpAny_holding (so_bind hh p hb1 hc.1.2 V rv fun h₁ tk₁ vals₁ V₁ ag₁ kp₁ => ?_))
        refine so_bindL hh ps (s := { s with heap := h₁, toks := tk₁ }) hb2 hc.2 V₁ (rs.on (kp₁.on V fun a ha => ag₁.sx.mp ha)) fun h' tk vals' V' ag kp => h h' tk vals' V' (ag₁.trans ag) (kp₁.trans kp)
end
end
end Mine
end

section
open PySem PySem.W PyProof.Rows PySem.SeqAt PySem.MeetsSeq PySem.MeetsSeq2 PySem.MeetsSeq3
set_option maxRecDepth 100000
namespace Mine

/-! ## 14. The frame of a comprehension -/

abbrev Nm := List (PySem.Str × NameKind)

def closOf (env : Env) : Nm → List (PySem.Str × Addr) → List (PySem.Str × Addr)
  | [], acc => acc
  | (n, k) :: r, acc => if k == .free then closOf env r ((n, (env.cells.lookup n).getD 0) :: acc) else closOf env r acc

theorem clos_pure_aux (env : Env) : ∀ (names : Nm) (acc : List (PySem.Str × Addr)), (∀ x, (x, NameKind.free) ∈ names → ∃ c, env.cells.lookup x = some c) →
    (forIn names acc (fun (x : PySem.Str × NameKind) (r : List (PySem.Str × Addr)) => if (x.2 == NameKind.free) = true then (do let a ← cellOf env x.1; pure (ForInStep.yield ((x.1, a) :: r))) else pure (ForInStep.yield r)) : Sem (List (PySem.Str × Addr))) = pure (closOf env names acc)
  | [], acc, _ => rfl
  | (n, k) :: r, acc, h => by
    rw [List.forIn_cons]
    unfold closOf
    by_cases hk : (k == NameKind.free) = true
    · simp only [hk, if_true]
      have hk' : k = .free := by cases k <;> first | rfl | (exact absurd hk (by decide))
      subst hk'
      obtain ⟨c, hc⟩ := h n List.mem_cons_self
      have e1 : cellOf env n = pure c := by unfold cellOf; rw [hc]
      rw [e1, hc]
      show (forIn r ((n, c) :: acc) _ : Sem _) = _
      exact clos_pure_aux env r _ fun x hx => h x (List.mem_cons_of_mem _ hx)
    · simp only [hk]
      show (forIn r acc _ : Sem _) = _
      exact clos_pure_aux env r _ fun x hx => h x (List.mem_cons_of_mem _ hx)
theorem clos_pure (env : Env) (scope : Scope) (h : ∀ x, (x, NameKind.free) ∈ scope.names → ∃ c, env.cells.lookup x = some c) : closureFor scope env = pure (closOf env scope.names []) := by
  have := clos_pure_aux env scope.names [] h
  unfold closureFor
  show (forIn scope.names [] _ >>= fun r => pure r) = _
  first
    | (rw [show (forIn scope.names [] _ : Sem (List (PySem.Str × Addr))) = pure (closOf env scope.names []) from this]; rfl)
    | (simpa using this)

/-! lookups in names whose keys differ -/
theorem mem_lookup {α : Type} : ∀ {l : List (PySem.Str × α)} {x : PySem.Str} {a : α}, (l.map (·.1)).Nodup → (x, a) ∈ l → l.lookup x = some a
  | (k, v) :: r, x, a, nd, h => by
    simp only [List.map_cons, List.nodup_cons] at nd
    rw [List.lookup_cons]
    rcases List.mem_cons.mp h with e | h
    · cases e; simp
    · have : (x == k) = false := by
        cases hb : x == k with
        | false => rfl
        | true => exact absurd (List.mem_map_of_mem (f := (·.1)) h) (by rw [show (x, a).1 = k from beq_iff_eq.mp hb]; exact nd.1)
      rw [this]; exact mem_lookup nd.2 h

theorem closOf_lookup (env : Env) : ∀ (names : Nm) (acc : List (PySem.Str × Addr)) (x : PySem.Str), (names.map (·.1)).Nodup →
    (closOf env names acc).lookup x = if (x, NameKind.free) ∈ names then some ((env.cells.lookup x).getD 0) else acc.lookup x
  | [], acc, x, _ => by simp [closOf]
  | (n, k) :: r, acc, x, nd => by
    simp only [List.map_cons, List.nodup_cons] at nd
    unfold closOf
    by_cases hk : (k == NameKind.free) = true
    · have hk' : k = .free := by cases k <;> first | rfl | (exact absurd hk (by decide))
      subst hk'
      simp only [hk, if_true]
      rw [closOf_lookup env r _ x nd.2]
      by_cases hx : (x, NameKind.free) ∈ r
      · simp [hx]
      · simp only [hx, if_false, List.mem_cons, or_false]
        rw [List.lookup_cons]
        by_cases he : x = n
        · subst he; simp
        · have : (x == n) = false := by simpa using he
          simp [this, he]
    · simp only [hk]
      rw [if_neg (by simp)]
      rw [closOf_lookup env r _ x nd.2]
      have hne : k ≠ .free := fun z => hk (by rw [z]; rfl)
      have : ((x, NameKind.free) ∈ (n, k) :: r) ↔ (x, NameKind.free) ∈ r := by
        constructor
        · intro h; rcases List.mem_cons.mp h with e | h
          · cases e; exact absurd rfl hne
          · exact h
        · exact List.mem_cons_of_mem _
      by_cases hm : (x, NameKind.free) ∈ r
      · rw [if_pos hm, if_pos (this.mpr hm)]
      · rw [if_neg hm, if_neg fun z => hm (this.mp z)]

theorem cellsFrom_lookup : ∀ (names : Nm) (n : Nat) (acc : List (PySem.Str × Addr)) (x : PySem.Str), (names.map (·.1)).Nodup →
    ((x, NameKind.cell) ∉ names → (cellsFrom n names acc).lookup x = acc.lookup x) ∧ ((x, NameKind.cell) ∈ names → ∃ c, (cellsFrom n names acc).lookup x = some c ∧ n ≤ c)
  | [], n, acc, x, _ => ⟨fun _ => rfl, fun h => by cases h⟩
  | (m, k) :: r, n, acc, x, nd => by
    simp only [List.map_cons, List.nodup_cons] at nd
    unfold cellsFrom
    by_cases hk : (k == NameKind.cell) = true
    · have hk' : k = .cell := by cases k <;> first | rfl | (exact absurd hk (by decide))
      subst hk'
      simp only [hk, if_true]
      obtain ⟨i1, i2⟩ := cellsFrom_lookup r (n + 1) ((m, n) :: acc) x nd.2
      refine ⟨fun h => ?_, fun h => ?_⟩
      · simp only [List.mem_cons, not_or] at h
        rw [i1 h.2, List.lookup_cons]
        have : (x == m) = false := by
          cases hb : x == m with
          | false => rfl
          | true => exact absurd (by rw [beq_iff_eq.mp hb]) h.1
        rw [this]
      · by_cases hm : (x, NameKind.cell) ∈ r
        · obtain ⟨c, e, l⟩ := i2 hm; exact ⟨c, e, by omega⟩
        · rcases List.mem_cons.mp h with e | h
          · cases e; exact ⟨n, by rw [i1 hm]; simp, Nat.le_refl _⟩
          · exact absurd h hm
    · simp only [hk]
      rw [if_neg (by simp)]
      obtain ⟨i1, i2⟩ := cellsFrom_lookup r n acc x nd.2
      have hne : k ≠ .cell := fun z => hk (by rw [z]; rfl)
      refine ⟨fun h => i1 fun z => h (List.mem_cons_of_mem _ z), fun h => ?_⟩
      rcases List.mem_cons.mp h with e | h
      · cases e; exact absurd rfl hne
      · exact i2 h

theorem cellsFrom_app : ∀ (names : Nm) (n : Nat) (acc : List (PySem.Str × Addr)), cellsFrom n names acc = cellsFrom n names [] ++ acc
  | [], _, _ => rfl
  | (m, k) :: r, n, acc => by
    unfold cellsFrom
    split
    · rw [cellsFrom_app r (n + 1) ((m, n) :: acc), cellsFrom_app r (n + 1) [(m, n)]]; simp
    · exact cellsFrom_app r n acc

theorem relabel_lookup (env : Env) (x : PySem.Str) : ∀ (names : Nm), (names.map fun (n, k) => if (k == NameKind.free && env.scope.kind == .function && env.kindOf n == some .cell) then (n, NameKind.cell) else (n, k)).lookup x =
    (names.lookup x).map fun k => if (k == NameKind.free && env.scope.kind == .function && env.kindOf x == some .cell) then NameKind.cell else k
  | [] => rfl
  | (n, k) :: r => by
    rw [List.map_cons]
    show List.lookup x ((if (k == NameKind.free && env.scope.kind == .function && env.kindOf n == some .cell) = true then (n, NameKind.cell) else (n, k)) :: _) = _
    by_cases hx : x = n
    · subst hx
      split <;> simp_all
    · have : (x == n) = false := by simpa using hx
      split <;> simp only [List.lookup_cons, this] <;> exact relabel_lookup env x r

/-- the frame's env of a comprehension -/
def compEnv (isc : Scope) (h : Heap) (env : Env) : Env :=
  { scope := relabel isc env, locals := h.objs.size, globals := env.globals, cells := cellsFrom (h.objs.size + 1) isc.names (closOf env isc.names []), qual := env.qual, func := none, code := env.code, frame := env.frame, builtins := env.builtins }
def compHeap (isc : Scope) (h : Heap) : Heap := pushCells (h.push { cls := .type "dict", data := .dict #[] }) isc.names

section
variable {M : Model} {A : Around} {E : Value → Shared → Prop} {s : Shared}
theorem wpAny_newEnv_comp {isc : Scope} {env : Env} {Q : Env → Shared → Prop}
    (h : ∀ cenv : Env, { cenv with scope := relabel isc env } = compEnv isc s.heap env → cenv.locals = s.heap.objs.size → Q cenv { s with heap := compHeap isc s.heap }) :
    wpAny M A (newFunctionEnv isc env.globals (closOf env isc.names []) [] env.qual none .none (some env)) Q E s := by
  simp only [newFunctionEnv, Option.isSome_some, if_true]
  refine wpAny_bind (wpAny_alloc ?_)
  refine wpAny_bind (wpAny_layCells _ (fun name kind cells => by cases hkc : kind == NameKind.cell <;> simp [hkc]) _ _ _ _ ?_)
  rw [show ({ s with heap := s.heap.push { cls := .type "dict", data := .dict #[] } } : Shared).heap.objs.size = s.heap.objs.size + 1 from Heap.size_push ..]
  refine wpAny_bind ?_
  rw [List.forIn_nil]
  exact wpAny_pure (wpAny_pure (h _ rfl rfl))
end

theorem isW_cases {sc : Scope} {x : PySem.Str} (h : isW sc x = true) : sc.names.lookup x = some .local ∨ sc.names.lookup x = some .cell := by
  unfold isW at h
  split at h <;> first | (exact .inl (by assumption)) | (exact .inr (by assumption)) | cases h
theorem isV_cases {sc : Scope} {x : PySem.Str} (h : isV sc x = true) : sc.names.lookup x = some .local ∨ sc.names.lookup x = some .cell ∨ sc.names.lookup x = some .free := by
  unfold isV at h
  split at h <;> first | (exact .inl (by assumption)) | (exact .inr (.inl (by assumption))) | (exact .inr (.inr (by assumption))) | cases h

theorem compHeap_old (isc : Scope) (h : Heap) : ∀ b o, h.get? b = some o → (compHeap isc h).get? b = some o := fun b o e => pushCells_keeps _ _ _ _ (Heap.get?_push_of_some _ e)

theorem none_of_le {h : Heap} {a : Addr} (l : h.objs.size ≤ a) : h.get? a = none := by
  cases q : h.get? a with
  | none => rfl
  | some o => exact absurd (Heap.lt_size q) (Nat.not_lt.mpr l)

/-- a comprehension's frame, over a state's frame -/
theorem comp_frame {C : Cx} {sc isc : Scope} {h₀ h : Heap} {env : Env} {σ : Sg} {vals : Nat → Value} {vs : List Nat} (V : StV C sc h₀ env σ vals h) (hs : scOk C.tab sc isc vs = true) :
    closureFor isc env = pure (closOf env isc.names []) ∧ isc.kind = .function ∧ (∀ x ∈ isc.names, x.2 = .local → isc.names.lookup x.1 = some .local) ∧
    StV C isc h (compEnv isc h env) (unb vs σ) vals (compHeap isc h) := by
  simp only [scOk, Bool.and_eq_true] at hs
  obtain ⟨⟨⟨h1, h2⟩, h3⟩, h4⟩ := hs
  have nd : (isc.names.map (·.1)).Nodup := by simpa [keysOk] using h2
  have hkind : isc.kind = .function := by
    cases q : isc.kind <;> first | rfl | (rw [q] at h1; cases h1)
  rw [List.all_eq_true] at h3
  have free : ∀ x, (x, NameKind.free) ∈ isc.names → (sc.names.lookup x = some .cell ∨ sc.names.lookup x = some .free) ∧ (env.kindOf x = some .cell ∨ env.kindOf x = some .free) ∧ ∃ c, env.cells.lookup x = some c := fun x hx => by
    have := h3 _ hx
    simp only [Bool.or_eq_true] at this
    rcases this with q | q
    · have q' : sc.names.lookup x = some .cell := by
        cases z : sc.names.lookup x with
        | none => rw [z] at q; cases q
        | some k => rw [z] at q; cases k <;> first | rfl | cases q
      obtain ⟨k1, c, k2, _⟩ := V.fr.kC x q'
      exact ⟨.inl q', .inl k1, c, k2⟩
    · have q' : sc.names.lookup x = some .free := by
        cases z : sc.names.lookup x with
        | none => rw [z] at q; cases q
        | some k => rw [z] at q; cases k <;> first | rfl | cases q
      obtain ⟨k1, c, k2⟩ := V.fr.kF x q'
      exact ⟨.inr q', k1, c, k2⟩
  have look : ∀ {x k}, isc.names.lookup x = some k → (x, k) ∈ isc.names := fun h => mem_of_lookup h
  have kindOf : ∀ x, (compEnv isc h env).kindOf x = (isc.names.lookup x).map fun k => if (k == NameKind.free && env.scope.kind == .function && env.kindOf x == some .cell) then NameKind.cell else k := fun x => relabel_lookup env x isc.names
  have ck : ∀ x k, isc.names.lookup x = some k → k ≠ .free → (compEnv isc h env).kindOf x = some k := fun x k e ne => by
    rw [kindOf, e]
    have : (k == NameKind.free) = false := by cases k <;> first | rfl | exact absurd rfl ne
    rw [Option.map_some, this]; rfl
  have nocell : ∀ x k, isc.names.lookup x = some k → k ≠ .cell → (x, NameKind.cell) ∉ isc.names := fun x k e ne hm => by
    have := mem_lookup nd hm
    rw [e] at this; cases this; exact ne rfl
  have old := compHeap_old isc h
  have hx : Ext h (compHeap isc h) := .of old
  -- where the cells lie
  have okn := cellsFrom_ok isc.names (h.push { cls := .type "dict", data := .dict #[] }) (h.objs.size + 1) [] ⟨fun _ _ hm => (nomatch hm), List.Pairwise.nil⟩ (by rw [Heap.size_push]; exact Nat.le_refl _)
  rw [Heap.size_push] at okn
  have cellsE : (compEnv isc h env).cells = cellsFrom (h.objs.size + 1) isc.names [] ++ closOf env isc.names [] := cellsFrom_app _ _ _
  have lookC : ∀ x c, (compEnv isc h env).cells.lookup x = some c → ((x, c) ∈ cellsFrom (h.objs.size + 1) isc.names [] ∧ (compHeap isc h).IsCell c none ∧ h.objs.size + 1 ≤ c) ∨ (env.cells.lookup x = some c ∧ (x, NameKind.free) ∈ isc.names) := fun x c e => by
    by_cases hm : (x, NameKind.cell) ∈ isc.names
    · have hmem := mem_of_lookup e
      rw [cellsE] at hmem
      rcases List.mem_append.mp hmem with q | q
      · obtain ⟨q1, q2⟩ := okn.empty _ _ q
        exact .inl ⟨q, q1, q2⟩
      · exfalso
        have nf : (x, NameKind.free) ∉ isc.names := fun z => by
          have a := mem_lookup nd hm; have b := mem_lookup nd z; rw [a] at b; cases b
        have := closOf_lookup env isc.names [] x nd
        rw [if_neg nf] at this
        have e2 : ∀ {l : List (PySem.Str × Addr)}, (x, c) ∈ l → l.lookup x ≠ none := fun {l} hm => by
          induction l with
          | nil => cases hm
          | cons y r ih =>
            obtain ⟨k, v⟩ := y
            rw [List.lookup_cons]
            cases hb : x == k with
            | true => simp
            | false =>
              rcases List.mem_cons.mp hm with z | z
              · cases z; simp at hb
              · exact ih z
        exact e2 q this
    · have e' : (cellsFrom (h.objs.size + 1) isc.names (closOf env isc.names [])).lookup x = some c := e
      rw [(cellsFrom_lookup isc.names _ _ x nd).1 hm, closOf_lookup env isc.names [] x nd] at e'
      split at e'
      · rename_i hf
        obtain ⟨_, _, c', hc'⟩ := free x hf
        rw [hc'] at e'; cases e'
        exact .inr ⟨hc', hf⟩
      · cases e'
  have cellIn : ∀ x c, (compEnv isc h env).cells.lookup x = some c → ∃ v, (compHeap isc h).IsCell c v := fun x c e => by
    rcases lookC x c e with ⟨_, q, _⟩ | ⟨q, _⟩
    · exact ⟨_, q⟩
    · obtain ⟨v, n⟩ := V.fr.cell x c q
      exact ⟨v, hx.isCell n⟩
  have ltOld : ∀ x c, env.cells.lookup x = some c → c < h.objs.size := fun x c e => by
    obtain ⟨v, o, n, _⟩ := V.fr.cell x c e
    exact Heap.lt_size n
  refine ⟨clos_pure env isc fun x hx => (free x hx).2.2, hkind, fun x hx e => ?_, ?_⟩
  · obtain ⟨n, k⟩ := x
    simp only at e; subst e
    exact mem_lookup nd hx
  · refine (V.le hx fun b o _ e => old b o e) |> fun V' => ?_
    refine ⟨⟨hkind, V.fr.glob, V.fr.bi, ⟨_, (Heap.Ns.new h (.type "dict")).keeps (pushCells_keeps _ _)⟩, fresh_size, fun x e => ck x _ e (by simp), fun x e => ?_, fun x e => ?_, fun x e => ck x _ e (by simp), cellIn, fun x y c ex ey => ?_⟩,
      V'.g.trans V'.ext |>.trans (.refl _) |> fun _ => V.g.trans V.ext, hx, V'.stay, V'.newS, V.bg, V'.pf, V.bP, V.nodup, fun i d x hi hxi hv => ?_, fun i d hi ho => ?_, fun i d hi ho => ?_, fun i j a oi oj si sj ei ej => ?_⟩
    · refine ⟨ck x _ e (by simp), ?_⟩
      obtain ⟨c, e1, l⟩ := (cellsFrom_lookup isc.names (h.objs.size + 1) (closOf env isc.names []) x nd).2 (look e)
      exact ⟨c, e1, none_of_le (by omega)⟩
    · obtain ⟨_, q, c, hc⟩ := free x (look e)
      refine ⟨?_, c, ?_⟩
      · rw [kindOf, e]
        rcases q with q | q
        · left; simp [V.fr.kind, q]
        · right; simp [q]
      · show (cellsFrom (h.objs.size + 1) isc.names (closOf env isc.names [])).lookup x = some c
        rw [(cellsFrom_lookup isc.names _ _ x nd).1 (nocell x _ e (by simp)), closOf_lookup env isc.names [] x nd, if_pos (look e), hc]; rfl
    · rcases lookC x c ex with ⟨q1, _, l1⟩ | ⟨q1, _⟩
      · rcases lookC y c ey with ⟨q2, _, l2⟩ | ⟨q2, _⟩
        · exact name_of_addr okn.apart q1 q2
        · have := ltOld y c q2; exact absurd (Nat.le_of_succ_le l1) (Nat.not_le.mpr this)
      · rcases lookC y c ey with ⟨q2, _, l2⟩ | ⟨q2, _⟩
        · have := ltOld x c q1; exact absurd (Nat.le_of_succ_le l2) (Nat.not_le.mpr this)
        · exact V.fr.inj x y c q1 q2
    · have hi' : σ i = some d ∧ i ∉ vs := by
        unfold unb at hi
        split at hi
        · cases hi
        · rename_i q; exact ⟨hi, by simpa using q⟩
      have noW : ∀ k, isc.names.lookup x = some k → k = .local ∨ k = .cell → False := fun k e hk => by
        have hm := look e
        have h3' := h3 _ hm
        have any : (vs.any fun i => C.tab[i]? == some x) = true → False := fun z => by
          rw [List.any_eq_true] at z
          obtain ⟨j, hj, ej⟩ := z
          have ej : C.tab[j]? = some x := by simpa using ej
          obtain ⟨a1, a2⟩ := List.getElem?_eq_some_iff.mp ej
          obtain ⟨b1, b2⟩ := List.getElem?_eq_some_iff.mp hxi
          have : j = i := (List.getElem_inj V.nodup).mp (a2.trans b2.symm)
          exact hi'.2 (this ▸ hj)
        rcases hk with rfl | rfl
        · simp only [Bool.or_eq_true] at h3'
          rcases h3' with q | q
          · have : x = PySem.Str.ofString ".0" := by simpa using q
            subst this
            have : (C.tab.contains (PySem.Str.ofString ".0")) = true := by
              rw [List.contains_iff_mem]; exact List.mem_of_getElem? hxi
            rw [this] at h4; cases h4
          · exact any q
        · exact any h3'
      rcases isV_cases hv with e | e | e
      · exact (noW _ e (.inl rfl)).elim
      · exact (noW _ e (.inr rfl)).elim
      · obtain ⟨k0, k1, c, hc⟩ := free x (look e)
        have vv := V.val i d x hi'.1 hxi (by unfold isV; rcases k0 with k0 | k0 <;> rw [k0])
        rcases vv with ⟨z, _⟩ | ⟨_, c', hc', n⟩
        · rcases k1 with k1 | k1 <;> rw [k1] at z <;> cases z
        · refine .inr ⟨?_, c', ?_, hx.isCell n⟩
          · rw [kindOf, e]
            rcases k1 with q | q
            · left; simp [V.fr.kind, q]
            · right; simp [q]
          · show (cellsFrom (h.objs.size + 1) isc.names (closOf env isc.names [])).lookup x = some c'
            rw [(cellsFrom_lookup isc.names _ _ x nd).1 (nocell x _ e (by simp)), closOf_lookup env isc.names [] x nd, if_pos (look e), hc']; rfl
    all_goals
      have V'' := V'.less (σ := unb vs σ) (vals := vals) fun j d e => by
        unfold unb at e
        split at e
        · cases e
        · exact ⟨e, rfl⟩
    · exact V''.rep i d hi ho
    · exact V''.owned i d hi ho
    · exact V''.dist i j a oi oj si sj ei ej
end Mine
end

section
open PySem PySem.W PyProof.Rows PySem.SeqAt PySem.MeetsSeq PySem.MeetsSeq2 PySem.MeetsSeq3
set_option maxRecDepth 100000
namespace Mine

/-! ## 15. What a loop draws from: soundness -/

section
variable {prog : Program} {w : World} {A : Around} {C : Cx} {fnm : List PySem.Str} {F : Fn} {fa : Nat → Addr} {mg mb : PySem.Str → Option Value}

variable (prog w A C fnm F) in
def SoSr (sr : Sr) : Prop := ∀ {σ : Sg} {ds : List D} {sc : Scope} {target e : PySem.Expr} {h₀ : Heap} {env : Env} {vals : Nat → Value} {s : Shared} {Q E : Value → Shared → Prop},
  evSr C.own F sr σ = some ds → chkSr C.tab fnm sr sc target e = true → StV C sc h₀ env σ vals s.heap →
  (∀ I fp wr Src St s', Le C.base C.P s s' → It prog w A target I fp wr ds Src St → (∀ a ∈ wr, s.heap.get? a = none) → (∀ a ∈ fp, Sx C σ vals a ∨ s.heap.get? a = none) → St 0 s'.heap → Src s'.heap (fun a => Sx C σ vals a ∧ a ∉ wr) → ds.length ≤ LB → Q (.ref I) s') →
  wpAny (model prog w) A (eval e env) (fun x s₁ => wpAny (model prog w) A (pyIter x) Q E s₁) E s

theorem onFresh {h h' : Heap} {S : Addr → Prop} {wr : List Addr} (k : ∀ b o, h.get? b = some o → h'.get? b = some o) (n : ∀ a ∈ wr, h.get? a = none) : On h h' S (fun a => S a ∧ a ∉ wr) := fun a ha o ho _ =>
  ⟨⟨ha, fun m => by rw [n a m] at ho; cases ho⟩, o.slots, k a o ho⟩

theorem sosr_t {a : T} (hA : AOk A C) (ha : SoT prog w A C fnm F a) : SoSr prog w A C fnm F (.t a) := by
  intro σ ds sc target e h₀ env vals s Q E he hc V h
  simp only [chkSr, Bool.and_eq_true, Bool.or_eq_true] at hc
  simp only [evSr, Option.bind_eq_some_iff] at he
  obtain ⟨d, hd, he⟩ := he
  obtain rfl := listD_some he
  refine ha hd hc.2 V fun v s₁ L₁ r _ => ?_
  obtain ⟨l, vs, rfl, hS, hl, hz, hr⟩ := r.plain.list_inv
  have hlt : l < s₁.heap.objs.size := by obtain ⟨_, q, _⟩ := hl; exact Heap.lt_size q
  refine wpAny_pyIter_list hl (h _ _ _ _ _ _ (L₁.trans (.push C.base C.P s₁ _)) (It.list hc.1.1 s₁.heap.objs.size l (Nat.ne_of_lt hlt) hr.length) (fun a hm => ?_) (fun a hm => ?_) ⟨⟨_, Heap.get?_push_size _ rfl, rfl, rfl⟩, hl.push _⟩ ?_ hz)
  · obtain rfl := List.mem_singleton.mp hm
    exact L₁.ext.none fresh_size
  · simp only [List.mem_cons, List.not_mem_nil, or_false] at hm
    rcases hm with rfl | rfl
    · exact .inr (L₁.ext.none fresh_size)
    · exact .inl hS
  · exact hr.on (onFresh (fun _ _ e => Heap.get?_push_of_some _ e) fun a hm => by obtain rfl := List.mem_singleton.mp hm; exact fresh_size)

theorem type_call {T : String} {x : PySem.Str} {p pos : Pos} {l : TL} {es : List PySem.Expr} {ds : List D} {σ : Sg} {sc : Scope} {h₀ : Heap} {env : Env} {vals : Nat → Value} {s : Shared} {Q E : Value → Shared → Prop}
    (G : Gl C fnm fa mg mb) (V : StV C sc h₀ env σ vals s.heap) (hx : isG sc x = true) (hm : (x, Value.type T) ∈ srcE) (hne : es.isEmpty = false) (hc : chkL C.tab fnm l sc es = true) (hl : SoL prog w A C fnm F l)
    (he : evL C.own F false l σ = some ds) (h : ∀ vs s', Le C.base C.P s s' → RepL s'.heap (Sx C σ vals) vs ds → wpAny (model prog w) A (call (.type T) vs) Q E s') : wpAny (model prog w) A (eval (.Call (.Name x p) es [] pos) env) Q E s := by
  have hd : (x == debugN) = false := by
    simp only [srcE, List.mem_cons, List.not_mem_nil, or_false, Prod.mk.injEq] at hm
    rcases hm with ⟨rfl, _⟩ | ⟨rfl, _⟩ | ⟨rfl, _⟩ <;> decide
  refine PyProof.Rows.Call_Name rfl (built_name G V hx hd (G.src _ hm) ?_)
  exact PyProof.Rows.callWith_type (plain_trees hc) (evalArgs_of hne hc (hl he hc V fun vs s₁ L₁ _ hS _ => h vs s₁ L₁ (hS _ (fun _ y => y) rfl)))

theorem iter_range_ok {a b : Int} {t u v : Tok} {r : Addr} {target : PySem.Expr} {ds : List D} {s₀ s : Shared} {C : Cx} {σ : Sg} {vals : Nat → Value} {Q E : Value → Shared → Prop} (hA : AOk A C) (ht : isName target = true) (hd : rangeD a b = some ds)
    (hr : IsRange s.heap r a b 1 t u v) (L : Le C.base C.P s₀ s)
    (h : ∀ I fp wr Src St s', Le C.base C.P s₀ s' → It prog w A target I fp wr ds Src St → (∀ a ∈ wr, s₀.heap.get? a = none) → (∀ a ∈ fp, Sx C σ vals a ∨ s₀.heap.get? a = none) → St 0 s'.heap → Src s'.heap (fun a => Sx C σ vals a ∧ a ∉ wr) → ds.length ≤ LB → Q (.ref I) s') :
    wpAny (model prog w) A (pyIter (.ref r)) Q E s := by
  unfold rangeD at hd
  split at hd
  · rename_i hz
    obtain ⟨h1, h2, h3⟩ := hz
    cases hd
    simp only [tiny, decide_eq_true_eq] at h1 h2
    have h3' : b - a ≤ 1000 := h3
    refine wpAny_pyIter_range hr (small_one (by omega) (by omega) (by omega) (by omega)) ?_
    refine h _ _ _ _ _ _ (L.trans (.push C.base C.P s _)) (It.range ht s.heap.objs.size a (b - a).toNat) (fun c hm => ?_) (fun c hm => ?_) ?_ trivial (by simp [LB]; omega)
    · obtain rfl := List.mem_singleton.mp hm
      exact L.ext.none fresh_size
    · obtain rfl := List.mem_singleton.mp hm
      exact .inr (L.ext.none fresh_size)
    · have e1 : Builtin.Range.rangeSize a b 1 = (((b - a).toNat : Nat) : Int) := by rw [rangeSize_one]; split <;> omega
      show Heap.get? _ _ = some _
      rw [e1]
      have := Heap.get?_push_size (o := { cls := .type "range_iterator", data := .fields #[rawInt a, rawInt (((b - a).toNat : Nat) : Int), rawInt 1] }) s.heap rfl
      simpa using this
  · cases hd

theorem sosr_range1 {a : T} (hA : AOk A C) (G : Gl C fnm fa mg mb) (ha : SoT prog w A C fnm F a) : SoSr prog w A C fnm F (.range1 a) := by
  intro σ ds sc target e h₀ env vals s Q E he hc V h
  unfold chkSr at hc
  split at hc <;> try (first | cases hc | (rename_i hh _; cases hh; done) | (rename_i hh; cases hh; done))
  rename_i a' sc' target' x p e pos hh
  cases hh
  simp only [Bool.and_eq_true, beq_iff_eq, Bool.not_eq_true'] at hc
  obtain ⟨⟨⟨⟨h1, rfl⟩, h3⟩, h4⟩, h5⟩ := hc
  simp only [evSr, Option.bind_eq_some_iff] at he
  obtain ⟨d, hd, n, hn, he⟩ := he
  obtain rfl := intD_some hn
  refine type_call (T := "range") (l := .cons a .nil) (ds := [.int n]) G V h3 (by simp [srcE]) rfl (by simp [chkL, h4, h5]) (sl_cons ha sl_nil) (by simp [evL, hd]) fun vs s₁ L₁ rr => ?_
  obtain ⟨v, ws, rfl, r, hr⟩ := rr.cons_inv
  obtain rfl := hr.nil_inv
  obtain ⟨t, rfl⟩ := r.int_inv
  refine call_range_1 ?_
  exact iter_range_ok hA h1 he (IsRange.new s₁.heap 0 n 1 _ t _) (L₁.trans ((Le.push C.base C.P s₁ _).trans (.tok ..))) h
theorem sosr_range2 {a b : T} (hA : AOk A C) (G : Gl C fnm fa mg mb) (ha : SoT prog w A C fnm F a) (hb : SoT prog w A C fnm F b) : SoSr prog w A C fnm F (.range2 a b) := by
  intro σ ds sc target e h₀ env vals s Q E he hc V h
  unfold chkSr at hc
  split at hc <;> try (first | cases hc | (rename_i hh _; cases hh; done) | (rename_i hh; cases hh; done))
  rename_i a' b' sc' target' x p e e' pos hh
  cases hh
  simp only [Bool.and_eq_true, beq_iff_eq, Bool.not_eq_true'] at hc
  obtain ⟨⟨⟨⟨⟨⟨h1, rfl⟩, h3⟩, h4⟩, h4'⟩, h5⟩, h5'⟩ := hc
  simp only [evSr, Option.bind_eq_some_iff] at he
  obtain ⟨d, hd, d', hd', m, hm, n, hn, he⟩ := he
  obtain rfl := intD_some hn
  obtain rfl := intD_some hm
  refine type_call (T := "range") (l := .cons a (.cons b .nil)) (ds := [.int m, .int n]) G V h3 (by simp [srcE]) rfl (by simp [chkL, h4, h5, h4', h5']) (sl_cons ha (sl_cons hb sl_nil)) (by simp [evL, hd, hd']) fun vs s₁ L₁ rr => ?_
  obtain ⟨v, ws, rfl, r, hr⟩ := rr.cons_inv
  obtain ⟨v', ws', rfl, r', hr⟩ := hr.cons_inv
  obtain rfl := hr.nil_inv
  obtain ⟨t, rfl⟩ := r.int_inv
  obtain ⟨t', rfl⟩ := r'.int_inv
  refine call_range_2 ?_
  exact iter_range_ok (b := n) hA h1 he (IsRange.new s₁.heap m n 1 t t' _) (L₁.trans ((Le.push C.base C.P s₁ _).trans (.tok ..))) h

theorem isTuple_ex {e : PySem.Expr} (h : isTuple e = true) : ∃ es k pos, e = .Tuple es k pos := by
  cases e <;> first | exact ⟨_, _, _, rfl⟩ | (simp [isTuple] at h)

theorem sosr_enum {a : T} (hA : AOk A C) (G : Gl C fnm fa mg mb) (ha : SoT prog w A C fnm F a) : SoSr prog w A C fnm F (.enum a) := by
  intro σ ds sc target e h₀ env vals s Q E he hc V h
  unfold chkSr at hc
  split at hc <;> try (first | cases hc | (rename_i hh _; cases hh; done) | (rename_i hh; cases hh; done))
  rename_i a' sc' target' x p e pos hh
  cases hh
  simp only [Bool.and_eq_true, beq_iff_eq, Bool.not_eq_true'] at hc
  obtain ⟨⟨⟨⟨⟨h0, h1⟩, rfl⟩, h3⟩, h4⟩, h5⟩ := hc
  obtain ⟨es', k', pos', rfl⟩ := isTuple_ex h1
  simp only [evSr, Option.bind_eq_some_iff] at he
  obtain ⟨d, hd, xs, hn, he⟩ := he
  cases he
  obtain rfl := listD_some hn
  refine type_call (T := "enumerate") (l := .cons a .nil) (ds := [.list xs]) G V h3 (by simp [srcE]) rfl (by simp [chkL, h4, h5]) (sl_cons ha sl_nil) (by simp [evL, hd]) fun vs s₁ L₁ rr => ?_
  obtain ⟨v, ws, rfl, r, hr⟩ := rr.cons_inv
  obtain rfl := hr.nil_inv
  obtain ⟨l, vs, rfl, hS, hl, hz, hr⟩ := r.list_inv
  have hlt : l < s₁.heap.objs.size := by obtain ⟨_, q, _⟩ := hl; exact Heap.lt_size q
  refine call_enumerate_list hl fun h' i1 i2 i3 i4 => ?_
  refine wpAny_pyIter_enum i1 ?_
  have nw : ∀ a ∈ [s₁.heap.objs.size + 1, s₁.heap.objs.size], s₁.heap.get? a = none := fun a hm => by
    simp only [List.mem_cons, List.not_mem_nil, or_false] at hm
    rcases hm with rfl | rfl
    · exact none_of_le (Nat.le_succ _)
    · exact fresh_size
  refine h _ _ _ _ _ _ (L₁.trans (.keep (tk := s₁.toks) i4)) (It.enum (hA.hh.no h0) (e := s₁.heap.objs.size + 1) (it := s₁.heap.objs.size) (l := l) (Nat.succ_ne_self _) (Nat.ne_of_lt (Nat.lt_succ_of_lt hlt)) (Nat.ne_of_lt hlt) hr.length)
    (fun a hm => L₁.ext.none (nw a hm)) (fun a hm => by
      simp only [List.mem_cons, List.not_mem_nil, or_false] at hm
      rcases hm with rfl | rfl | rfl
      · exact .inr (L₁.ext.none (nw _ (by simp)))
      · exact .inr (L₁.ext.none (nw _ (by simp)))
      · exact .inl hS) ⟨⟨_, i1⟩, i2, (Ext.of i4).isList hl⟩ ((hr.on (onFresh i4 nw)).mono fun _ x => ⟨x, x.2⟩) (by rw [enumD_length]; exact hz)

theorem sosr_zip {a b : T} (hA : AOk A C) (G : Gl C fnm fa mg mb) (ha : SoT prog w A C fnm F a) (hb : SoT prog w A C fnm F b) : SoSr prog w A C fnm F (.zip a b) := by
  intro σ ds sc target e h₀ env vals s Q E he hc V h
  unfold chkSr at hc
  split at hc <;> try (first | cases hc | (rename_i hh _; cases hh; done) | (rename_i hh; cases hh; done))
  rename_i a' b' sc' target' x p e e' pos hh
  cases hh
  simp only [Bool.and_eq_true, beq_iff_eq, Bool.not_eq_true'] at hc
  obtain ⟨⟨⟨⟨⟨⟨⟨h0, h1⟩, rfl⟩, h3⟩, h4⟩, h4'⟩, h5⟩, h5'⟩ := hc
  obtain ⟨es', k', pos', rfl⟩ := isTuple_ex h1
  simp only [evSr, Option.bind_eq_some_iff] at he
  obtain ⟨d, hd, d', hd', xs, hm, ys, hn, he⟩ := he
  cases he
  obtain rfl := listD_some hn
  obtain rfl := listD_some hm
  refine type_call (T := "zip") (l := .cons a (.cons b .nil)) (ds := [.list xs, .list ys]) G V h3 (by simp [srcE]) rfl (by simp [chkL, h4, h5, h4', h5']) (sl_cons ha (sl_cons hb sl_nil)) (by simp [evL, hd, hd']) fun vs s₁ L₁ rr => ?_
  obtain ⟨v, ws, rfl, r, hr⟩ := rr.cons_inv
  obtain ⟨v', ws', rfl, r', hr⟩ := hr.cons_inv
  obtain rfl := hr.nil_inv
  obtain ⟨l, vs, rfl, hS, hl, hz, hq⟩ := r.list_inv
  obtain ⟨l', vs', rfl, hS', hl', hz', hr'⟩ := r'.list_inv
  have hlt : l < s₁.heap.objs.size := by obtain ⟨_, q, _⟩ := hl; exact Heap.lt_size q
  have hlt' : l' < s₁.heap.objs.size := by obtain ⟨_, q, _⟩ := hl'; exact Heap.lt_size q
  refine call_zip_2 hl hl' fun h' i1 i2 i3 i4 i5 i6 i7 => ?_
  refine wpAny_pyIter_zip i1 ?_
  have nw : ∀ a ∈ [s₁.heap.objs.size + 4, s₁.heap.objs.size + 3, s₁.heap.objs.size, s₁.heap.objs.size + 1], s₁.heap.get? a = none := fun a hm => by
    simp only [List.mem_cons, List.not_mem_nil, or_false] at hm
    rcases hm with rfl | rfl | rfl | rfl <;> exact none_of_le (by first | exact Nat.le_refl _ | exact Nat.le_add_right _ _)
  generalize hn : s₁.heap.objs.size = n at *
  have Da : ZipApart (n + 4) (n + 2) (n + 3) n (n + 1) l l' := by
    have q : ∀ k, l ≠ n + k := fun k => Nat.ne_of_lt (Nat.lt_of_lt_of_le hlt (Nat.le_add_right _ _))
    have q' : ∀ k, l' ≠ n + k := fun k => Nat.ne_of_lt (Nat.lt_of_lt_of_le hlt' (Nat.le_add_right _ _))
    have f : ∀ {i j : Nat}, i ≠ j → n + i ≠ n + j := fun h z => h (Nat.add_left_cancel z)
    exact ⟨f (by decide), f (by decide), f (i := 0) (by decide), f (by decide), f (by decide), f (j := 0) (by decide), f (by decide), f (j := 0) (by decide), f (by decide), f (i := 0) (by decide), q 4, q 3, q 0, q 1, q' 4, q' 3, q' 0, q' 1⟩
  refine h _ _ _ _ _ _ (L₁.trans (.keep (tk := s₁.toks) i7)) (It.zip (hA.hh.no h0) Da hq.length hr'.length)
    (fun a hm => L₁.ext.none (nw a hm)) (fun a hm => by
      simp only [List.mem_cons, List.not_mem_nil, or_false] at hm
      rcases hm with rfl | rfl | rfl | rfl | rfl | rfl | rfl
      · exact .inr (L₁.ext.none (nw _ (by simp)))
      · exact .inr (L₁.ext.none (hn ▸ none_of_le (Nat.le_add_right _ _)))
      · exact .inr (L₁.ext.none (nw _ (by simp)))
      · exact .inr (L₁.ext.none (nw _ (by simp)))
      · exact .inr (L₁.ext.none (nw _ (by simp)))
      · exact .inl hS
      · exact .inl hS') ⟨i1, i2, ⟨_, _, i3⟩, i4, i5, (Ext.of i7).isList hl, (Ext.of i7).isList hl'⟩ ⟨(hq.on (onFresh i7 nw)).mono fun _ x => ⟨x, x.2⟩, (hr'.on (onFresh i7 nw)).mono fun _ x => ⟨x, x.2⟩⟩ (by rw [zipD_length]; omega)
end
end Mine
end

section
open PySem PySem.W PyProof.Rows PySem.SeqAt PySem.MeetsSeq PySem.MeetsSeq2 PySem.MeetsSeq3
set_option maxRecDepth 100000
namespace Mine

/-! ## 16. Loops of comprehensions -/

abbrev Cx.w (C : Cx) (S : Addr → Prop) : Cx := { C with S := S }

section
variable {C : Cx} {sc : Scope} {h₀ h h' : Heap} {env : Env} {σ : Sg} {vals : Nat → Value}

/-- a change at addresses that no value bears and no frame is -/
theorem StV.chg' (V : StV C sc h₀ env σ vals h) (S' : Addr → Prop) (m' : ∀ a, C.S a → S' a) (X : List Addr) (k : ∀ b o, b ∉ X → h.get? b = some o → h'.get? b = some o)
    (kd : ∀ a ∈ X, ∃ o, h.get? a = some o ∧ (∀ es n, o.data ≠ .dict es n) ∧ ∀ u, o.data ≠ .cell u) (hx : ∀ a ∈ X, h'.get? a = none → S' a) (hn : ∀ a ∈ X, h₀.get? a = none)
    (hS : ∀ a ∈ X, ¬ C.S a) (hO : ∀ a ∈ X, NotO C.own σ vals a) : StV (C.w S') sc h₀ env σ vals h' := by
  have on : On h h' (Sx C σ vals) (Sx (C.w S') σ vals) := fun a ha o ho _ => ⟨⟨m' a ha.1, ha.2⟩, o.slots, k a o (fun m => hS a m ha.1) ho⟩
  have ne : env.locals ∉ X := fun m => by
    obtain ⟨o, q, d, _⟩ := kd _ m
    obtain ⟨mm, o', es, ep, q', d', _⟩ := V.fr.ns
    rw [q] at q'; cases q'; exact d _ _ d'
  have cne : ∀ x c, env.cells.lookup x = some c → c ∉ X := fun x c hc m => by
    obtain ⟨o, q, _, d⟩ := kd _ m
    obtain ⟨v, o', q', d'⟩ := V.fr.cell x c hc
    rw [q] at q'; cases q'; exact d _ d'
  have ns : ∀ m, h.Ns env.locals m → h'.Ns env.locals m := fun m ⟨o, es, ep, q, r⟩ => ⟨o, es, ep, k _ o ne q, r⟩
  have ic : ∀ x c v, env.cells.lookup x = some c → h.IsCell c v → h'.IsCell c v := fun x c v hc ⟨o, q, d⟩ => ⟨o, k _ o (cne x c hc) q, d⟩
  refine ⟨⟨V.fr.kind, V.fr.glob, V.fr.bi, let ⟨m, n⟩ := V.fr.ns; ⟨m, ns m n⟩, V.fr.newL, V.fr.kL, V.fr.kC, V.fr.kF, V.fr.kG, fun x c hc => let ⟨v, n⟩ := V.fr.cell x c hc; ⟨v, ic x c v hc n⟩, V.fr.inj⟩,
    V.g, fun b o e => ?_, fun b o e => ?_, fun a n => ?_, V.bg, fun a p => ?_, V.bP, V.nodup, fun i d x a b c => ?_, fun i d a b => (V.rep i d a b).on on, fun i d a b => ?_, V.dist⟩
  · obtain ⟨sl, w⟩ := V.ext b o e
    exact ⟨sl, k b _ (fun m => by rw [hn b m] at e; cases e) w⟩
  · refine k b o (fun m => V.bg b o e (V.g.none (hn b m))) (V.stay b o e)
  · by_cases m : a ∈ X
    · exact hx a m n
    · refine m' a (V.newS a ?_)
      cases q : h.get? a with
      | none => rfl
      | some o => rw [k a o m q] at n; cases n
  · obtain ⟨o, es, n, q, d⟩ := V.pf a p
    refine ⟨o, es, n, k a o (fun m => ?_) q, d⟩
    obtain ⟨o', q', d', _⟩ := kd a m
    rw [q] at q'; cases q'; exact d' _ _ d
  · rcases V.val i d x a b c with ⟨q1, m, q2, q3⟩ | ⟨q1, c', q2, q3⟩
    · exact .inl ⟨q1, m, ns m q2, q3⟩
    · exact .inr ⟨q1, c', q2, ic x c' _ q2 q3⟩
  · obtain ⟨ad, ds, vs, q1, q2, ⟨o, g1, g2⟩, q4, q5⟩ := V.owned i d a b
    exact ⟨ad, ds, vs, q1, q2, ⟨o, k ad o (fun m => hO ad m i b (by rw [a]; rfl) q2) g1, g2⟩, q4.on on, q5⟩
theorem StV.chg (V : StV C sc h₀ env σ vals h) (X : List Addr) (k : ∀ b o, b ∉ X → h.get? b = some o → h'.get? b = some o)
    (kd : ∀ a ∈ X, ∃ o, h.get? a = some o ∧ (∀ es n, o.data ≠ .dict es n) ∧ ∀ u, o.data ≠ .cell u) (hx : ∀ a ∈ X, h'.get? a ≠ none) (hn : ∀ a ∈ X, h₀.get? a = none)
    (hS : ∀ a ∈ X, ¬ C.S a) (hO : ∀ a ∈ X, NotO C.own σ vals a) : StV C sc h₀ env σ vals h' :=
  V.chg' C.S (fun _ z => z) X k kd (fun a m n => absurd n (hx a m)) hn hS hO
/-- addresses that were not there are shunned from now on -/
theorem StV.shun (V : StV C sc h₀ env σ vals h) (V' : StV C sc h₀ env σ vals h') (e : Ext h h') (X : List Addr) (n : ∀ a ∈ X, h.get? a = none) (x : ∀ a ∈ X, h'.get? a ≠ none) :
    StV (C.w fun a => C.S a ∧ a ∉ X) sc h₀ env σ vals h' := by
  have on : On h h' (Sx C σ vals) (Sx (C.w fun a => C.S a ∧ a ∉ X) σ vals) := fun a ha o ho _ => ⟨⟨⟨ha.1, fun m => by rw [n a m] at ho; cases ho⟩, ha.2⟩, e a o ho⟩
  exact ⟨V'.fr, V'.g, V'.ext, V'.stay, fun a q => ⟨V'.newS a q, fun m => x a m q⟩, V'.bg, V'.pf, V'.bP, V'.nodup, V'.val, fun i d a b => (V.rep i d a b).on on,
    fun i d a b => let ⟨ad, ds, vs, q1, q2, q3, q4, q5⟩ := V.owned i d a b; ⟨ad, ds, vs, q1, q2, e.isList q3, q4.on on, q5⟩, V'.dist⟩
theorem StV.wide {S : Addr → Prop} (V : StV (C.w S) sc h₀ env σ vals h) {S' : Addr → Prop} (m : ∀ a, S a → S' a) : StV (C.w S') sc h₀ env σ vals h :=
  ⟨V.fr, V.g, V.ext, V.stay, fun a q => m a (V.newS a q), V.bg, V.pf, V.bP, V.nodup, V.val, fun i d a b => (V.rep i d a b).mono fun _ z => ⟨m _ z.1, z.2⟩,
    fun i d a b => let ⟨ad, ds, vs, q1, q2, q3, q4, q5⟩ := V.owned i d a b; ⟨ad, ds, vs, q1, q2, q3, q4.mono fun _ z => ⟨m _ z.1, z.2⟩, q5⟩, V.dist⟩
end

/-- what a comprehension's loop leaves alone -/
def Kq (X : List Addr) (h h' : Heap) : Prop := ∀ b o, h.get? b = some o → (∀ es k, o.data ≠ .dict es k) → (∀ u, o.data ≠ .cell u) → b ∉ X → h'.get? b = some o
theorem Kq.refl (X : List Addr) (h : Heap) : Kq X h h := fun _ _ e _ _ _ => e
theorem Kq.trans {X : List Addr} {a b c : Heap} (x : Kq X a b) (y : Kq X b c) : Kq X a c := fun k o e n1 n2 n3 => y k o (x k o e n1 n2 n3) n1 n2 n3
theorem Kq.more {X Y : List Addr} {a b : Heap} (x : Kq X a b) (m : ∀ a ∈ X, a ∈ Y) : Kq Y a b := fun k o e n1 n2 n3 => x k o e n1 n2 fun z => n3 (m k z)
theorem Kq.of {X : List Addr} {h h' : Heap} (k : ∀ b o, b ∉ X → h.get? b = some o → h'.get? b = some o) : Kq X h h' := fun b o e _ _ n => k b o n e
/-- what was not there does not count -/
theorem Kq.new {X Y : List Addr} {h h' : Heap} (x : Kq X h h') (n : ∀ a ∈ X, a ∉ Y → h.get? a = none) : Kq Y h h' := fun b o e n1 n2 n3 => x b o e n1 n2 fun m => by rw [n b m n3] at e; cases e
section
variable {C : Cx} {sc : Scope} {h₀ h h' : Heap} {env : Env} {σ : Sg} {vals : Nat → Value}
theorem Kq.le {s s' : Shared} (V : StV C sc h₀ env σ vals s.heap) (L : Le C.base C.P s s') (X : List Addr) : Kq X s.heap s'.heap := fun b o e n1 _ _ => L.exact b o (V.offP e n1) e
theorem Kq.kp (V : StV C sc h₀ env σ vals h) (k : Kp h₀ env h h') (X : List Addr) : Kq X h h' := fun b o e n1 n2 _ => k.big b o e (fun z => by
  obtain ⟨m, o', es, ep, q, d, _⟩ := V.fr.ns
  rw [← z, e] at q; cases q; exact n1 _ _ d) n2
end

section
variable {prog : Program} {w : World} {A : Around} {C : Cx} {fnm : List PySem.Str} {F : Fn}

/-! the tests -/
def testF (env : Env) : PySem.Expr → Bool → Sem (ForInStep Bool) := fun c r => if r = true then do let ok ← isTrue c env (eval c env); pure (ForInStep.yield ok) else pure (ForInStep.yield r)
variable (prog w A C fnm F) in
def SoTs (l : TL) : Prop := ∀ {σ : Sg} {b : Bool} {sc : Scope} {es : List PySem.Expr} {h₀ : Heap} {env : Env} {vals : Nat → Value} {s : Shared} {Q : Bool → Shared → Prop} {E : Value → Shared → Prop},
  evC C.own F l σ = some b → chkL C.tab fnm l sc es = true → StV C sc h₀ env σ vals s.heap → (∀ s', Le C.base C.P s s' → Q b s') → wpAny (model prog w) A (forIn es true (testF env)) Q E s
theorem test_false {env : Env} {E : Value → Shared → Prop} : ∀ {es : List PySem.Expr} {s : Shared} {Q : Bool → Shared → Prop}, Q false s → wpAny (model prog w) A (forIn es false (testF env)) Q E s
  | [], s, Q, h => wpAny_pure h
  | e :: es, s, Q, h => by
    rw [List.forIn_cons]
    unfold testF
    simp only [Bool.false_eq_true, if_false]
    exact wpAny_bind (wpAny_pure (test_false (es := es) h))
theorem sots_nil : SoTs prog w A C fnm F .nil := by
  intro σ b sc es h₀ env vals s Q E he hc V h
  cases es with
  | cons => simp [chkL] at hc
  | nil =>
    simp only [evC, Option.some.injEq] at he
    subst he
    exact wpAny_pure (h _ (.refl ..))
theorem sots_cons {a : T} {l : TL} (ha : SoB prog w A C fnm F a) (hl : SoTs prog w A C fnm F l) : SoTs prog w A C fnm F (.cons a l) := by
  intro σ b sc es h₀ env vals s Q E he hc V h
  cases es with
  | nil => simp [chkL] at hc
  | cons e es =>
    simp only [chkL, Bool.and_eq_true] at hc
    simp only [evC, Option.bind_eq_some_iff] at he
    obtain ⟨x, hx, q, hq, he⟩ := he
    obtain rfl := boolD_some hq
    rw [List.forIn_cons]
    refine wpAny_bind ?_
    show wpAny _ _ (do let ok ← isTrue e env (eval e env); pure (ForInStep.yield ok)) _ _ _
    refine wpAny_bind (ha hx hc.1.2 V fun s₁ L₁ => wpAny_pure ?_)
    show wpAny _ _ (forIn es q (testF env)) _ _ _
    cases q with
    | true => exact hl he hc.2 (V.Le L₁) fun s₂ L₂ => h _ (L₁.trans L₂)
    | false => cases he; exact test_false (h _ L₁)

/-! the state of a comprehension -/
structure CI (C : Cx) (S : Addr → Prop) (isc : Scope) (h₀ : Heap) (cenv : Env) (σ : Sg) (vals : Nat → Value) (Dl : Addr) (acc : List D) (h : Heap) : Prop where
  V : StV (C.w S) isc h₀ cenv σ vals h
  ex : Exact C.P h₀ h
  ls : ∃ vs, h.IsList Dl vs.toArray ∧ RepL h (Sx (C.w S) σ vals) vs acc
  nS : ∀ a, S a → a ≠ Dl
  nO : NotO C.own σ vals Dl
  new : h₀.get? Dl = none

theorem CI.le {S : Addr → Prop} {isc : Scope} {h₀ : Heap} {cenv : Env} {σ : Sg} {vals : Nat → Value} {Dl : Addr} {acc : List D} {s s' : Shared} (I : CI C S isc h₀ cenv σ vals Dl acc s.heap) (L : Le C.base C.P s s') :
    CI C S isc h₀ cenv σ vals Dl acc s'.heap :=
  ⟨StV.Le (C := C.w S) I.V L, fun b o p e => L.exact b o p (I.ex b o p e), let ⟨vs, a, b⟩ := I.ls; ⟨vs, L.ext.isList a, b.ext L.ext⟩, I.nS, I.nO, I.new⟩

theorem CI.le' {S : Addr → Prop} {isc : Scope} {h₀ : Heap} {cenv : Env} {σ : Sg} {vals : Nat → Value} {Dl : Addr} {acc : List D} {s s' : Shared} (L : Le C.base C.P s s') (I : CI C S isc h₀ cenv σ vals Dl acc s.heap) :
    CI C S isc h₀ cenv σ vals Dl acc s'.heap := I.le L

def tailAct (elt : PySem.Expr) (gens : List Comprehension) (isc : Scope) (pos : Pos) (depth : Nat) (Dl : Addr) (env : Env) (k : Sem Fin) : Sem Fin :=
  match gens[depth + 1]? with
  | some g' => do
    let x ← eval g'.iter env
    standAt g'.iter.pos
    let x ← foldedSetIterable g'.iter env x
    let _ ← runOwn (.compStart (.ListComp elt gens isc pos) (depth + 1) (← holding [x] (pyIter x)) (.ref Dl) env) env
    k
  | none => do
    (do let _ ← call (.builtin "list.append") [.ref Dl, ← eval elt env])
    k

theorem compTurn_at {elt target iter : PySem.Expr} {ifs : List PySem.Expr} {gens : List Comprehension} {isc : Scope} {pos : Pos} {depth : Nat} (it : Value) (Dl : Addr) (env : Env) (hg : gens[depth]? = some ⟨target, iter, ifs, 0⟩)
    (hg' : gens[depth + 1]? = none ∨ ∃ t i f, gens[depth + 1]? = some ⟨t, i, f, 0⟩) :
    compTurn (.ListComp elt gens isc pos) depth it (.ref Dl) env = (do
      standAt iter.pos
      match ← pyNext it with
      | none => pure (.done .next)
      | some v =>
        letOwnedTupleGo target it v
        assign target env v
        let ok ← forIn ifs true (testF env)
        if ok then tailAct elt gens isc pos depth Dl env (again (.compLoop (.ListComp elt gens isc pos) depth it (.ref Dl) env))
        else again (.compLoop (.ListComp elt gens isc pos) depth it (.ref Dl) env)) := by
  unfold compTurn
  simp only [hg]
  unfold tailAct testF
  rcases hg' with hg' | ⟨t, i, f, hg'⟩
  · simp only [hg']; rfl
  · simp only [hg']; rfl

variable (prog w A C F) in
/-- what follows the tests, at a depth -/
def TailOk (elt : PySem.Expr) (gens : List Comprehension) (isc : Scope) (pos : Pos) (f : Sg → Option D) (depth : Nat) (g' : GL) : Prop :=
  ∀ {S : Addr → Prop} {σ : Sg} {vals : Nat → Value} {h₀ : Heap} {cenv : Env} {Dl : Addr} {acc out : List D} {s : Shared} {k : Sem Fin} {Q : Fin → Shared → Prop} {E : Value → Shared → Prop},
    evG C.own F f g' σ = some out → CI C S isc h₀ cenv σ vals Dl acc s.heap → (∀ j ∈ g'.vars, σ j = none) → acc.length + out.length ≤ LB →
    (∀ h' tk, CI C S isc h₀ cenv σ vals Dl (acc ++ out) h' → Kq [Dl] s.heap h' → wpAny (model prog w) A k Q E { s with heap := h', toks := tk }) → wpAny (model prog w) A (tailAct elt gens isc pos depth Dl cenv k) Q E s

theorem CI.app {S : Addr → Prop} {isc : Scope} {h₀ h h' : Heap} {cenv : Env} {σ : Sg} {vals : Nat → Value} {Dl : Addr} {acc : List D} {v : Value} {d : D} {vs : List Value} (I : CI C S isc h₀ cenv σ vals Dl acc h)
    (hl : h.IsList Dl vs.toArray) (hr : RepL h (Sx (C.w S) σ vals) vs acc) (hv : Rep h (Sx (C.w S) σ vals) v d) (hl' : h'.IsList Dl (vs.toArray.push v)) (hs : Heap.SameBut Dl h h') : CI C S isc h₀ cenv σ vals Dl (acc ++ [d]) h' := by
  have k : ∀ b o, b ∉ [Dl] → h.get? b = some o → h'.get? b = some o := fun b o n e => (hs.2 b fun z => n (by simp [z])).trans e
  have on : On h h' (Sx (C.w S) σ vals) (Sx (C.w S) σ vals) := fun a ha o ho _ => ⟨ha, o.slots, (hs.2 a (I.nS a ha.1)).trans ho⟩
  refine ⟨I.V.chg [Dl] k (fun a m => ?_) (fun a m => ?_) (fun a m => ?_) (fun a m => ?_) (fun a m => ?_), fun b o p e => (hs.2 b fun z => ?_).trans (I.ex b o p e), ⟨vs ++ [v], by simpa using hl', (hr.append (.cons hv .nil)).on on⟩, I.nS, I.nO, I.new⟩
  · obtain rfl := List.mem_singleton.mp m
    obtain ⟨o, q, _, n, d⟩ := hl
    exact ⟨o, q, fun _ _ => by rw [d]; simp, fun _ => by rw [d]; simp⟩
  · obtain rfl := List.mem_singleton.mp m
    obtain ⟨o, q, _⟩ := hl'
    rw [q]; simp
  · obtain rfl := List.mem_singleton.mp m; exact I.new
  · obtain rfl := List.mem_singleton.mp m; exact fun z => I.nS _ z rfl
  · obtain rfl := List.mem_singleton.mp m; exact I.nO
  · rw [z, I.new] at e; cases e

theorem tail_nil {elt : PySem.Expr} {t : T} {gens : List Comprehension} {isc : Scope} {pos : Pos} {depth : Nat} (hg : gens[depth + 1]? = none) (hc : chk C.tab fnm t isc elt = true) (ht : ∀ S, SoT prog w A (C.w S) fnm F t) :
    TailOk prog w A C F elt gens isc pos (fun σ => ev C.own F false t σ) depth .nil := by
  intro S σ vals h₀ cenv Dl acc out s k Q E he I _ hz h
  simp only [evG, Option.bind_eq_some_iff] at he
  obtain ⟨d, hd, he⟩ := he
  cases he
  unfold tailAct
  rw [hg]
  refine wpAny_bind (wpAny_bind (ht S hd hc I.V fun v s₁ L₁ r _ => ?_))
  have I₁ := I.le L₁
  obtain ⟨vs, hl, hr⟩ := I₁.ls
  have hlen := hr.length
  have hsz : vs.toArray.size ≤ sizeLine := by rw [List.size_toArray, hlen]; exact Nat.le_trans (by simp at hz; omega) LBs
  refine wpAny_bind (wpAny_list_append (hsz := hsz) hl fun h' hl' hs' => wpAny_pure ?_)
  obtain ⟨h1, t1, rfl, e1, k1, b1⟩ := L₁
  exact h h' t1 (I₁.app hl hr r.plain hl' hs') ((Kq.le (C := C.w S) I.V ⟨h1, t1, rfl, e1, k1, b1⟩ _).trans (.of fun b o n e => (hs'.2 b fun z => n (by simp [z])).trans e))
end
end Mine
end

section
open PySem PySem.W PyProof.Rows PySem.SeqAt PySem.MeetsSeq PySem.MeetsSeq2 PySem.MeetsSeq3
set_option maxRecDepth 100000
namespace Mine

/-! ## 17. Comprehensions -/
section
variable {prog : Program} {w : World} {A : Around} {C : Cx} {fnm : List PySem.Str} {F : Fn}

theorem CI.bind {S : Addr → Prop} {isc : Scope} {h₀ h h' : Heap} {cenv : Env} {σ σ' : Sg} {vals vals' : Nat → Value} {Dl : Addr} {acc : List D} {l : List Nat} (I : CI C S isc h₀ cenv σ vals Dl acc h)
    (V' : StV (C.w S) isc h₀ cenv σ' vals' h') (ag : Ag C.own l σ σ' vals vals') (kp : Kp h₀ cenv h h') : CI C S isc h₀ cenv σ' vals' Dl acc h' := by
  obtain ⟨vs, hl, hr⟩ := I.ls
  refine ⟨V', fun b o p e => kp.old b o (by rw [e]; simp) (I.ex b o p e), ⟨vs, ?_, hr.on (kp.on I.V fun a ha => (Ag.sx (C := C.w S) ag).mp ha)⟩, I.nS, ag.notO.mp I.nO, I.new⟩
  obtain ⟨o, q, c, n, d⟩ := hl
  exact ⟨o, Kq.kp I.V kp [] _ _ q (fun _ _ => by rw [d]; simp) (fun _ => by rw [d]; simp) (by simp), c, n, d⟩
theorem CI.unbind {S : Addr → Prop} {isc : Scope} {h₀ h' : Heap} {cenv : Env} {σ σ' : Sg} {vals vals' : Nat → Value} {Dl : Addr} {acc : List D} {l : List Nat} (I : CI C S isc h₀ cenv σ' vals' Dl acc h')
    (ag : Ag C.own l σ σ' vals vals') (hv : ∀ j ∈ l, σ j = none) : CI C S isc h₀ cenv σ vals Dl acc h' := by
  obtain ⟨vs, hl, hr⟩ := I.ls
  refine ⟨I.V.less fun j d e => ?_, I.ex, ⟨vs, hl, hr.mono fun a ha => (Ag.sx (C := C.w S) ag).mpr ha⟩, I.nS, ag.notO.mpr I.nO, I.new⟩
  have : j ∉ l := fun m => by rw [hv j m] at e; cases e
  obtain ⟨e1, e2⟩ := ag.off j this
  exact ⟨e1.trans e, e2⟩

theorem comp_level {elt target iter : PySem.Expr} {ifs : List PySem.Expr} {gens : List Comprehension} {isc : Scope} {pos : Pos} {depth : Nat} {f : Sg → Option D} {p : Pat} {c : TL} {g' : GL} (hA : AOk A C)
    (hg : gens[depth]? = some ⟨target, iter, ifs, 0⟩) (hg' : gens[depth + 1]? = none ∨ ∃ t i f, gens[depth + 1]? = some ⟨t, i, f, 0⟩) (hp : chkP C.tab p isc target = true) (hcc : chkL C.tab fnm c isc ifs = true)
    (hts : ∀ S, SoTs prog w A (C.w S) fnm F c) (hT : TailOk prog w A C F elt gens isc pos f depth g')
    {S S' : Addr → Prop} {σ : Sg} {vals : Nat → Value} {h₀ : Heap} {cenv : Env} {Dl : Addr} {acc out : List D} {s : Shared} {R : Result → Shared → Prop} {I : Addr} {fp wr : List Addr} {ds : List D} {Src : Heap → (Addr → Prop) → Prop} {St : Nat → Heap → Prop}
    (W : It prog w A target I fp wr ds Src St)
    (he : flatM (fun d => (bindP C.own p d σ).bind fun σ' => (evC C.own F c σ').bind fun b => if b then evG C.own F f g' σ' else some []) ds = some out)
    (hI : CI C S isc h₀ cenv σ vals Dl acc s.heap) (hv : ∀ j ∈ p.vars ++ g'.vars, σ j = none) (hnd : (p.vars ++ g'.vars).Nodup)
    (hst : St 0 s.heap) (hsrc : Src s.heap (Sx (C.w S) σ vals)) (hDf : Dl ∉ fp) (hwS : ∀ a, S a → a ∉ wr) (hwO : ∀ a ∈ wr, NotO C.own σ vals a) (hwn : ∀ a ∈ wr, h₀.get? a = none) (hz : acc.length + out.length ≤ LB)
    (hS' : ∀ a, S a → S' a) (hSw : ∀ a ∈ wr, S' a) (hSD : ∀ a, S' a → a ≠ Dl)
    (hR : ∀ h' tk, CI C S' isc h₀ cenv σ vals Dl (acc ++ out) h' → Kq (Dl :: wr) s.heap h' → R (.ok .next) { s with heap := h', toks := tk }) :
    codeAny (model prog w) A (.compLoop (.ListComp elt gens isc pos) depth (.ref I) (.ref Dl) cenv) R s := by
  refine codeAny_loop rfl (fun n s' => ∃ i h' tk accs rest, s' = { s with heap := h', toks := tk } ∧ n = ds.length + 1 - i ∧ i ≤ ds.length ∧
    flatM (fun d => (bindP C.own p d σ).bind fun σ' => (evC C.own F c σ').bind fun b => if b then evG C.own F f g' σ' else some []) (ds.drop i) = some rest ∧ accs ++ rest = acc ++ out ∧
    CI C S isc h₀ cenv σ vals Dl accs h' ∧ St i h' ∧ Src h' (Sx (C.w S) σ vals) ∧ Kq (Dl :: wr) s.heap h') ?_ (ds.length + 1) ⟨0, s.heap, s.toks, acc, out, rfl, rfl, Nat.zero_le _, by simpa using he, rfl, hI, hst, hsrc, Kq.refl _ _⟩
  rintro n s' ⟨i, h, tk, accs, rest, rfl, rfl, hi, hf, hacc, hI, hst, hsrc, hkq⟩
  show wpAny _ A ((compTurn (.ListComp elt gens isc pos) depth (.ref I) (.ref Dl) cenv).onRaise (fun x => do noteFrame x cenv; theTreesLotGoes x)) _ _ _
  refine wpAny_noted ?_
  rw [compTurn_at _ _ _ hg hg']
  refine wpAny_bind (wpAny_standAt (wpAny_bind ?_))
  have hwf : ∀ {i h'}, St i h' → ∀ a ∈ wr, ∃ o, h'.get? a = some o ∧ (∀ es n, o.data ≠ .dict es n) ∧ ∀ u, o.data ≠ .cell u := fun st a m => W.obj _ _ st a (W.sub a m)
  have hDw : Dl ∉ wr := fun m => hDf (W.sub _ m)
  by_cases hlt : i < ds.length
  · have hd : ds[i]? = some ds[i] := List.getElem?_eq_getElem hlt
    rw [List.drop_eq_getElem_cons hlt] at hf
    simp only [flatM, Option.bind_eq_some_iff] at hf
    obtain ⟨a, ⟨σ', hb, b, hcb, hif⟩, rest', hf', hrest⟩ := hf
    cases hrest
    refine W.item i { s with heap := h, toks := tk } (Sx (C.w S) σ vals) ds[i] _ _ hd hst hsrc (fun a n => hI.V.new n) fun v h1 tk1 k1 hgo => ?_
    refine wpAny_bind (hgo _ _ _ rfl fun h2 st2 rv k2 => ?_)
    have k12 : ∀ b o, b ∉ wr → h.get? b = some o → h2.get? b = some o := fun b o n e => k2 b o n (k1 b o n e)
    have V2 : StV (C.w S) isc h₀ cenv σ vals h2 := hI.V.chg wr k12 (hwf hst) (fun a m => by obtain ⟨o, q, _⟩ := hwf st2 a m; rw [q]; simp) hwn (fun a m z => hwS a z m) hwO
    have I2 : CI C S isc h₀ cenv σ vals Dl accs h2 := by
      obtain ⟨vs, ⟨o, q, r⟩, hr⟩ := hI.ls
      exact ⟨V2, fun b o p e => k12 b o (fun m => by rw [hwn b m] at e; cases e) (hI.ex b o p e), ⟨vs, ⟨o, k12 _ o hDw q, r⟩, hr.on fun a ha o ho _ => ⟨ha, o.slots, k12 a o (hwS a ha.1) ho⟩⟩, hI.nS, hI.nO, hI.new⟩
    refine wpAny_bind (so_bind (C := C.w S) hA.hh p hb hp V2 rv fun h3 tk3 vals' V3 ag kp => ?_)
    have I3 := I2.bind V3 ag kp
    refine wpAny_bind (hts S hcb hcc V3 fun s4 L4 => ?_)
    have I4 : CI C S isc h₀ cenv σ' vals' Dl accs s4.heap := CI.le' (C := C) L4 I3
    have kq24 : Kq [Dl] h2 s4.heap := (Kq.kp V2 kp _).trans (Kq.le (C := C.w S) V3 L4 _)
    obtain ⟨h4, tk4, rfl, L4'⟩ := L4
    have fin : ∀ h5 tk5, CI C S isc h₀ cenv σ' vals' Dl (accs ++ a) h5 → Kq [Dl] h2 h5 →
        ∃ m, m < ds.length + 1 - i ∧ ∃ i h' tk accs rest, ({ s with heap := h5, toks := tk5 } : Shared) = { s with heap := h', toks := tk } ∧ m = ds.length + 1 - i ∧ i ≤ ds.length ∧
          flatM (fun d => (bindP C.own p d σ).bind fun σ' => (evC C.own F c σ').bind fun b => if b then evG C.own F f g' σ' else some []) (ds.drop i) = some rest ∧ accs ++ rest = acc ++ out ∧
          CI C S isc h₀ cenv σ vals Dl accs h' ∧ St i h' ∧ Src h' (Sx (C.w S) σ vals) ∧ Kq (Dl :: wr) s.heap h' := fun h5 tk5 I5 kq => by
      have kqh : Kq (Dl :: wr) h h5 := (Kq.of fun b o n e => k12 b o (fun m => n (by simp [m])) e).trans (kq.more (by simp))
      refine ⟨ds.length + 1 - (i + 1), by omega, i + 1, h5, tk5, accs ++ a, rest', rfl, rfl, hlt, hf', by rw [← hacc]; simp, I5.unbind ag (fun j m => hv j (by simp [m])), ?_, ?_, hkq.trans kqh⟩
      · refine W.frame _ _ _ st2 fun b m o e => ?_
        obtain ⟨o', q, n1, n2⟩ := W.obj _ _ st2 b m
        rw [q] at e; cases e
        exact kq b o q n1 n2 (by simp; exact fun z => hDf (z ▸ m))
      · refine W.src h h5 _ _ (fun a ha o ho ⟨xs, n, hd⟩ => ⟨ha, o.slots, kqh a o ho (fun _ _ => by rw [hd]; simp) (fun _ => by rw [hd]; simp) ?_⟩) hsrc
        simp only [List.mem_cons, not_or]
        exact ⟨hI.nS a ha.1, hwS a ha.1⟩
    cases b with
    | true =>
      simp only [if_true] at hif ⊢
      have hle : accs.length + a.length ≤ LB := by
        have := congrArg List.length hacc
        simp at this; omega
      refine hT hif I4 (fun j m => ?_) hle fun h5 tk5 I5 kq5 => wpAny_pure ⟨rfl, fin h5 tk5 I5 (kq24.trans kq5)⟩
      have hjp : j ∉ p.vars := fun z => (List.nodup_append.mp hnd).2.2 j z j m rfl
      rw [(ag.off j hjp).1]; exact hv j (by simp [m])
    | false =>
      simp only [Bool.false_eq_true, if_false] at hif ⊢
      cases hif
      exact wpAny_pure ⟨rfl, fin h4 tk4 (by simpa using I4) kq24⟩
  · have hi' : i = ds.length := by omega
    subst hi'
    simp [flatM] at hf
    subst hf
    refine W.done { s with heap := h, toks := tk } _ _ (hA.hh.hx hI.V.stay) hst fun h1 tk1 k1 => ?_
    refine wpAny_pure (hR h1 tk1 ?_ (hkq.trans (.of fun b o n e => k1 b o (fun m => n (by simp [m])) e)))
    obtain ⟨vs, ⟨o, q, r⟩, hr⟩ := hI.ls
    have e : accs = acc ++ out := by simpa using hacc
    subst e
    refine ⟨hI.V.chg' S' hS' wr k1 (hwf hst) (fun a m _ => hSw a m) hwn (fun a m z => hwS a z m) hwO, fun b o p e => k1 b o (fun m => by rw [hwn b m] at e; cases e) (hI.ex b o p e),
      ⟨vs, ⟨o, k1 _ o hDw q, r⟩, hr.on fun a ha o ho _ => ⟨⟨hS' a ha.1, ha.2⟩, o.slots, k1 a o (hwS a ha.1) ho⟩⟩, hSD, hI.nO, hI.new⟩

theorem compStart_at {elt target iter : PySem.Expr} {ifs : List PySem.Expr} {gens : List Comprehension} {isc : Scope} {pos : Pos} {depth : Nat} {it acc : Value} {env : Env} {s : Shared} {R : Result → Shared → Prop}
    (hg : gens[depth]? = some ⟨target, iter, ifs, 0⟩) (h0 : codeAny (model prog w) A (.compLoop (.ListComp elt gens isc pos) depth it acc env) R s)
    (h : wpAny (model prog w) A (pyIter it) (fun it' s' => codeAny (model prog w) A (.compLoop (.ListComp elt gens isc pos) depth it' acc env) R s') (notedBy (model prog w) A env fun x s' => R (.error x) s') s) :
    codeAny (model prog w) A (.compStart (.ListComp elt gens isc pos) depth it acc env) R s := by
  refine codeAny_of_tree ?_
  show wpAny _ _ ((compStart (.ListComp elt gens isc pos) depth it acc env).onRaise (fun x => do noteFrame x env; standAt theWindowsPlace)) _ _ s
  refine wpAny_notedAt ?_
  unfold compStart
  simp only [clausesOf, hg]
  show wpAny _ _ (ask >>= _) _ _ s
  refine wpAny_bind (wpAny_askSetting (wpAny_ite ?_))
  split
  · exact wpAny_pure (And.intro rfl h0)
  · refine wpAny_bind (wpAny_rule ?_); show wpAny _ _ (standAt iter.pos >>= _) _ _ s; exact wpAny_bind (wpAny_standAt (wpAny_bind (wpAny_mono h (fun it' s' h' => wpAny_pure (And.intro rfl h')) fun _ _ x => x)))

theorem fold_pure {e : PySem.Expr} (h : isSet e = false) (env : Env) (x : Value) : foldedSetIterable e env x = pure x := by
  cases e <;> first | rfl | (simp [isSet] at h)
theorem chkSr_set {tab fnm : List PySem.Str} {sr : Sr} {sc : Scope} {target e : PySem.Expr} (h : chkSr tab fnm sr sc target e = true) : isSet e = false := by
  unfold chkSr at h
  split at h
  · simp only [Bool.and_eq_true, Bool.not_eq_true'] at h; exact h.1.2
  · rfl
  · rfl
  · rfl
  · rfl
  · cases h

theorem tail_cons {elt target iter : PySem.Expr} {ifs : List PySem.Expr} {gens : List Comprehension} {isc : Scope} {pos : Pos} {depth : Nat} {f : Sg → Option D} {p : Pat} {sr : Sr} {c : TL} {g' : GL} (hA : AOk A C)
    (hg : gens[depth + 1]? = some ⟨target, iter, ifs, 0⟩) (hg' : gens[depth + 1 + 1]? = none ∨ ∃ t i f, gens[depth + 1 + 1]? = some ⟨t, i, f, 0⟩) (hp : chkP C.tab p isc target = true) (hcc : chkL C.tab fnm c isc ifs = true)
    (hsr : chkSr C.tab fnm sr isc target iter = true) (hsrc : ∀ S, SoSr prog w A (C.w S) fnm F sr)
    (hts : ∀ S, SoTs prog w A (C.w S) fnm F c) (hT : TailOk prog w A C F elt gens isc pos f (depth + 1) g') (hnd : (p.vars ++ g'.vars).Nodup) :
    TailOk prog w A C F elt gens isc pos f depth (.cons p sr c g') := by
  intro S σ vals h₀ cenv Dl acc out s k Q E he I hv hz h
  simp only [evG, Option.bind_eq_some_iff] at he
  obtain ⟨ds, hds, he⟩ := he
  unfold tailAct
  rw [hg]
  refine wpAny_bind (wpAny_mono (hsrc S hds hsr I.V (Q := fun it s' => wpAny (model prog w) A (runOwn (.compStart (.ListComp elt gens isc pos) (depth + 1) it (.ref Dl) cenv) cenv >>= fun _ => k) Q E s') (E := E) fun Ia fp wr Src St s' L W n1 n2 st src hlen => ?_) (fun x s₁ h₁ => wpAny_bind (wpAny_standAt (wpAny_bind (wpAny_of_eq (fold_pure (chkSr_set hsr) _ _) (wpAny_bind (wpAny_holding h₁)))))) fun _ _ z => z)
  have V' : StV (C.w S) isc h₀ cenv σ vals s'.heap := I.V.Le L
  have hwx : ∀ a ∈ wr, s'.heap.get? a ≠ none := fun a m => by obtain ⟨o, q, _⟩ := W.obj _ _ st a (W.sub a m); rw [q]; simp
  have V2 := I.V.shun V' L.ext wr n1 hwx
  have hDx : s.heap.get? Dl ≠ none := by obtain ⟨_, ⟨o, q, _⟩, _⟩ := I.ls; rw [q]; simp
  have I2 : CI C (fun a => S a ∧ a ∉ wr) isc h₀ cenv σ vals Dl acc s'.heap := by
    obtain ⟨vs, hl, hr⟩ := I.ls
    exact ⟨V2, fun b o p e => L.exact b o p (I.ex b o p e), ⟨vs, L.ext.isList hl, hr.on fun a ha o ho _ => ⟨⟨⟨ha.1, fun m => by rw [n1 a m] at ho; cases ho⟩, ha.2⟩, L.ext a o ho⟩⟩, fun a ha => I.nS a ha.1, I.nO, I.new⟩
  have src2 : Src s'.heap (Sx (C.w fun a => S a ∧ a ∉ wr) σ vals) := W.src _ _ _ _ (.of (.refl _) fun a ha => ⟨⟨ha.1.1, ha.2⟩, ha.1.2⟩) src
  have hDf : Dl ∉ fp := fun m => by
    rcases n2 _ m with z | z
    · exact I.nS _ z.1 rfl
    · exact hDx z
  have kqL : Kq [Dl] s.heap s'.heap := Kq.le (C := C.w S) I.V L _
  obtain ⟨h1, tk1, rfl, L'⟩ := L
  have loop : codeAny (model prog w) A (.compLoop (.ListComp elt gens isc pos) (depth + 1) (.ref Ia) (.ref Dl) cenv)
      (fun r s' => match r with | .ok f => wpAny (model prog w) A k Q E s' | .error e => cameBackBy (model prog w) A cenv E e s') { s with heap := h1, toks := tk1 } := by
    refine comp_level (S' := S) hA hg hg' hp hcc hts hT W he I2 hv hnd st src2 hDf (fun a ha => ha.2) (fun a m => (I.V.new (n1 a m)).2) (fun a m => I.V.ext.none (n1 a m)) hz (fun a ha => ha.1) (fun a m => (I.V.new (n1 a m)).1) I.nS fun h' tk I' kq => ?_
    exact h h' tk I' ((Kq.trans (kqL.more (Y := Dl :: wr) (by simp)) kq).new fun a m nm => by
      rcases List.mem_cons.mp m with z | z
      · exact absurd (by simp [z]) nm
      · exact n1 a z)
  refine wpAny_bind (wpAny_runOwn ?_)
  exact compStart_at hg loop (W.self _ _ _ st loop)
end
end Mine
end

section
open PySem PySem.W PyProof.Rows PySem.SeqAt PySem.MeetsSeq PySem.MeetsSeq2 PySem.MeetsSeq3
set_option maxRecDepth 100000
namespace Mine

/-! ## 18. Comprehensions, whole; all terms -/
section
variable {prog : Program} {w : World} {A : Around} {C : Cx} {fnm : List PySem.Str} {F : Fn}

theorem StV.down {sc : Scope} {h₀ h₁ h : Heap} {env : Env} {σ : Sg} {vals : Nat → Value} (V : StV C sc h₁ env σ vals h) (e : Ext h₀ h₁) (g : Ext C.g₀ h₀) : StV C sc h₀ env σ vals h :=
  { V with fr := ⟨V.fr.kind, V.fr.glob, V.fr.bi, V.fr.ns, e.none V.fr.newL, V.fr.kL, fun x q => let ⟨a, c, b, n⟩ := V.fr.kC x q; ⟨a, c, b, e.none n⟩, V.fr.kF, V.fr.kG, V.fr.cell, V.fr.inj⟩
           g := g
           ext := e.trans V.ext }

theorem unb_some {l : List Nat} {σ : Sg} {j : Nat} (h : (unb l σ j).isSome = true) : (σ j).isSome = true := by
  unfold unb at h
  split at h
  · cases h
  · exact h
theorem unb_out {l : List Nat} {σ : Sg} {j : Nat} (h : j ∉ l) : unb l σ j = σ j := by
  unfold unb
  rw [if_neg (by simpa using h)]
theorem unb_in {l : List Nat} {σ : Sg} {j : Nat} (h : j ∈ l) : unb l σ j = none := by
  unfold unb
  rw [if_pos (by simpa using h)]

theorem chkG_next {tab : List PySem.Str} {isc : Scope} : ∀ {g : GL} {gens : List Comprehension} {k : Nat}, chkG tab fnm g isc (gens.drop k) = true →
    (match g with | .nil => gens[k]? = none | .cons p sr c g' => ∃ target iter ifs, gens[k]? = some ⟨target, iter, ifs, 0⟩ ∧ chkP tab p isc target = true ∧ chkSr tab fnm sr isc target iter = true ∧ chkL tab fnm c isc ifs = true ∧ chkG tab fnm g' isc (gens.drop (k + 1)) = true) := by
  intro g gens k h
  cases g with
  | nil =>
    cases q : gens.drop k with
    | nil => simpa using q
    | cons => rw [q] at h; simp [chkG] at h
  | cons p sr c g' =>
    cases q : gens.drop k with
    | nil => rw [q] at h; simp [chkG] at h
    | cons x r =>
      obtain ⟨target, iter, ifs, a⟩ := x
      rw [q] at h
      simp only [chkG, Bool.and_eq_true, beq_iff_eq] at h
      obtain ⟨⟨⟨⟨rfl, h1⟩, h2⟩, h3⟩, h4⟩ := h
      have hk : k < gens.length := by
        have := congrArg List.length q
        simp at this; omega
      rw [List.drop_eq_getElem_cons hk] at q
      injection q with q1 q2
      exact ⟨target, iter, ifs, by rw [List.getElem?_eq_getElem hk, q1], h1, h2, h3, by rw [q2]; exact h4⟩
theorem chkG_opt {tab : List PySem.Str} {isc : Scope} {g : GL} {gens : List Comprehension} {k : Nat} (h : chkG tab fnm g isc (gens.drop k) = true) : gens[k]? = none ∨ ∃ t i f, gens[k]? = some ⟨t, i, f, 0⟩ := by
  have := chkG_next h
  cases g with
  | nil => exact .inl this
  | cons p sr c g' => obtain ⟨t, i, f, e, _⟩ := this; exact .inr ⟨t, i, f, e⟩

variable (prog w A C fnm F) in
def SoGl (g : GL) : Prop := ∀ {t : T} {elt : PySem.Expr} {gens : List Comprehension} {isc : Scope} {pos : Pos} {depth : Nat}, (∀ S, SoT prog w A (C.w S) fnm F t) → chk C.tab fnm t isc elt = true → chkG C.tab fnm g isc (gens.drop (depth + 1)) = true → g.vars.Nodup →
  TailOk prog w A C F elt gens isc pos (fun σ => ev C.own F false t σ) depth g
theorem sogl_nil : SoGl prog w A C fnm F .nil := fun ht hc hg _ => tail_nil (chkG_next hg) hc ht
theorem sogl_cons {p : Pat} {sr : Sr} {c : TL} {g' : GL} (hA : AOk A C) (hsr : ∀ S, SoSr prog w A (C.w S) fnm F sr) (hts : ∀ S, SoTs prog w A (C.w S) fnm F c) (hg' : SoGl prog w A C fnm F g') : SoGl prog w A C fnm F (.cons p sr c g') := fun ht hc hg hn => by
  obtain ⟨target, iter, ifs, e, h1, h2, h3, h4⟩ := chkG_next hg
  exact tail_cons hA e (chkG_opt h4) h1 h3 h2 hsr hts (hg' ht hc h4 (List.nodup_append.mp hn).2.1) hn

theorem chk_comp_eq {tab : List PySem.Str} {t : T} {p : Pat} {sr : Sr} {c : TL} {g' : GL} {sc isc : Scope} {elt : PySem.Expr} {gens : List Comprehension} {pos : Pos} (h : chk tab fnm (.comp t (.cons p sr c g')) sc (.ListComp elt gens isc pos) = true) :
    ∃ target iter ifs gs, gens = ⟨target, iter, ifs, 0⟩ :: gs ∧ scOk tab sc isc (GL.cons p sr c g').vars = true ∧ (GL.cons p sr c g').vars.Nodup ∧ chk tab fnm t isc elt = true ∧
      chkP tab p isc target = true ∧ chkSr tab fnm sr sc target iter = true ∧ chkL tab fnm c isc ifs = true ∧ chkG tab fnm g' isc gs = true := by
  cases gens with
  | nil =>
    have : chk tab fnm (.comp t (.cons p sr c g')) sc (.ListComp elt [] isc pos) = (scOk tab sc isc (GL.cons p sr c g').vars && decide (GL.cons p sr c g').vars.Nodup && chk tab fnm t isc elt && false) := by conv => lhs; unfold chk
    rw [this, Bool.and_false] at h; cases h
  | cons x gs =>
    obtain ⟨target, iter, ifs, a⟩ := x
    have : chk tab fnm (.comp t (.cons p sr c g')) sc (.ListComp elt (⟨target, iter, ifs, a⟩ :: gs) isc pos) = (scOk tab sc isc (GL.cons p sr c g').vars && decide (GL.cons p sr c g').vars.Nodup && chk tab fnm t isc elt &&
      (a == 0 && chkP tab p isc target && chkSr tab fnm sr sc target iter && chkL tab fnm c isc ifs && chkG tab fnm g' isc gs)) := by conv => lhs; unfold chk
    rw [this] at h
    obtain ⟨h1, h2⟩ := (Bool.and_eq_true_iff).mp h
    obtain ⟨h1, h3⟩ := (Bool.and_eq_true_iff).mp h1
    obtain ⟨h1, h4⟩ := (Bool.and_eq_true_iff).mp h1
    obtain ⟨h2, h5⟩ := (Bool.and_eq_true_iff).mp h2
    obtain ⟨h2, h6⟩ := (Bool.and_eq_true_iff).mp h2
    obtain ⟨h2, h7⟩ := (Bool.and_eq_true_iff).mp h2
    obtain ⟨h2, h8⟩ := (Bool.and_eq_true_iff).mp h2
    have : a = 0 := by simpa using h2
    subst this
    exact ⟨target, iter, ifs, gs, rfl, h1, of_decide_eq_true h4, h3, h8, h7, h6, h5⟩

theorem comp_core {t : T} {p : Pat} {sr : Sr} {c : TL} {g' : GL} (hA : AOk A C) (ht : ∀ S, SoT prog w A (C.w S) fnm F t) (hsr : ∀ S, SoSr prog w A (C.w S) fnm F sr) (hts : ∀ S, SoTs prog w A (C.w S) fnm F c) (hg : SoGl prog w A C fnm F g')
    {bw : Bool} {σ : Sg} {d : D} {sc : Scope} {e : PySem.Expr} {h₀ : Heap} {env : Env} {vals : Nat → Value} {s : Shared} {use : Option (Value → Sem Unit)} {Q E : Value → Shared → Prop}
    (he : ev C.own F bw (.comp t (.cons p sr c g')) σ = some d) (hc : chk C.tab fnm (.comp t (.cons p sr c g')) sc e = true) (V : StV C sc h₀ env σ vals s.heap)
    (hR : ∀ Dl cl m h' tk, Le C.base C.P s { s with heap := h', toks := tk } → h'.Ns cl m → s.heap.get? cl = none → Rep h' (Sx C σ vals) (.ref Dl) d → (∃ out, d = .list out) → s.heap.get? Dl = none →
      compPost (model prog w) A E use Q (.ref Dl) cl (.ok .next) { s with heap := h', toks := tk }) :
    ∃ elt gens isc pos, e = .ListComp elt gens isc pos ∧ wpAny (model prog w) A (comprehension (.ListComp elt gens isc pos) isc env (firstIterPos gens pos) (newList []) (firstAsync gens) (firstIter gens env) use) Q E s := by
  cases e with
  | ListComp elt gens isc pos =>
    refine ⟨elt, gens, isc, pos, rfl, ?_⟩
    obtain ⟨target, iter, ifs, gs, rfl, hsc, hnd, hce, hp, hcs, hcc, hgs⟩ := chk_comp_eq hc
    · simp only [ev] at he
      split at he
      · cases he
      rename_i hown
      simp only [Option.bind_eq_some_iff] at he
      obtain ⟨ds, hds, out, hout, he⟩ := he
      have hlen : out.length ≤ LB := by
        by_cases q : out.length ≤ LB
        · exact q
        · rw [if_neg q] at he; cases he
      rw [if_pos hlen] at he
      cases he
      obtain ⟨hclos, hkind, hnames, _⟩ := comp_frame V hsc
      refine wpAny_comprehension_free (use := use) rfl (fold_pure (chkSr_set hcs) env) hclos hkind hnames ?_
      refine hsr C.S hds hcs V fun I fp wr Src St s₂ L W n1 n2 st src hl => ?_
      refine p_newList (vs := []) (Nat.zero_le _) (wpAny_newEnv_comp fun cenv hce' hcl => ?_)
      rw [hce', hcl]
      have V₂ := V.Le L
      have hwx : ∀ a ∈ wr, s₂.heap.get? a ≠ none := fun a m => by obtain ⟨o, q, _⟩ := W.obj _ _ st a (W.sub a m); rw [q]; simp
      have hex := L.exact
      have hext := L.ext
      have hstay := L.stay
      obtain ⟨h2, tk2, rfl, _⟩ := L
      have hDn2 : h2.get? h2.objs.size = none := fresh_size
      have hDn : s.heap.get? h2.objs.size = none := hext.none hDn2
      generalize hDl : h2.objs.size = Dl at hDn2 hDn ⊢
      have hgD : (h2.push (newL [])).get? Dl = some (newL []) := by rw [← hDl]; exact Heap.get?_push_size _ rfl
      generalize hh3 : h2.push (newL []) = h3 at hgD ⊢
      have k23 : ∀ b o, h2.get? b = some o → h3.get? b = some o := fun b o e => by rw [← hh3]; exact Heap.get?_push_of_some _ e
      have V3 := V₂.le (h' := h3) (.of k23) fun b o _ e => k23 b o e
      have V3' := V.shun V3 (hext.trans (.of k23)) (Dl :: wr) (fun a m => by
        rcases List.mem_cons.mp m with z | z
        · rw [z]; exact hDn
        · exact n1 a z) (fun a m => by
        rcases List.mem_cons.mp m with z | z
        · rw [z, hgD]; simp
        · obtain ⟨o, q⟩ := Option.ne_none_iff_exists'.mp (hwx a z)
          rw [k23 a o q]; simp)
      obtain ⟨_, _, _, V4⟩ := comp_frame V3' hsc
      have V5 := V4.down (h₀ := s.heap) (hext.trans (.of k23)) (V.g.trans V.ext)
      have k34 := compHeap_old isc h3
      have k24 : ∀ b o, h2.get? b = some o → (compHeap isc h3).get? b = some o := fun b o e => k34 b o (k23 b o e)
      have notU : ∀ a, NotO C.own σ vals a → NotO C.own (unb (p.vars ++ g'.vars) σ) vals a := fun a n j o sj => n j o (unb_some sj)
      have notB : ∀ a, NotO C.own (unb (p.vars ++ g'.vars) σ) vals a → NotO C.own σ vals a := fun a n j o sj => n j o (by
        rw [unb_out]; exact sj
        intro m
        exact hown (List.any_eq_true.mpr ⟨j, m, o⟩))
      have I0 : CI C (fun a => C.S a ∧ a ∉ Dl :: wr) isc s.heap (compEnv isc h3 env) (unb (p.vars ++ g'.vars) σ) vals Dl [] (compHeap isc h3) :=
        ⟨V5, fun b o p e => k24 b o (hex b o p e), ⟨[], ⟨_, k34 _ _ hgD, rfl, _, rfl⟩, .nil⟩, fun a ha z => ha.2 (by simp [z]), notU _ (V.new hDn).2, hDn⟩
      have hz : ([] : List D).length + out.length ≤ LB := by simpa using hlen
      have loop : codeAny (model prog w) A (.compLoop (.ListComp elt (⟨target, iter, ifs, 0⟩ :: gs) isc pos) 0 (.ref I) (.ref Dl) (compEnv isc h3 env))
          (compPost (model prog w) A E use Q (.ref Dl) h3.objs.size) { s with heap := compHeap isc h3, toks := tk2 } := by
        refine comp_level (S' := fun a => C.S a ∧ a ≠ Dl) hA rfl (chkG_opt (k := 1) hgs) hp hcc hts (hg (gens := ⟨target, iter, ifs, 0⟩ :: gs) (depth := 0) ht hce hgs (List.nodup_append.mp hnd).2.1) W hout I0 (fun j m => unb_in m) hnd
          (W.frame _ _ _ st fun b _ o e => k24 b o e) (W.src _ _ _ _ (fun a ha o ho _ => ⟨⟨⟨ha.1.1, fun m => ?_⟩, notU a ha.1.2⟩, o.slots, k24 a o ho⟩) src) (fun m => ?_) (fun a ha m => ha.2 (by simp [m])) (fun a m => notU a (V.new (n1 a m)).2) n1 hz
          (fun a ha => ⟨ha.1, fun z => ha.2 (by simp [z])⟩) (fun a m => ⟨V.newS a (n1 a m), fun z => hwx a m (by rw [z]; exact hDn2)⟩) (fun a ha => ha.2) fun h' tk I' _ => ?_
        · rcases List.mem_cons.mp m with z | z
          · rw [z, hDn2] at ho; cases ho
          · exact ha.2 z
        · obtain ⟨o, q, _⟩ := W.obj _ _ st Dl m
          rw [hDn2] at q; cases q
        · obtain ⟨mm, hns⟩ := I'.V.fr.ns
          obtain ⟨vs, hl', hr'⟩ := I'.ls
          refine hR Dl h3.objs.size mm h' tk ⟨h', tk, rfl, I'.V.ext, I'.ex, fun b o q _ => I'.V.stay b o q⟩ hns I'.V.fr.newL (.list (V.new hDn) hl' (by simpa using hlen) (hr'.mono fun a ha => ⟨ha.1.1, notB a ha.2⟩)) ⟨_, rfl⟩ hDn
      exact compStart_at rfl loop (W.self _ _ _ (W.frame _ _ _ st fun b _ o e => k24 b o e) loop)
  | _ => simp [chk] at hc

variable (prog w A C fnm F) in
def GlP : GL → Prop
  | .nil => True
  | .cons _ sr c g' => (∀ S, SoSr prog w A (C.w S) fnm F sr) ∧ (∀ S, SoTs prog w A (C.w S) fnm F c) ∧ SoGl prog w A C fnm F g'
theorem so_comp {t : T} {g : GL} (hA : AOk A C) (ht : ∀ S, SoT prog w A (C.w S) fnm F t) (hg : GlP prog w A C fnm F g) :
    SoT prog w A C fnm F (.comp t g) := by
  intro bw σ d sc e h₀ env vals s Q E he hc V h
  cases g with
  | nil => simp [ev] at he
  | cons p sr c g' =>
    obtain ⟨hsr, hts, hg⟩ := hg
    obtain ⟨elt, gens, isc, pos, rfl, hw⟩ := comp_core (use := none) (Q := Q) (E := E) hA ht hsr hts hg he hc V fun Dl cl m h' tk L hns hcl hr hd hDl => by
      refine ⟨m, hns, fun h'' hs => ?_⟩
      have ne : ∀ b o, s.heap.get? b = some o → b ≠ cl := fun b o e z => by rw [z, hcl] at e; cases e
      have L2 : Le C.base C.P s { s with heap := h'', toks := tk } :=
        ⟨h'', tk, rfl, fun b o e => let ⟨sl, w⟩ := L.ext b o e; ⟨sl, (hs.2 b (ne b o e)).trans w⟩, fun b o p e => (hs.2 b (ne b o e)).trans (L.exact b o p e), fun b o q e => (hs.2 b (ne b o e)).trans (L.stay b o q e)⟩
      refine h _ _ L2 (.inl (hr.on fun a ha o ho ⟨xs, n, hd⟩ => ⟨ha, o.slots, (hs.2 a fun z => ?_).trans ho⟩)) fun _ a e => by cases e; exact hDl
      obtain ⟨o', es, ep, q, d', _⟩ := hns
      rw [z, q] at ho; cases ho; rw [d'] at hd; cases hd
    rw [eval_ListComp]
    exact hw
end
end Mine
end

section
open PySem PySem.W PyProof.Rows PySem.SeqAt PySem.MeetsSeq PySem.MeetsSeq2 PySem.MeetsSeq3
set_option maxRecDepth 100000
namespace Mine

/-! ## 19. All terms -/
def plE : PySem.Expr → Bool
  | .UnaryOp .Not .. => false
  | .BoolOp .. => false
  | .IfExp .. => false
  | .Compare .. => false
  | _ => true
theorem isTrue_pl {e : PySem.Expr} (h : plE e = true) (env : Env) (x : Sem Value) : isTrue e env x = (do let v ← x; standAt e.pos; holding [v] (truthy v)) := by
  cases e with
  | UnaryOp op _ _ => cases op <;> first | rfl | (simp [plE] at h)
  | _ => first | rfl | (simp [plE] at h)
def plT : T → Bool
  | .cmp .. => false
  | .isn .. => false
  | .bop .. => false
  | .not .. => false
  | .ite .. => false
  | _ => true
theorem chk_pl {tab fnm : List PySem.Str} {t : T} {sc : Scope} {e : PySem.Expr} (ht : plT t = true) (h : chk tab fnm t sc e = true) : plE e = true := by
  unfold chk at h
  split at h <;> first | rfl | cases h | (simp [plT] at ht; done)

section
variable {prog : Program} {w : World} {A : Around} {C : Cx} {fnm : List PySem.Str} {F : Fn} {fa : Nat → Addr} {mg mb : PySem.Str → Option Value}

theorem sb_plain {t : T} (hp : plT t = true) (ht : SoT prog w A C fnm F t) : SoB prog w A C fnm F t := by
  intro σ b sc e h₀ env vals s Q E he hc V h
  refine so_truth (isTrue_pl (chk_pl hp hc) env) (ht he hc V fun v s' L r _ => ⟨r.plain.bool_inv, h s' L⟩)

theorem both {t : T} (hp : plT t = true) (ht : SoT prog w A C fnm F t) : SoT prog w A C fnm F t ∧ SoB prog w A C fnm F t := ⟨ht, sb_plain hp ht⟩
theorem Gl.at (G : Gl C fnm fa mg mb) (S : Addr → Prop) : Gl (C.w S) fnm fa mg mb := ⟨G.g, G.b, G.bi, G.src, G.fn⟩
theorem CallOk.at (K : CallOk prog w A C fa F) (S : Addr → Prop) : CallOk prog w A (C.w S) fa F := ⟨K.call⟩
theorem AOk.at (hA : AOk A C) (S : Addr → Prop) : AOk A (C.w S) := ⟨hA.hh, hA.units⟩

mutual
theorem all_T (hA : AOk A C) (G : Gl C fnm fa mg mb) (K : CallOk prog w A C fa F) : ∀ (t : T) (S : Addr → Prop), SoT prog w A (C.w S) fnm F t ∧ SoB prog w A (C.w S) fnm F t
  | .k c, S => ⟨so_k c, sb_plain rfl (so_k c)⟩
  | .v i, S => ⟨so_v i, sb_plain rfl (so_v i)⟩
  | .op o a b, S => both rfl (so_op (all_T hA G K a S).1 (all_T hA G K b S).1)
  | .neg a, S => both rfl (so_neg (all_T hA G K a S).1)
  | .cmp o a b, S => ⟨so_cmp hA.units (all_T hA G K a S).1 (all_T hA G K b S).1, sb_cmp hA.units (all_T hA G K a S).1 (all_T hA G K b S).1⟩
  | .isn yes a, S => ⟨so_isn (all_T hA G K a S).1, sb_isn (all_T hA G K a S).1⟩
  | .bop isAnd l, S => ⟨so_bop (all_L hA G K l S).2.2, sb_bop (all_L hA G K l S).2.2⟩
  | .not a, S => ⟨so_not (all_T hA G K a S).1, sb_not (all_T hA G K a S).2⟩
  | .ite c a b, S => ⟨so_ite (all_T hA G K c S).2 (all_T hA G K a S).1 (all_T hA G K b S).1, sb_ite (all_T hA G K c S).2 (all_T hA G K a S).2 (all_T hA G K b S).2⟩
  | .list l, S => both rfl (so_list (all_L hA G K l S).1)
  | .rep a n, S => both rfl (so_rep (all_T hA G K a S).1 (all_T hA G K n S).1)
  | .tup l, S => both rfl (so_tup (all_L hA G K l S).1)
  | .idx a i, S => both rfl (so_idx (all_T hA G K a S).1 (all_T hA G K i S).1)
  | .sl a lo hi, S => both rfl (so_sl (all_T hA G K a S).1 (all_O hA G K lo S) (all_O hA G K hi S))
  | .rev a, S => both rfl (so_rev (all_T hA G K a S).1)
  | .call f l, S => both rfl (so_call (hA.at S) (G.at S) (K.at S) (all_L hA G K l S).1)
  | .bi b l, S => both rfl (so_bi (hA.at S) (G.at S) (all_L hA G K l S).1)
  | .comp elt g, S => both rfl (so_comp (C := C.w S) (hA.at S) (fun S' => (all_T hA G K elt S').1) (all_G hA G K g S).1)
theorem all_L (hA : AOk A C) (G : Gl C fnm fa mg mb) (K : CallOk prog w A C fa F) : ∀ (l : TL) (S : Addr → Prop), SoL prog w A (C.w S) fnm F l ∧ SoTs prog w A (C.w S) fnm F l ∧ SoBo prog w A (C.w S) fnm F l
  | .nil, S => ⟨sl_nil, sots_nil, sbo_nil⟩
  | .cons a l, S => ⟨sl_cons (all_T hA G K a S).1 (all_L hA G K l S).1, sots_cons (all_T hA G K a S).2 (all_L hA G K l S).2.1, sbo_cons (all_T hA G K a S).1 (all_T hA G K a S).2 (all_L hA G K l S).2.2⟩
theorem all_O (hA : AOk A C) (G : Gl C fnm fa mg mb) (K : CallOk prog w A C fa F) : ∀ (o : TO) (S : Addr → Prop), SoO prog w A (C.w S) fnm F o
  | .none, S => soo_none
  | .some a, S => soo_some (all_T hA G K a S).1
theorem all_Sr (hA : AOk A C) (G : Gl C fnm fa mg mb) (K : CallOk prog w A C fa F) : ∀ (r : Sr) (S : Addr → Prop), SoSr prog w A (C.w S) fnm F r
  | .t a, S => sosr_t (hA.at S) (all_T hA G K a S).1
  | .range1 a, S => sosr_range1 (hA.at S) (G.at S) (all_T hA G K a S).1
  | .range2 a b, S => sosr_range2 (hA.at S) (G.at S) (all_T hA G K a S).1 (all_T hA G K b S).1
  | .zip a b, S => sosr_zip (hA.at S) (G.at S) (all_T hA G K a S).1 (all_T hA G K b S).1
  | .enum a, S => sosr_enum (hA.at S) (G.at S) (all_T hA G K a S).1
theorem all_G (hA : AOk A C) (G : Gl C fnm fa mg mb) (K : CallOk prog w A C fa F) : ∀ (g : GL) (S : Addr → Prop),
    GlP prog w A (C.w S) fnm F g ∧ SoGl prog w A (C.w S) fnm F g
  | .nil, S => ⟨trivial, sogl_nil⟩
  | .cons p sr c g', S => ⟨⟨fun S' => all_Sr hA G K sr S', fun S' => (all_L hA G K c S').2.1, (all_G hA G K g' S).2⟩, sogl_cons (C := C.w S) (hA.at S) (fun S' => all_Sr hA G K sr S') (fun S' => (all_L hA G K c S').2.1) (all_G hA G K g' S).2⟩
end
end
end Mine
end

section
open PySem PySem.W PyProof.Rows PySem.SeqAt PySem.MeetsSeq PySem.MeetsSeq2 PySem.MeetsSeq3
set_option maxRecDepth 100000
namespace Mine

/-! ## 20. Statements: the checker, the state -/

def tiesN : PySem.Str := PySem.Str.ofString "TiesException"
/-! terms that no iterator serves -/
mutual
def lite : T → Bool
  | .k _ => true
  | .v _ => true
  | .op _ a b => lite a && lite b
  | .neg a => lite a
  | .cmp _ a b => lite a && lite b
  | .isn _ a => lite a
  | .bop _ l => liteL l
  | .not a => lite a
  | .ite c a b => lite c && lite a && lite b
  | .list l => liteL l
  | .idx a i => lite a && lite i
  | _ => false
def liteL : TL → Bool
  | .nil => true
  | .cons a l => lite a && liteL l
end
/-- the names that are only ever bound to [] and appended to -/
def plN : List PySem.Str := ["gains", "losses"].map PySem.Str.ofString
def isPl (tab : List PySem.Str) (i : Nat) : Bool := match tab[i]? with
  | some x => plN.contains x
  | none => false
def nil1 : T → Bool
  | .list .nil => true
  | e => !e.fresh
def nilOnly : TL → Bool
  | .nil => true
  | .cons e l => nil1 e && nilOnly l
section
variable (tab fnm : List PySem.Str) (xs : Bool)

def chkNs : List Nat → Scope → List PySem.Expr → Bool
  | [], _, [] => true
  | i :: r, sc, .Name x _ :: es => tab[i]? == some x && isW sc x && chkNs r sc es
  | _, _, _ => false
def swNone (ts : List PySem.Expr) (value : PySem.Expr) : Bool := !isTuple value || ts.any fun t => !isName t

mutual
def chkS : TS → Scope → PySem.Stmt → Bool
  | .dead, _, _ => true
  | .asg (.v i) e, sc, .Assign [.Name x p] value _ => chkP tab (.v i) sc (.Name x p) && chk tab fnm e sc value
  | .asg (.tup ps) e, sc, .Assign [.Tuple ts _ _] value _ => !calmT tab && chkPL tab ps sc ts && chk tab fnm e sc value && swNone ts value
  | .own1 i e, sc, .Assign [.Name x _] value _ => tab[i]? == some x && isW sc x && chk tab fnm e sc value && !isPl tab i
  | .ownN is es, sc, .Assign [.Tuple ts _ _] (.Tuple vs _ _) _ => !calmT tab && chkNs tab is sc ts && decide is.Nodup && decide (is.length ≤ LB) && chkL tab fnm es sc vs && !(vs.all (constantsAlone 8)) && (nilOnly es || !(is.any (isPl tab)))
  | .aug i o e, sc, .AugAssign (.Name x _) .Add value _ => tab[i]? == some x && isW sc x && x != clsdN && (match o with | .add => true | _ => false) && chk tab fnm e sc value
  | .setI x i e, sc, .Assign [.Subscript o idx _] value _ => chk tab fnm (.v x) sc o && chk tab fnm i sc idx && chk tab fnm e sc value && !isSlice idx && !isPl tab x
  | .augI x i e, sc, .AugAssign (.Subscript o idx _) .Add value _ => chk tab fnm (.v x) sc o && chk tab fnm i sc idx && chk tab fnm e sc value && !isSlice idx && !isPl tab x
  | .app x e, sc, .Expr (.Call (.Attribute (.Name y q) m ap) [e'] [] cp) _ => m == PySem.Str.ofString "append" && isPl tab x && chk tab fnm (.v x) sc (.Name y q) && isW sc y && chk tab fnm e sc e' && lite e && !isStar e' && ap.endLine == cp.line
  | .ite c a b, sc, .If t x y _ => chk tab fnm c sc t && chkSL a sc x && chkSL b sc y
  | .loop p s b, sc, .For target iter body [] _ => chkP tab p sc target && chkSr tab fnm s sc target iter && chkSL b sc body
  | .loopB p x b, sc, .For target iter body [] _ => chkP tab p sc target && (isName target || isTuple target) && chk tab fnm (.v x) sc iter && chkSL b sc body
  | .whil _ c b, sc, .While t body [] _ => chk tab fnm c sc t && chkSL b sc body
  | .ret e, sc, .Return (some e') _ => chk tab fnm e sc e'
  | .retO x, sc, .Return (some e') _ => chk tab fnm (.v x) sc e'
  | .retC f l, sc, .Return (some e') _ => xs && !calmT tab && chk tab fnm (.call f l) sc e'
  | .cont, _, .Continue _ => true
  | .raise, sc, .Raise (some (.Call (.Name x _) [.Constant (.str _) _ _] [] _)) none _ => xs && !calmT tab && x == tiesN && isG sc x
  | .try (.cons (.retC f l) .nil) (.cons (.ret e) .nil), sc, .Try [.Return (some e') _] [.ExceptHandler (some (.Name x _)) none [.Return (some e'') _] _] [] [] _ => xs && !calmT tab && x == tiesN && isG sc x && chk tab fnm (.call f l) sc e' && lite e && chk tab fnm e sc e''
  | .try (.cons (.retC f l) .nil) (.cons (.asg (.v i) (.call g l')) .nil), sc, .Try [.Return (some e') _] [.ExceptHandler (some (.Name x _)) none [.Assign [.Name y py] e'' _] _] [] [] _ => xs && !calmT tab && x == tiesN && isG sc x && chk tab fnm (.call f l) sc e' && calmI g && liteL l' && chk tab fnm (.call g l') sc e'' && chkP tab (.v i) sc (.Name y py)
  | _, _, _ => false
def chkSL : SL → Scope → List PySem.Stmt → Bool
  | .nil, _, [] => true
  | .cons s l, sc, e :: es => chkS s sc e && chkSL l sc es
  | _, _, _ => false
end
end

/-- a is no owned list's address among the names that may change -/
def NotM (own mu : Nat → Bool) (σ : Sg) (vals : Nat → Value) (a : Addr) : Prop := ∀ j, own j = true → mu j = true → (σ j).isSome = true → vals j ≠ .ref a
theorem NotO.notM {own mu : Nat → Bool} {σ : Sg} {vals : Nat → Value} {a : Addr} (n : NotO own σ vals a) : NotM own mu σ vals a := fun j o _ s => n j o s

/-- an object without a dict -/
def Plain (h : Heap) (a : Addr) : Prop := ∃ o, h.get? a = some o ∧ o.dict = none ∧ (∀ es k, o.data ≠ .dict es k) ∧ ∀ u, o.data ≠ .cell u
def PlOk (own : Nat → Bool) (tab : List PySem.Str) (σ : Sg) (vals : Nat → Value) (h : Heap) : Prop := ∀ i a, own i = true → isPl tab i = true → (σ i).isSome = true → vals i = .ref a → Plain h a
theorem Plain.ext {h h' : Heap} {a : Addr} (x : Plain h a) (e : Ext h h') : Plain h' a := by
  obtain ⟨o, q, r⟩ := x
  obtain ⟨sl, q'⟩ := e a o q
  exact ⟨_, q', r⟩
theorem Plain.kq {h h' : Heap} {a : Addr} (x : Plain h a) (e : Kq [] h h') : Plain h' a := by
  obtain ⟨o, q, d, n1, n2⟩ := x
  exact ⟨o, e a o q n1 n2 (by simp), d, n1, n2⟩
theorem PlOk.ext {own : Nat → Bool} {tab : List PySem.Str} {σ : Sg} {vals : Nat → Value} {h h' : Heap} (p : PlOk own tab σ vals h) (e : Ext h h') : PlOk own tab σ vals h' := fun i a o q s v => (p i a o q s v).ext e
theorem PlOk.kq {own : Nat → Bool} {tab : List PySem.Str} {σ : Sg} {vals : Nat → Value} {h h' : Heap} (p : PlOk own tab σ vals h) (e : Kq [] h h') : PlOk own tab σ vals h' := fun i a o q s v => (p i a o q s v).kq e
theorem PlOk.ag {own : Nat → Bool} {tab : List PySem.Str} {l : List Nat} {σ σ' : Sg} {vals vals' : Nat → Value} {h : Heap} (p : PlOk own tab σ vals h) (x : Ag own l σ σ' vals vals') : PlOk own tab σ' vals' h := fun i a o q s v => by
  obtain ⟨e1, e2⟩ := x.ow i o
  rw [e1] at s; rw [e2] at v
  exact p i a o q s v
theorem PlOk.upd {own : Nat → Bool} {tab : List PySem.Str} {σ : Sg} {vals : Nat → Value} {h : Heap} {i : Nat} {d : D} {v : Value} (p : PlOk own tab σ vals h) (n : own i = false ∨ isPl tab i = false) : PlOk own tab (upd σ i d) (updv vals i v) h := fun j a o q s e => by
  by_cases hj : j = i
  · subst hj
    rcases n with n | n
    · rw [n] at o; cases o
    · rw [n] at q; cases q
  · rw [upd_ne _ _ hj] at s; rw [updv_ne _ _ hj] at e
    exact p j a o q s e

structure StI (C : Cx) (S : Addr → Prop) (sc : Scope) (env : Env) (σ : Sg) (vals : Nat → Value) (h : Heap) : Prop where
  V : StV (C.w S) sc C.g₀ env σ vals h
  ex : Exact C.P C.g₀ h
  pl : PlOk C.own C.tab σ vals h

structure Ks (own mu : Nat → Bool) (σ : Sg) (vals : Nat → Value) (h : Heap) (σ' : Sg) (vals' : Nat → Value) (h' : Heap) : Prop where
  big : ∀ b o, h.get? b = some o → (∀ es k, o.data ≠ .dict es k) → (∀ u, o.data ≠ .cell u) → NotM own mu σ vals b → h'.get? b = some o ∧ NotM own mu σ' vals' b
  fix : ∀ j, own j = true → mu j = false → σ' j = σ j ∧ vals' j = vals j
theorem Ks.refl {own mu : Nat → Bool} {σ : Sg} {vals : Nat → Value} {h : Heap} : Ks own mu σ vals h σ vals h := ⟨fun _ _ e _ _ n => ⟨e, n⟩, fun _ _ _ => ⟨rfl, rfl⟩⟩
theorem Ks.trans {own mu : Nat → Bool} {σ σ' σ'' : Sg} {vals vals' vals'' : Nat → Value} {h h' h'' : Heap} (x : Ks own mu σ vals h σ' vals' h') (y : Ks own mu σ' vals' h' σ'' vals'' h'') : Ks own mu σ vals h σ'' vals'' h'' :=
  ⟨fun b o e n1 n2 n => let ⟨e', n'⟩ := x.big b o e n1 n2 n; y.big b o e' n1 n2 n', fun j o m => let ⟨a, b⟩ := x.fix j o m; let ⟨c, d⟩ := y.fix j o m; ⟨c.trans a, d.trans b⟩⟩
theorem Ks.kq {own mu : Nat → Bool} {σ : Sg} {vals : Nat → Value} {h h' : Heap} (x : Kq [] h h') : Ks own mu σ vals h σ vals h' := ⟨fun b o e n1 n2 n => ⟨x b o e n1 n2 (by simp), n⟩, fun _ _ _ => ⟨rfl, rfl⟩⟩
theorem Ag.notM {own mu : Nat → Bool} {l : List Nat} {σ σ' : Sg} {vals vals' : Nat → Value} (a : Ag own l σ σ' vals vals') {ad : Addr} (n : NotM own mu σ vals ad) : NotM own mu σ' vals' ad := fun j o m s => by
  obtain ⟨e1, e2⟩ := a.ow j o; rw [e1] at s; rw [e2]; exact n j o m s
theorem Ks.bind {own mu : Nat → Bool} {l : List Nat} {σ σ' : Sg} {vals vals' : Nat → Value} {h h' : Heap} (x : Kq [] h h') (a : Ag own l σ σ' vals vals') : Ks own mu σ vals h σ' vals' h' :=
  ⟨fun b o e n1 n2 n => ⟨x b o e n1 n2 (by simp), a.notM n⟩, fun j o _ => a.ow j o⟩

def EndOk (C : Cx) (h' : Heap) : Prop := Ext C.g₀ h' ∧ Exact C.P C.g₀ h' ∧ ∀ b o, C.base.get? b = some o → h'.get? b = some o
theorem StI.done {C : Cx} {S : Addr → Prop} {sc : Scope} {env : Env} {σ : Sg} {vals : Nat → Value} {h : Heap} (I : StI C S sc env σ vals h) : EndOk C h := ⟨I.V.ext, I.ex, I.V.stay⟩
theorem StI.le {C : Cx} {S : Addr → Prop} {sc : Scope} {env : Env} {σ : Sg} {vals : Nat → Value} {s s' : Shared} (I : StI C S sc env σ vals s.heap) (L : Le C.base C.P s s') : StI C S sc env σ vals s'.heap :=
  ⟨StV.Le (C := C.w S) I.V L, fun b o p e => L.exact b o p (I.ex b o p e), I.pl.ext L.ext⟩

/-- one state goes on from another -/
def Same (s s' : Shared) : Prop := ∃ h tk, s' = { s with heap := h, toks := tk }
theorem Same.refl (s : Shared) : Same s s := ⟨s.heap, s.toks, rfl⟩
theorem Same.trans {a b c : Shared} (x : Same a b) (y : Same b c) : Same a c := by
  obtain ⟨h, t, rfl⟩ := x
  obtain ⟨h', t', rfl⟩ := y
  exact ⟨h', t', rfl⟩
theorem Same.le {base : Heap} {P : Addr → Prop} {s s' : Shared} (L : Le base P s s') : Same s s' := by
  obtain ⟨h, t, rfl, _⟩ := L
  exact ⟨h, t, rfl⟩
/-- what the way on needs, for each outcome -/
def Pst (C : Cx) (S : Addr → Prop) (sc : Scope) (env : Env) (mu : Nat → Bool) (Xc : Value → Shared → Prop) (σ : Sg) (vals : Nat → Value) (s : Shared) (Q : Flow → Shared → Prop) (E : Value → Shared → Prop) : R → Prop
  | .nxt σ' => ∀ h' tk vals', StI C S sc env σ' vals' h' → Ks C.own mu σ vals s.heap σ' vals' h' → Q .next { s with heap := h', toks := tk }
  | .cnt σ' => ∀ h' tk vals', StI C S sc env σ' vals' h' → Ks C.own mu σ vals s.heap σ' vals' h' → Q .cont { s with heap := h', toks := tk }
  | .ret d => ∀ h' tk v, EndOk C h' → Rep h' (fun b => S b ∨ C.g₀.get? b = none) v d → Q (.ret v) { s with heap := h', toks := tk }
  | .ties => ∀ x s', Same s s' → Xc x s' → E x s'

section
variable (prog : Program) (w : World) (A : Around) (C : Cx) (fnm : List PySem.Str) (F : Fn) (fa : Nat → Addr) (xs : Bool) (sc : Scope) (env : Env) (Xc : Value → Shared → Prop)

def SoS (ts : TS) : Prop := ∀ {mu : Nat → Bool} {σ : Sg} {r : R} {S : Addr → Prop} {stmt : PySem.Stmt} {vals : Nat → Value} {s : Shared} {Q : Flow → Shared → Prop} {E : Value → Shared → Prop},
  evS C.own F mu ts σ = some r → chkS C.tab fnm xs ts sc stmt = true → StI C S sc env σ vals s.heap → Pst C S sc env mu Xc σ vals s Q E r → wpAny (model prog w) A (exec stmt env) Q E s
def SoSL (l : SL) : Prop := ∀ {mu : Nat → Bool} {σ : Sg} {r : R} {S : Addr → Prop} {stmts : List PySem.Stmt} {vals : Nat → Value} {s : Shared} {Q : Flow → Shared → Prop} {E : Value → Shared → Prop},
  evSL C.own F mu l σ = some r → chkSL C.tab fnm xs l sc stmts = true → StI C S sc env σ vals s.heap → Pst C S sc env mu Xc σ vals s Q E r → wpAny (model prog w) A (execs stmts env) Q E s

/-- what is asked of the exception that may fly -/
structure ExOk (Xh : Value → Shared → Prop) (Xf : Shared → Value → Shared → Prop) : Prop where
  callh : ∀ (ea : Addr) f ds d, calmI f = true → F f ds = some (.ok d) → ∀ (s : Shared) (vs : List Value) (S S' : Addr → Prop) (σ : Sg) (vals : Nat → Value), RepL s.heap S vs ds → (∀ a, s.heap.get? a = none → S a) → StI C S' sc env σ vals s.heap → Exc s.heap ea →
    ∀ (Q E : Value → Shared → Prop), (∀ v s', Le C.base C.P s s' → Rep s'.heap S v d → Q v s') → wpAny (model prog w) (A.mark (some (.ref ea))) (call (.ref (fa f)) vs) Q E s
  toXc : ∀ (s s' : Shared) (S' : Addr → Prop) (σ : Sg) (vals : Nat → Value) (x : Value), StI C S' sc env σ vals s.heap → Same s s' → Xf s x s' → Xc x s'
  note : ∀ x s Q E, Xc x s → (∀ s', Same s s' → Xh x s' → Q () s') → wpAny (model prog w) A (noteFrame x env) Q E s
  back : ∀ x s E, Xh x s → (∀ s', Same s s' → Xc x s' → E x s') → cameBackBy (model prog w) A env E x s
  callx : xs = true → calmT C.tab = false → ∀ f ds, F f ds = some (.error ()) → ∀ (s : Shared) (vs : List Value) (S S' : Addr → Prop) (σ : Sg) (vals : Nat → Value), RepL s.heap S vs ds → (∀ a, s.heap.get? a = none → S a) → StI C S' sc env σ vals s.heap →
    ∀ (Q E : Value → Shared → Prop), (∀ x s', Same s s' → Xf s x s' → E x s') → wpAny (model prog w) A (call (.ref (fa f)) vs) Q E s
  raise : xs = true → calmT C.tab = false → ∀ (np cpos pos : Pos) (msg : PySem.Str) (k : Nat) (q : Pos) (s : Shared) (S' : Addr → Prop) (σ : Sg) (vals : Nat → Value), isG sc tiesN = true → StI C S' sc env σ vals s.heap →
    ∀ (Q : Flow → Shared → Prop) (E : Value → Shared → Prop), (∀ x s', Same s s' → Xc x s' → E x s') → wpAny (model prog w) A (exec (.Raise (some (.Call (.Name tiesN np) [.Constant (.str msg) k q] [] cpos)) none pos) env) Q E s
  catch_ : xs = true → ∀ (np hp : Pos) (b₀ : PySem.Stmt) (suite : List PySem.Stmt) (s₀ s : Shared) (S' : Addr → Prop) (σ : Sg) (vals : Nat → Value) (x : Value), isG sc tiesN = true → StI C S' sc env σ vals s₀.heap → Same s₀ s → Xf s₀ x s →
    ∀ (Q : Flow → Shared → Prop) (E : Value → Shared → Prop), (∀ e s', Same s₀ s' → StI C S' sc env σ vals s'.heap → Ks C.own (fun _ => false) σ vals s₀.heap σ vals s'.heap → Exc s'.heap e → ∀ E', wpAny (model prog w) (A.mark (some (.ref e))) (execs (b₀ :: suite) env) Q E' s') →
      wpAny (model prog w) A (noteFrame x env) (fun _ s₂ => wpAny (model prog w) A (setFlight x none) (fun _ s₃ => wpAny (model prog w) A (handleBy x env [.ExceptHandler (some (.Name tiesN np)) none (b₀ :: suite) hp]) Q E s₃) E s₂) E s
end

mutual
theorem Rep.avoid {h : Heap} {S : Addr → Prop} {a : Addr} {n : Nat} (hd : ∀ S' d, Rep h S' (.ref a) d → n ≤ sizeOf d) : ∀ {v : Value} {d : D}, Rep h S v d → sizeOf d < n → Rep h (fun b => S b ∧ b ≠ a) v d
  | _, _, .non, _ => .non
  | _, _, .bool b, _ => .bool b
  | _, _, .int i t, _ => .int i t
  | _, _, .str s t, _ => .str s t
  | _, _, .list (a := b) hs hl hb hr, hn => .list ⟨hs, fun z => by subst z; have := hd S _ (.list hs hl hb hr); omega⟩ hl hb (RepL.avoid hd hr (by simp at hn; omega))
  | _, _, .tup (a := b) hs hl hb hr, hn => .tup ⟨hs, fun z => by subst z; have := hd S _ (.tup hs hl hb hr); omega⟩ hl hb (RepL.avoid hd hr (by simp at hn; omega))
theorem RepL.avoid {h : Heap} {S : Addr → Prop} {a : Addr} {n : Nat} (hd : ∀ S' d, Rep h S' (.ref a) d → n ≤ sizeOf d) : ∀ {vs : List Value} {ds : List D}, RepL h S vs ds → sizeOf ds < n → RepL h (fun b => S b ∧ b ≠ a) vs ds
  | _, _, .nil, _ => .nil
  | _, _, .cons hv hr, hn => .cons (Rep.avoid hd hv (by simp at hn; omega)) (RepL.avoid hd hr (by simp at hn; omega))
end
/-- a list is none of its own items -/
theorem Rep.items_avoid {h : Heap} {S : Addr → Prop} {a : Addr} {ds : List D} (r : Rep h S (.ref a) (.list ds)) : ∃ vs, h.IsList a vs.toArray ∧ RepL h (fun b => S b ∧ b ≠ a) vs ds ∧ ds.length ≤ LB := by
  obtain ⟨b, vs, e, hs, hl, hz, hr⟩ := r.list_inv
  cases e
  exact ⟨vs, hl, hr.avoid (n := sizeOf (D.list ds)) (fun S' d r' => by rw [Rep.uniq r' r]; exact Nat.le_refl _) (by simp), hz⟩

section
variable {C : Cx} {sc : Scope} {h₀ h h' : Heap} {env : Env} {σ : Sg} {vals : Nat → Value}
/-- the namespace of a comprehension that has gone -/
theorem StV.chgD (V : StV C sc h₀ env σ vals h) {cl : Addr} {m : PySem.Str → Option Value} (hn : h.Ns cl m) (hl : cl ≠ env.locals) (hp : ¬ C.P cl) (h0 : h₀.get? cl = none) (hS : C.S cl) (hs : Heap.SameBut cl h h') : StV C sc h₀ env σ vals h' := by
  obtain ⟨o, es, ep, q, dd, _⟩ := hn
  have on : On h h' (Sx C σ vals) (Sx C σ vals) := fun a ha o' ho ⟨xs, n, hd⟩ => ⟨ha, o'.slots, (hs.2 a fun z => by rw [z, q] at ho; cases ho; rw [dd] at hd; cases hd).trans ho⟩
  have ic : ∀ c v, h.IsCell c v → h'.IsCell c v := fun c v n => n.sameBut hs fun z => by obtain ⟨o', q', d'⟩ := n; rw [z, q] at q'; cases q'; rw [dd] at d'; cases d'
  refine ⟨⟨V.fr.kind, V.fr.glob, V.fr.bi, let ⟨m, n⟩ := V.fr.ns; ⟨m, n.sameBut hs (Ne.symm hl)⟩, V.fr.newL, V.fr.kL, V.fr.kC, V.fr.kF, V.fr.kG, fun x c hc => let ⟨v, n⟩ := V.fr.cell x c hc; ⟨v, ic c v n⟩, V.fr.inj⟩,
    V.g, fun b o e => ?_, fun b o e => ?_, fun a n => ?_, V.bg, fun a p => ?_, V.bP, V.nodup, fun i d x a b c => ?_, fun i d a b => (V.rep i d a b).on on, fun i d a b => ?_, V.dist⟩
  · obtain ⟨sl, w⟩ := V.ext b o e
    exact ⟨sl, (hs.2 b fun z => by rw [z, h0] at e; cases e).trans w⟩
  · exact (hs.2 b fun z => V.bg b o e (V.g.none (z ▸ h0))).trans (V.stay b o e)
  · by_cases z : a = cl
    · rw [z]; exact hS
    · exact V.newS a ((hs.2 a z).symm.trans n)
  · obtain ⟨o, es, n, q, d⟩ := V.pf a p
    exact ⟨o, es, n, (hs.2 a fun z => hp (z ▸ p)).trans q, d⟩
  · rcases V.val i d x a b c with ⟨q1, m, q2, q3⟩ | ⟨q1, c', q2, q3⟩
    · exact .inl ⟨q1, m, q2.sameBut hs (Ne.symm hl), q3⟩
    · exact .inr ⟨q1, c', q2, ic c' _ q3⟩
  · obtain ⟨ad, ds, vs, q1, q2, ⟨o', g1, g2, n, g3⟩, q4, q5⟩ := V.owned i d a b
    exact ⟨ad, ds, vs, q1, q2, ⟨o', (hs.2 ad fun z => by rw [z, q] at g1; cases g1; rw [dd] at g3; cases g3).trans g1, g2, n, g3⟩, q4.on on, q5⟩

/-- an owned list takes other items -/
theorem StV.ownChg (V : StV C sc C.g₀ env σ vals h) {x : Nat} {a : Addr} {d0 : D} {vs' : List Value} {ds' : List D} (ho : C.own x = true) (hx : σ x = some d0) (hv : vals x = .ref a) (hl : h'.IsList a vs'.toArray) (hs : Heap.SameBut a h h')
    (hr : RepL h (Sx C σ vals) vs' ds') (hz : ds'.length ≤ LB) : StV C sc C.g₀ env (upd σ x (.list ds')) vals h' := by
  obtain ⟨a', ds, vs, _, e2, ⟨o, q, c, n, d⟩, _, _, hg⟩ := V.owned x d0 hx ho
  rw [hv] at e2
  obtain rfl : a = a' := by injection e2
  have nO : ∀ b, NotO C.own σ vals b → NotO C.own (upd σ x (.list ds')) vals b := fun b n j o s => by
    by_cases hj : j = x
    · subst hj; exact n j o (by rw [hx]; rfl)
    · rw [upd_ne _ _ hj] at s; exact n j o s
  have on : On h h' (Sx C σ vals) (Sx C (upd σ x (.list ds')) vals) := fun b hb o' ho' _ => ⟨⟨hb.1, nO b hb.2⟩, o'.slots, (hs.2 b fun z => hb.2 x ho (by rw [hx]; rfl) (z ▸ hv)).trans ho'⟩
  have ic : ∀ c v, h.IsCell c v → h'.IsCell c v := fun c v n => n.sameBut hs fun z => by obtain ⟨o', q', d'⟩ := n; rw [z, q] at q'; cases q'; rw [d] at d'; cases d'
  have hne : a ≠ env.locals := fun z => by obtain ⟨m, o', es, ep, q', d', _⟩ := V.fr.ns; rw [← z, q] at q'; cases q'; rw [d] at d'; cases d'
  refine ⟨⟨V.fr.kind, V.fr.glob, V.fr.bi, let ⟨m, n⟩ := V.fr.ns; ⟨m, n.sameBut hs (Ne.symm hne)⟩, V.fr.newL, V.fr.kL, V.fr.kC, V.fr.kF, V.fr.kG, fun x c hc => let ⟨v, n⟩ := V.fr.cell x c hc; ⟨v, ic c v n⟩, V.fr.inj⟩,
    V.g, fun b o e => ?_, fun b o e => ?_, fun b nb => ?_, V.bg, fun b p => ?_, V.bP, V.nodup, fun i di y hi b c => ?_, fun i di hi b => ?_, fun i di hi b => ?_, fun i j b oi oj si sj ei ej => ?_⟩
  · obtain ⟨sl, w⟩ := V.ext b o e
    exact ⟨sl, (hs.2 b fun z => by rw [z, hg] at e; cases e).trans w⟩
  · exact (hs.2 b fun z => V.bg b o e (z ▸ hg)).trans (V.stay b o e)
  · refine V.newS b ((hs.2 b fun z => ?_).symm.trans nb)
    obtain ⟨o', q', _⟩ := hl
    rw [z, q'] at nb; cases nb
  · obtain ⟨o', es, n', q', d'⟩ := V.pf b p
    exact ⟨o', es, n', (hs.2 b fun z => by rw [z, q] at q'; cases q'; rw [d] at d'; cases d').trans q', d'⟩
  · have hv' : ValAt env h y (vals i) := by
      by_cases hj : i = x
      · subst hj; exact V.val i d0 y hx b c
      · rw [upd_ne _ _ hj] at hi; exact V.val i di y hi b c
    rcases hv' with ⟨q1, m, q2, q3⟩ | ⟨q1, c', q2, q3⟩
    · exact .inl ⟨q1, m, q2.sameBut hs (Ne.symm hne), q3⟩
    · exact .inr ⟨q1, c', q2, ic c' _ q3⟩
  · have hj : i ≠ x := fun z => by subst z; rw [ho] at b; cases b
    rw [upd_ne _ _ hj] at hi
    exact (V.rep i di hi b).on on
  · by_cases hj : i = x
    · subst hj
      rw [upd_same] at hi; cases hi
      exact ⟨a, ds', vs', rfl, hv, hl, hr.on on, hz, hg⟩
    · rw [upd_ne _ _ hj] at hi
      obtain ⟨ad, es, ws, q1, q2, ⟨o', g1, g2⟩, q4, q5⟩ := V.owned i di hi b
      refine ⟨ad, es, ws, q1, q2, ⟨o', (hs.2 ad fun z => hj ?_).trans g1, g2⟩, q4.on on, q5⟩
      exact V.dist i x a b ho (by rw [hi]; rfl) (by rw [hx]; rfl) (z ▸ q2) hv
  · have up : ∀ k, ((upd σ x (.list ds')) k).isSome = true → (σ k).isSome = true := fun k s => by
      by_cases hk : k = x
      · subst hk; rw [hx]; rfl
      · rwa [upd_ne _ _ hk] at s
    exact V.dist i j b oi oj (up i si) (up j sj) ei ej
end
end Mine
end

section
open PySem PySem.W PyProof.Rows PySem.SeqAt PySem.MeetsSeq PySem.MeetsSeq2 PySem.MeetsSeq3
set_option maxRecDepth 100000
namespace Mine

/-! ## 21. Plain statements -/
section
variable {prog : Program} {w : World} {A : Around} {C : Cx} {fnm : List PySem.Str} {F : Fn} {fa : Nat → Addr} {mg mb : PySem.Str → Option Value} {xs : Bool} {sc : Scope} {env : Env} {Xc : Value → Shared → Prop}

theorem Pst.step {S : Addr → Prop} {mu : Nat → Bool} {σ σ₁ : Sg} {vals vals₁ : Nat → Value} {s s₁ : Shared} {Q : Flow → Shared → Prop} {E : Value → Shared → Prop} {r : R} (hs : ∃ h1 tk1, s₁ = { s with heap := h1, toks := tk1 }) (ks : Ks C.own mu σ vals s.heap σ₁ vals₁ s₁.heap)
    (hP : Pst C S sc env mu Xc σ vals s Q E r) : Pst C S sc env mu Xc σ₁ vals₁ s₁ Q E r := by
  obtain ⟨h1, tk1, rfl⟩ := hs
  cases r with
  | nxt σ' => exact fun h' tk vals' I' k => hP h' tk vals' I' (ks.trans k)
  | cnt σ' => exact fun h' tk vals' I' k => hP h' tk vals' I' (ks.trans k)
  | ret d => exact fun h' tk v e r => hP h' tk v e r
  | ties => exact fun x s' hs hx => hP x s' (Same.trans ⟨h1, tk1, rfl⟩ hs) hx
theorem Pst.le {S : Addr → Prop} {mu : Nat → Bool} {σ : Sg} {vals : Nat → Value} {s s₁ : Shared} {Q : Flow → Shared → Prop} {E : Value → Shared → Prop} {r : R} (I : StI C S sc env σ vals s.heap) (L : Le C.base C.P s s₁)
    (hP : Pst C S sc env mu Xc σ vals s Q E r) : Pst C S sc env mu Xc σ vals s₁ Q E r :=
  hP.step (by obtain ⟨h1, tk1, rfl, _⟩ := L; exact ⟨h1, tk1, rfl⟩) (.kq (Kq.le (C := C.w S) I.V L []))

theorem swaps_cases {t : T} {value : PySem.Expr} {tab : List PySem.Str} {sc' : Scope} {x : PySem.Str} {p : Pos} {line : Nat} (hc : chk tab fnm t sc' value = true) :
    swapsWith value (some (.Name x p)) line env = pure false ∨ (∃ elt gens isc q, value = .ListComp elt gens isc q ∧ swapsWith value (some (.Name x p)) line env = pure true) := by
  cases value with
  | ListComp elt gens isc q =>
    cases h : (env.blockKind == .function && env.kindOf x == some .local && p.line == (PySem.Expr.ListComp elt gens isc q).pos.line && !(isc.names.any fun (n, k) => n == x && (k == .local || k == .cell))) with
    | false => left; show pure _ = _; rw [h]
    | true => right; exact ⟨elt, gens, isc, q, rfl, by show pure _ = _; rw [h]⟩
  | SetComp => unfold chk at hc; split at hc <;> first | cases hc | (rename_i hh; cases hh)
  | DictComp => unfold chk at hc; split at hc <;> first | cases hc | (rename_i hh; cases hh)
  | _ => left; rfl

theorem chk_comp {t : T} {tab : List PySem.Str} {sc' : Scope} {elt : PySem.Expr} {gens : List Comprehension} {isc : Scope} {q : Pos} (hc : chk tab fnm t sc' (.ListComp elt gens isc q) = true) : ∃ u g, t = .comp u g := by
  cases t with
  | comp u g => exact ⟨_, _, rfl⟩
  | _ => simp [chk] at hc

/-- x = e, the way of storing given -/
theorem asg_one (hA : AOk A C) (G : Gl C fnm fa mg mb) (K : CallOk prog w A C fa F) {S : Addr → Prop} {σ σ' : Sg} {vals : Nat → Value} {s : Shared} {Q : Flow → Shared → Prop} {E : Value → Shared → Prop} {i : Nat} {x : PySem.Str} {pos' pos : Pos} {value : PySem.Expr} {e : T} {d : D}
    (he : ev C.own F false e σ = some d) (hc : chk C.tab fnm e sc value = true) (I : StI C S sc env σ vals s.heap)
    (hpl : ∀ v h', PlOk C.own C.tab σ vals h' → PlOk C.own C.tab σ' (updv vals i v) h')
    (hst : ∀ v s₁, Le C.base C.P s s₁ → Rep s₁.heap (Sx (C.w S) σ vals) v d → (e.fresh = true → ∀ a, v = .ref a → s.heap.get? a = none) → ∀ {Q2 : Unit → Shared → Prop},
      (∀ h' tk, StV (C.w S) sc C.g₀ env σ' (updv vals i v) h' → (∀ b o, s₁.heap.get? b = some o → b ≠ env.locals → (∀ u, o.data ≠ .cell u) → h'.get? b = some o) → (∀ b, C.g₀.get? b ≠ none → h'.get? b = s₁.heap.get? b) →
        Q2 () { s₁ with heap := h', toks := tk }) → wpAny (model prog w) A (storeName env x v) Q2 E s₁)
    (hQ : ∀ h' tk v, StI C S sc env σ' (updv vals i v) h' → Kq [] s.heap h' → (∀ a, v = .ref a → e.fresh = true → s.heap.get? a = none) → Q .next { s with heap := h', toks := tk }) :
    wpAny (model prog w) A (exec (.Assign [.Name x pos'] value pos) env) Q E s := by
  rcases swaps_cases (env := env) (x := x) (p := pos') (line := pos.line) hc with hs | ⟨elt, gens, isc, q, rfl, hs⟩
  · refine wpAny_Assign_Name ?_ hs
    refine (all_T hA G K e S).1 he hc I.V fun v s₁ L₁ r fr => hst v s₁ L₁ r.plain fr fun h' tk V' k1 k2 => ?_
    have kq : Kq [] s.heap h' := (Kq.le (C := C.w S) I.V L₁ _).trans fun b o e n1 n2 _ => k1 b o e (fun z => by
      have I₁ := I.le L₁
      obtain ⟨m, o', es, ep, q, d, _⟩ := I₁.V.fr.ns
      rw [← z, e] at q; cases q; exact n1 _ _ d) n2
    have ex : Exact C.P C.g₀ h' := fun b o p e => by rw [k2 b (by rw [e]; simp)]; exact L₁.exact b o p (I.ex b o p e)
    obtain ⟨h1, tk1, rfl, _⟩ := L₁
    exact hQ h' tk v ⟨V', ex, hpl _ _ (I.pl.kq kq)⟩ kq fun a e1 e2 => fr e2 a e1
  · obtain ⟨u, g, rfl⟩ := chk_comp hc
    cases g with
    | nil => simp [ev] at he
    | cons p sr c g' =>
      have kk := all_G hA G K (.cons p sr c g') S
      obtain ⟨elt', gens', isc', q', e', hw⟩ := comp_core (C := C.w S) (use := some (assign (.Name x pos') env)) (Q := fun _ s' => Q .next s') (E := E) (hA.at S) (fun S' => (all_T hA G K u S').1) kk.1.1 kk.1.2.1 kk.1.2.2 he hc I.V
        fun Dl cl m h' tk L hns hcl hr hd hDl => by
          refine wpAny_assign_Name (hst _ _ L hr (fun _ a e => by cases e; exact hDl) fun h2 tk2 V2 k1 k2 => ?_)
          have I₁ := I.le L
          have hlc : cl ≠ env.locals := fun z => by
            obtain ⟨m', o', es, ep, q, d, _⟩ := I.V.fr.ns
            rw [z, q] at hcl; cases hcl
          have hns2 : h2.Ns cl m := by
            obtain ⟨o, es, ep, q, d, r⟩ := hns
            exact ⟨o, es, ep, k1 cl o q hlc (fun u => by rw [d]; simp), d, r⟩
          refine ⟨m, hns2, fun h3 hs3 => ?_⟩
          have hgcl : C.g₀.get? cl = none := I.V.ext.none hcl
          have hPcl : ¬ C.P cl := I.V.offP_new hcl
          have V3 := V2.chgD hns2 hlc hPcl hgcl (I.V.newS cl hcl) hs3
          have kq : Kq [] s.heap h3 := (Kq.le (C := C.w S) I.V L _).trans fun b o e n1 n2 _ => by
            have e2 := k1 b o e (fun z => by
              obtain ⟨m', o', es, ep, q, d, _⟩ := I₁.V.fr.ns
              rw [← z, e] at q; cases q; exact n1 _ _ d) n2
            refine (hs3.2 b fun z => ?_).trans e2
            obtain ⟨o', es, ep, q, d, _⟩ := hns2
            rw [← z, e2] at q; cases q; exact n1 _ _ d
          have ex : Exact C.P C.g₀ h3 := fun b o p e => by
            rw [hs3.2 b (fun z => by rw [z, hgcl] at e; cases e), k2 b (by rw [e]; simp)]
            exact L.exact b o p (I.ex b o p e)
          exact hQ h3 tk2 (.ref Dl) ⟨V3, ex, hpl _ _ (I.pl.kq kq)⟩ kq fun a e1 _ => by cases e1; exact hDl
      cases e'
      rw [exec_Assign_Name_used _ _ _ _ hs]
      refine wpAny_bind (wpAny_standAt (wpAny_bind ?_))
      show wpAny _ A (do let _ ← comprehension (.ListComp elt gens isc q) isc env (firstIterPos gens q) (newList []) (firstAsync gens) (firstIter gens env) (some (assign (.Name x pos') env))) _ _ s
      exact wpAny_bind (wpAny_mono hw (fun _ s' hq => wpAny_pure (wpAny_pure hq)) fun _ _ e => e)

theorem ss_asgv (hA : AOk A C) (G : Gl C fnm fa mg mb) (K : CallOk prog w A C fa F) {i : Nat} {e : T} : SoS prog w A C fnm F xs sc env Xc (.asg (.v i) e) := by
  intro mu σ r S stmt vals s Q E he hc I hP
  unfold chkS at hc
  split at hc <;> try (first | (rename_i hh; cases hh; done) | (rename_i hh _; cases hh; done) | cases hc)
  rename_i hh
  cases hh
  simp only [chkP, Bool.and_eq_true, beq_iff_eq] at hc
  simp only [evS, Option.bind_eq_some_iff, Option.map_eq_some_iff, bindP] at he
  obtain ⟨d, hd, σ', hσ, rfl⟩ := he
  split at hσ
  · cases hσ
  · rename_i ho
    have ho : C.own i = false := by simpa using ho
    cases hσ
    refine asg_one hA G K (i := i) hd hc.2 I (fun v h' p => p.upd (.inl ho)) (fun v s₁ L₁ r _ Q2 hq => store_ok (C := C.w S) (StV.Le (C := C.w S) I.V L₁) hc.1.1 hc.1.2 ho r hq) fun h' tk v I' kq _ => hP h' tk _ I' (.bind (l := [i]) kq ⟨fun j n => ?_, fun j oj => ?_⟩)
    · have : j ≠ i := fun z => n (by simp [z])
      exact ⟨upd_ne _ _ this, updv_ne _ _ this⟩
    · have : j ≠ i := fun z => by rw [z, ho] at oj; cases oj
      exact ⟨upd_ne _ _ this, updv_ne _ _ this⟩

theorem ss_own1 (hA : AOk A C) (G : Gl C fnm fa mg mb) (K : CallOk prog w A C fa F) {i : Nat} {e : T} : SoS prog w A C fnm F xs sc env Xc (.own1 i e) := by
  intro mu σ r S stmt vals s Q E he hc I hP
  unfold chkS at hc
  split at hc <;> try (first | (rename_i hh; cases hh; done) | (rename_i hh _; cases hh; done) | cases hc)
  rename_i hh
  cases hh
  simp only [Bool.and_eq_true, beq_iff_eq, Bool.not_eq_true'] at hc
  obtain ⟨hc, hnp⟩ := hc
  simp only [evS] at he
  have hg : (C.own i && mu i && e.fresh) = true := by
    by_cases hg : (C.own i && mu i && e.fresh) = true
    · exact hg
    · rw [if_neg hg] at he; cases he
  rw [if_pos hg] at he
  simp only [Option.bind_eq_some_iff, Option.map_eq_some_iff] at he
  obtain ⟨d, hd, ds, hds, rfl⟩ := he
  obtain rfl := listD_some hds
  simp only [Bool.and_eq_true] at hg
  obtain ⟨⟨ho, hm⟩, hf⟩ := hg
  refine asg_one hA G K (i := i) hd hc.2 I (fun v h' p => p.upd (.inr hnp)) (fun v s₁ L₁ r fr Q2 hq => ?_) fun h' tk v I' kq hfr => hP h' tk _ I' ⟨fun b o e n1 n2 n => ⟨kq b o e n1 n2 (by simp), fun j oj mj sj ej => ?_⟩, fun j oj mj => ?_⟩
  · obtain ⟨a, _, rfl, _, _, _, _⟩ := r.list_inv
    have hn := fr hf a rfl
    obtain ⟨vs, hl, hr', hz⟩ := r.items_avoid
    have V₂ := I.V.shun (StV.Le (C := C.w S) I.V L₁) L₁.ext [a] (fun b m => by obtain rfl := List.mem_singleton.mp m; exact hn) (fun b m => by
      obtain rfl := List.mem_singleton.mp m
      obtain ⟨o, q, _⟩ := hl; rw [q]; simp)
    refine store_any (C := C.w fun b => S b ∧ b ∉ [a]) V₂ hc.1.1 hc.1.2 (.inr ⟨ho, a, ds, vs, rfl, rfl, fun z => z.2 (by simp), (I.V.new hn).2, hl, hr'.mono fun b z => ⟨⟨z.1.1, by simpa using z.2⟩, z.1.2⟩, hz, I.V.ext.none hn⟩) fun h' tk V' k1 k2 => hq h' tk (V'.wide fun _ z => z.1) k1 k2
  · by_cases hj : j = i
    · subst hj
      rw [updv_same] at ej
      have := hfr b ej hf
      rw [e] at this; cases this
    · rw [upd_ne _ _ hj] at sj; rw [updv_ne _ _ hj] at ej
      exact n j oj mj sj ej
  · have hj : j ≠ i := fun z => by subst z; rw [hm] at mj; cases mj
    exact ⟨upd_ne _ _ hj, updv_ne _ _ hj⟩

theorem ss_aug (hA : AOk A C) (G : Gl C fnm fa mg mb) (K : CallOk prog w A C fa F) {i : Nat} {o : Op2} {e : T} : SoS prog w A C fnm F xs sc env Xc (.aug i o e) := by
  intro mu σ r S stmt vals s Q E he hc I hP
  unfold chkS at hc
  split at hc <;> try (first | (rename_i hh; cases hh; done) | (rename_i hh _; cases hh; done) | cases hc)
  rename_i hh
  cases hh
  simp only [Bool.and_eq_true, beq_iff_eq] at hc
  obtain ⟨⟨⟨⟨h1, h2⟩, h3⟩, h4⟩, h5⟩ := hc
  have h4 : o = .add := by cases o <;> first | rfl | cases h4
  subst h4
  simp only [evS] at he
  by_cases ho : C.own i = true
  · rw [if_pos ho] at he; cases he
  rw [if_neg ho] at he
  have ho : C.own i = false := by simpa using ho
  simp only [Option.bind_eq_some_iff, Option.map_eq_some_iff, op2D] at he
  obtain ⟨a, ha, a', ha', b, hb, b', hb', d, hd, rfl⟩ := he
  obtain rfl := intD_some ha'
  obtain rfl := intD_some hb'
  cases hd
  refine wpAny_AugAssign_Name (load_ok I.V.fr (I.V.val i _ _ ha h1 (isW_isV h2)) (ne_beq h3) ?_)
  refine (all_T hA G K e S).1 hb h5 I.V fun v s₁ L₁ r _ => ?_
  obtain ⟨t, q⟩ := (I.V.rep i _ ha ho).int_inv
  obtain ⟨t', rfl⟩ := r.plain.int_inv
  rw [q]
  refine PySem.P.iadd_int ?_
  have L₂ := L₁.trans (Le.tok C.base C.P s₁ (s₁.toks + 1))
  refine store_ok (C := C.w S) (StV.Le (C := C.w S) I.V L₂) h1 h2 ho (.int _ _) fun h' tk V' k1 k2 => ?_
  have kq : Kq [] s.heap h' := (Kq.le (C := C.w S) I.V L₁ _).trans fun b o e n1 n2 _ => k1 b o e (fun z => by
      have I₁ := I.le L₁
      obtain ⟨m, o', es, ep, q, d, _⟩ := I₁.V.fr.ns
      rw [← z, e] at q; cases q; exact n1 _ _ d) n2
  have ex : Exact C.P C.g₀ h' := fun b o p e => by rw [k2 b (by rw [e]; simp)]; exact L₁.exact b o p (I.ex b o p e)
  obtain ⟨h1', tk1, rfl, _⟩ := L₁
  refine hP h' tk _ ⟨V', ex, (I.pl.kq kq).upd (.inl ho)⟩ (.bind (l := [i]) kq ⟨fun j n => ?_, fun j oj => ?_⟩)
  · have : j ≠ i := fun z => n (by simp [z])
    exact ⟨upd_ne _ _ this, updv_ne _ _ this⟩
  · have : j ≠ i := fun z => by rw [z, ho] at oj; cases oj
    exact ⟨upd_ne _ _ this, updv_ne _ _ this⟩

theorem placeN_some {n : Nat} {k : Int} {j : Nat} (h : placeN n k = some j) : 0 ≤ k ∧ k.toNat < n ∧ j = k.toNat := by
  unfold placeN at h
  split at h
  · rename_i hk; cases h; exact ⟨hk.1, hk.2, rfl⟩
  · cases h
theorem augStore_plain {i : PySem.Expr} (h : isSlice i = false) (ov iv new : Value) : augStore i ov iv new = (do holding [new, ov, iv] (setItem ov iv new); release [new, ov, iv] []; pure .next) := by
  cases i <;> first | rfl | (simp [isSlice] at h)
theorem swaps_sub {o i value : PySem.Expr} {p : Pos} {line : Nat} : swapsWith value (some (.Subscript o i p)) line env = pure false := by
  cases value <;> rfl

/-- the owned list of name x -/
theorem own_list {S : Addr → Prop} {σ : Sg} {vals : Nat → Value} {h : Heap} (V : StV (C.w S) sc C.g₀ env σ vals h) {x : Nat} {xs : List D} (ho : C.own x = true) (hx : σ x = some (.list xs)) :
    ∃ a vs, vals x = .ref a ∧ h.IsList a vs.toArray ∧ RepL h (Sx (C.w S) σ vals) vs xs ∧ xs.length ≤ LB := by
  obtain ⟨a, ds, vs, e1, e2, h1, h2, h3, _⟩ := V.owned x _ hx ho
  cases e1
  exact ⟨a, vs, e2, h1, h2, h3⟩
theorem so_own {t : Nat} {S : Addr → Prop} {σ : Sg} {vals : Nat → Value} {s : Shared} {e : PySem.Expr} {d : D} {Q E : Value → Shared → Prop} (I : StI C S sc env σ vals s.heap) (hx : σ t = some d) (hc : chk C.tab fnm (.v t) sc e = true)
    (h : Q (vals t) s) : wpAny (model prog w) A (eval e env) Q E s := by
  cases e with
  | Name x pos =>
    simp only [chk, Bool.and_eq_true, beq_iff_eq] at hc
    obtain ⟨⟨⟨h1, h2⟩, h3⟩, h4⟩ := hc
    exact wpAny_Name (load_ok I.V.fr (I.V.val t d x hx h1 h2) (ne_beq h4) h) (ne_beq h3)
  | _ => simp [chk] at hc

theorem setItem_list_ok {S : Addr → Prop} {σ : Sg} {vals : Nat → Value} {s : Shared} {mu : Nat → Bool} {x : Nat} {l : List D} {k : Int} {t : Tok} {j : Nat} {v : Value} {d : D} {Q : Unit → Shared → Prop} {E : Value → Shared → Prop}
    (I : StI C S sc env σ vals s.heap) (hnp : isPl C.tab x = false) (ho : C.own x = true) (hm : mu x = true) (hx : σ x = some (.list l)) (hj : placeN l.length k = some j) (hv : Rep s.heap (Sx (C.w S) σ vals) v d)
    (hQ : ∀ h', StI C S sc env (upd σ x (.list (l.set j d))) vals h' → Ks C.own mu σ vals s.heap (upd σ x (.list (l.set j d))) vals h' → Q () { s with heap := h' }) :
    wpAny (model prog w) A (setItem (vals x) (.int k t) v) Q E s := by
  obtain ⟨a, vs, e, hl, hr, hz⟩ := own_list I.V ho hx
  rw [e]
  obtain ⟨hk1, hk2, rfl⟩ := placeN_some hj
  have hk := And.intro hk1 hk2
  have hz' : (l.length : Int) ≤ 1000 := by have : l.length ≤ 1000 := hz; omega
  have hlen := hr.length
  refine wpAny_setItem_list hl hk.1 (by omega) (by simp; omega) fun h' hl' hs => ?_
  have e2 : vs.toArray.setIfInBounds k.toNat v = (vs.set k.toNat v).toArray := by simp
  rw [e2] at hl'
  have V' := StV.ownChg (C := C.w S) I.V ho hx e hl' hs (hr.set hv k.toNat) (by simpa using hz)
  obtain ⟨a', _, _, _, e3, _, _, _, hg⟩ := I.V.owned x _ hx ho
  rw [e] at e3
  obtain rfl : a = a' := by injection e3
  refine hQ h' ⟨V', fun b o p q => (hs.2 b fun z => by rw [z, hg] at q; cases q).trans (I.ex b o p q), fun i b oi pi si vi => ?_⟩ ⟨fun b o q _ _ n => ⟨(hs.2 b fun z => n x ho hm (by rw [hx]; rfl) (z ▸ e)).trans q, fun i oi mi si => ?_⟩, fun i oi mi => ?_⟩
  · have hi : i ≠ x := fun z => by subst z; rw [hnp] at pi; cases pi
    rw [upd_ne _ _ hi] at si
    obtain ⟨o, q, r⟩ := I.pl i b oi pi si vi
    exact ⟨o, (hs.2 b fun z => hi (I.V.dist i x a oi ho si (by rw [hx]; rfl) (z ▸ vi) e)).trans q, r⟩
  · by_cases hi : i = x
    · subst hi; exact n i oi mi (by rw [hx]; rfl)
    · rw [upd_ne _ _ hi] at si; exact n i oi mi si
  · have hi : i ≠ x := fun z => by subst z; rw [hm] at mi; cases mi
    exact ⟨upd_ne _ _ hi, rfl⟩

theorem ss_setI (hA : AOk A C) (G : Gl C fnm fa mg mb) (K : CallOk prog w A C fa F) {x : Nat} {i e : T} : SoS prog w A C fnm F xs sc env Xc (.setI x i e) := by
  intro mu σ r S stmt vals s Q E he hc I hP
  unfold chkS at hc
  split at hc <;> try (first | (rename_i hh; cases hh; done) | (rename_i hh _; cases hh; done) | cases hc)
  rename_i hh
  cases hh
  simp only [Bool.and_eq_true, Bool.not_eq_true'] at hc
  obtain ⟨⟨⟨⟨h1, h2⟩, h3⟩, h4⟩, hnp⟩ := hc
  simp only [evS] at he
  have hg : (C.own x && mu x) = true := by
    by_cases hg : (C.own x && mu x) = true
    · exact hg
    · rw [if_neg hg] at he; cases he
  rw [if_pos hg] at he
  simp only [Bool.and_eq_true] at hg
  simp only [Option.bind_eq_some_iff, Option.map_eq_some_iff] at he
  obtain ⟨d, hd, a, ha, l, hl, k, hk, k', hk', j, hj, rfl⟩ := he
  obtain rfl := listD_some hl
  obtain rfl := intD_some hk'
  refine wpAny_Assign_Subscript ?_ swaps_sub
  refine (all_T hA G K e S).1 hd h3 I.V fun v s₁ L₁ r _ => ?_
  have I₁ := I.le L₁
  refine so_own I₁ ha h1 ?_
  refine (all_T hA G K i S).1 hk h2 I₁.V fun u s₂ L₂ r₂ _ => ?_
  obtain ⟨t, rfl⟩ := r₂.plain.int_inv
  have L := L₁.trans L₂
  have I₂ := I.le L
  have kq : Ks C.own mu σ vals s.heap σ vals s₂.heap := .kq (Kq.le (C := C.w S) I.V L [])
  obtain ⟨h2', tk2, rfl, _⟩ := L
  exact setItem_list_ok (s := { s with heap := h2', toks := tk2 }) I₂ hnp hg.1 hg.2 ha hj (r.plain.ext L₂.ext) fun h' I' ks => hP h' tk2 vals I' (kq.trans ks)

theorem ss_augI (hA : AOk A C) (G : Gl C fnm fa mg mb) (K : CallOk prog w A C fa F) {x : Nat} {i e : T} : SoS prog w A C fnm F xs sc env Xc (.augI x i e) := by
  intro mu σ r S stmt vals s Q E he hc I hP
  unfold chkS at hc
  split at hc <;> try (first | (rename_i hh; cases hh; done) | (rename_i hh _; cases hh; done) | cases hc)
  rename_i hh
  cases hh
  simp only [Bool.and_eq_true, Bool.not_eq_true'] at hc
  obtain ⟨⟨⟨⟨h1, h2⟩, h3⟩, h4⟩, hnp⟩ := hc
  simp only [evS] at he
  have hg : (C.own x && mu x) = true := by
    by_cases hg : (C.own x && mu x) = true
    · exact hg
    · rw [if_neg hg] at he; cases he
  rw [if_pos hg] at he
  simp only [Bool.and_eq_true] at hg
  simp only [Option.bind_eq_some_iff, Option.map_eq_some_iff] at he
  obtain ⟨a, ha, l, hl, k, hk, k', hk', j, hj, y, hy, y', hy', b, hb, b', hb', rfl⟩ := he
  obtain rfl := listD_some hl
  obtain rfl := intD_some hk'
  obtain rfl := intD_some hy'
  obtain rfl := intD_some hb'
  refine wpAny_AugAssign_SubscriptAny ?_ (augStore_plain h4)
  refine so_own I ha h1 ?_
  refine (all_T hA G K i S).1 hk h2 I.V fun u s₁ L₁ r₁ _ => ?_
  obtain ⟨t, rfl⟩ := r₁.plain.int_inv
  have I₁ := I.le L₁
  obtain ⟨ad, vs, e1, hls, hr, hz⟩ := own_list I₁.V hg.1 ha
  obtain ⟨hkk1, hkk2, rfl⟩ := placeN_some hj
  have hkk := And.intro hkk1 hkk2
  have hz' : (l.length : Int) ≤ 1000 := by have : l.length ≤ 1000 := hz; omega
  obtain ⟨yv, hyv, ry⟩ := hr.get hy
  obtain ⟨ty, rfl⟩ := ry.int_inv
  refine wpAny_mono (Q := fun v s' => v = .int y' ty ∧ s' = s₁) ?_ ?_ fun _ _ z => z
  · rw [e1]
    exact wpAny_getItem_list hls hkk.1 (by omega) (by simpa using hyv) ⟨rfl, rfl⟩
  · rintro v s' ⟨rfl, rfl⟩
    refine (all_T hA G K e S).1 hb h3 I₁.V fun v s₂ L₂ r₂ _ => ?_
    obtain ⟨t', rfl⟩ := r₂.plain.int_inv
    refine PySem.P.iadd_int ?_
    have L := (L₁.trans L₂).trans (Le.tok C.base C.P s₂ (s₂.toks + 1))
    have I₂ := I.le L
    have kq : Ks C.own mu σ vals s.heap σ vals s₂.heap := .kq (Kq.le (C := C.w S) I.V L [])
    obtain ⟨h2', tk2, hs2, _⟩ := L
    have hP' : ∀ h', StI C S _ env (upd σ x (.list (l.set k'.toNat (.int (y' + b'))))) vals h' → Ks C.own mu σ vals s₂.heap (upd σ x (.list (l.set k'.toNat (.int (y' + b'))))) vals h' → Q .next { s₂ with heap := h', toks := s₂.toks + 1 } := fun h' I' ks => by
      have := hP h' tk2 vals I' (kq.trans ks)
      have e3 : ({ s₂ with heap := h', toks := s₂.toks + 1 } : Shared) = { s with heap := h', toks := tk2 } := by
        have := congrArg (fun z : Shared => ({ z with heap := h' } : Shared)) hs2
        simpa using this
      rw [e3]; exact this
    exact setItem_list_ok (s := { s₂ with toks := s₂.toks + 1 }) I₂ hnp hg.1 hg.2 ha hj (.int _ _) hP'

theorem ss_cont : SoS prog w A C fnm F xs sc env Xc .cont := by
  intro mu σ r S stmt vals s Q E he hc I hP
  cases stmt with
  | Continue pos => cases he; exact wpAny_Continue (hP s.heap s.toks vals I .refl)
  | _ => simp [chkS] at hc
theorem ss_dead : SoS prog w A C fnm F xs sc env Xc .dead := by
  intro mu σ r S stmt vals s Q E he hc I hP
  simp [evS] at he

theorem ss_ret (hA : AOk A C) (G : Gl C fnm fa mg mb) (K : CallOk prog w A C fa F) {e : T} : SoS prog w A C fnm F xs sc env Xc (.ret e) := by
  intro mu σ r S stmt vals s Q E he hc I hP
  unfold chkS at hc
  split at hc <;> try (first | (rename_i hh; cases hh; done) | (rename_i hh _; cases hh; done) | cases hc)
  rename_i hh
  cases hh
  simp only [evS, Option.map_eq_some_iff] at he
  obtain ⟨d, hd, rfl⟩ := he
  refine wpAny_Return_some ((all_T hA G K e S).1 hd hc I.V fun v s₁ L₁ r _ => ?_)
  have I₁ := I.le L₁
  obtain ⟨h1, tk1, rfl, _⟩ := L₁
  exact hP h1 tk1 v I₁.done (r.plain.mono fun _ z => .inl z.1)
theorem ss_retO {x : Nat} : SoS prog w A C fnm F xs sc env Xc (.retO x) := by
  intro mu σ r S stmt vals s Q E he hc I hP
  unfold chkS at hc
  split at hc <;> try (first | (rename_i hh; cases hh; done) | (rename_i hh _; cases hh; done) | cases hc)
  rename_i hh
  cases hh
  simp only [evS] at he
  have ho : C.own x = true := by
    by_cases ho : C.own x = true
    · exact ho
    · rw [if_neg ho] at he; cases he
  rw [if_pos ho] at he
  simp only [Option.bind_eq_some_iff, Option.map_eq_some_iff] at he
  obtain ⟨a, ha, l, hl, rfl⟩ := he
  obtain rfl := listD_some hl
  refine wpAny_Return_some (so_own I ha hc ?_)
  obtain ⟨ad, ds, vs, e1, e2, h1, h2, h3, hg⟩ := I.V.owned x _ ha ho
  cases e1
  rw [e2]
  exact hP s.heap s.toks _ I.done (.list (.inr hg) h1 h3 (h2.mono fun _ z => .inl z.1))
theorem ss_ite (hA : AOk A C) (G : Gl C fnm fa mg mb) (K : CallOk prog w A C fa F) {c : T} {a b : SL} (ha : SoSL prog w A C fnm F xs sc env Xc a) (hb : SoSL prog w A C fnm F xs sc env Xc b) : SoS prog w A C fnm F xs sc env Xc (.ite c a b) := by
  intro mu σ r S stmt vals s Q E he hc I hP
  unfold chkS at hc
  split at hc <;> try (first | (rename_i hh; cases hh; done) | (rename_i hh _; cases hh; done) | cases hc)
  rename_i hh
  cases hh
  simp only [Bool.and_eq_true] at hc
  obtain ⟨⟨h1, h2⟩, h3⟩ := hc
  simp only [evS, Option.bind_eq_some_iff] at he
  obtain ⟨x, hx, q, hq, he⟩ := he
  obtain rfl := boolD_some hq
  refine wpAny_If ((all_T hA G K c S).2 hx h1 I.V fun s₁ L₁ => ?_)
  have hP' := Pst.le I L₁ hP
  have I₁ := I.le L₁
  cases q with
  | true => exact ha he h2 I₁ hP'
  | false => exact hb he h3 I₁ hP'
theorem ssl_nil : SoSL prog w A C fnm F xs sc env Xc .nil := by
  intro mu σ r S stmts vals s Q E he hc I hP
  cases stmts with
  | nil => cases he; exact wpAny_pure (hP s.heap s.toks vals I .refl)
  | cons => simp [chkSL] at hc
theorem ssl_cons {t : TS} {l : SL} (ht : SoS prog w A C fnm F xs sc env Xc t) (hl : SoSL prog w A C fnm F xs sc env Xc l) : SoSL prog w A C fnm F xs sc env Xc (.cons t l) := by
  intro mu σ r S stmts vals s Q E he hc I hP
  cases stmts with
  | nil => simp [chkSL] at hc
  | cons e es =>
    simp only [chkSL, Bool.and_eq_true] at hc
    simp only [evSL, Option.bind_eq_some_iff] at he
    obtain ⟨r1, h1, he⟩ := he
    show wpAny _ _ (do match ← exec e env with | .next => execs es env | f => pure f) _ _ _
    refine wpAny_bind (ht h1 hc.1 I ?_)
    cases r1 with
    | nxt σ1 => exact fun h' tk vals' I' ks => hl he hc.2 (s := { s with heap := h', toks := tk }) I' (Pst.step ⟨h', tk, rfl⟩ ks hP)
    | cnt σ1 => cases he; exact fun h' tk vals' I' ks => wpAny_pure (hP h' tk vals' I' ks)
    | ret d => cases he; exact fun h' tk v e r => wpAny_pure (hP h' tk v e r)
    | ties => cases he; exact hP
end
end Mine
end

section
open PySem PySem.W PyProof.Rows PySem.SeqAt PySem.MeetsSeq PySem.MeetsSeq2 PySem.MeetsSeq3
set_option maxRecDepth 100000
namespace Mine

/-! ## 22. Assignments to tuples -/

abbrev It3 := Nat × Value × D
def updI : List It3 → Sg → Sg
  | [], σ => σ
  | x :: r, σ => updI r (upd σ x.1 x.2.2)
theorem updI_off : ∀ {l : List It3} {σ : Sg} {j : Nat}, j ∉ l.map (·.1) → updI l σ j = σ j
  | [], _, _, _ => rfl
  | x :: r, σ, j, h => by
    simp only [List.map_cons, List.mem_cons, not_or] at h
    show updI r (upd σ x.1 x.2.2) j = _
    rw [updI_off h.2, upd_ne _ _ h.1]
theorem updI_on : ∀ {l : List It3} {σ : Sg} {x : It3}, (l.map (·.1)).Nodup → x ∈ l → updI l σ x.1 = some x.2.2
  | y :: r, σ, x, nd, h => by
    simp only [List.map_cons, List.nodup_cons] at nd
    show updI r (upd σ y.1 y.2.2) x.1 = _
    rcases List.mem_cons.mp h with rfl | h
    · rw [updI_off nd.1, upd_same]
    · exact updI_on nd.2 h
theorem updI_rev {l : List It3} {σ : Sg} (nd : (l.map (·.1)).Nodup) : updI l.reverse σ = updI l σ := by
  funext j
  by_cases h : j ∈ l.map (·.1)
  · obtain ⟨x, hx, rfl⟩ := List.mem_map.mp h
    rw [updI_on nd hx, updI_on (by rw [List.map_reverse]; exact (List.reverse_perm _).nodup_iff.mpr nd) (List.mem_reverse.mpr hx)]
  · rw [updI_off h, updI_off (by rw [List.map_reverse]; simpa using h)]

def refsI (own : Nat → Bool) : List It3 → List Addr
  | [] => []
  | x :: r => (match x.2.1 with | .ref a => if own x.1 then [a] else [] | _ => []) ++ refsI own r
theorem refsI_mem {own : Nat → Bool} {a : Addr} : ∀ {l : List It3}, a ∈ refsI own l ↔ ∃ x ∈ l, own x.1 = true ∧ x.2.1 = .ref a
  | [] => by simp [refsI]
  | x :: r => by
    rw [refsI, List.mem_append, refsI_mem (l := r)]
    constructor
    · rintro (h | ⟨y, h1, h2⟩)
      · obtain ⟨i, v, d⟩ := x
        cases v <;> simp at h
        obtain ⟨h1, rfl⟩ := h
        exact ⟨_, List.mem_cons_self, h1, rfl⟩
      · exact ⟨y, List.mem_cons_of_mem _ h1, h2⟩
    · rintro ⟨y, h1, h2, h3⟩
      rcases List.mem_cons.mp h1 with rfl | h1
      · left; rw [h3]; simp [h2]
      · exact .inr ⟨y, h1, h2, h3⟩
theorem refsI_app {own : Nat → Bool} : ∀ {l r : List It3}, refsI own (l ++ r) = refsI own l ++ refsI own r
  | [], _ => rfl
  | x :: l, r => by simp [refsI, refsI_app (l := l) (r := r)]
theorem refsI_rev {own : Nat → Bool} : ∀ {l : List It3}, (refsI own l.reverse).Perm (refsI own l)
  | [] => .refl _
  | x :: l => by
    rw [List.reverse_cons, refsI_app]
    have : refsI own (x :: l) = refsI own [x] ++ refsI own l := by simp [refsI]
    rw [this]
    exact (List.perm_append_comm).trans (List.Perm.append_left _ refsI_rev)

section
variable {prog : Program} {w : World} {A : Around} {C : Cx} {fnm : List PySem.Str} {F : Fn} {fa : Nat → Addr} {mg mb : PySem.Str → Option Value} {xs : Bool} {sc : Scope} {env : Env} {Xc : Value → Shared → Prop}

variable (prog w A C sc env) in
inductive Acts : List It3 → List (Value → Sem Unit) → Prop where
  | nil : Acts [] []
  | cons {i : Nat} {v : Value} {d : D} {its : List It3} {as : List (Value → Sem Unit)} {act : Value → Sem Unit} (x : PySem.Str) : C.tab[i]? = some x → isW sc x = true →
      (∀ (v : Value) (s : Shared) (Q : Unit → Shared → Prop) (E : Value → Shared → Prop), wpAny (model prog w) A (storeName env x v) Q E s → wpAny (model prog w) A (act v) Q E s) → Acts its as → Acts ((i, v, d) :: its) (act :: as)
theorem Acts.append : ∀ {a b : List It3} {x y : List (Value → Sem Unit)}, Acts prog w A C sc env a x → Acts prog w A C sc env b y → Acts prog w A C sc env (a ++ b) (x ++ y)
  | _, _, _, _, .nil, h => h
  | _, _, _, _, .cons x h1 h2 h3 r, h => .cons x h1 h2 h3 (r.append h)
theorem Acts.rev : ∀ {a : List It3} {x : List (Value → Sem Unit)}, Acts prog w A C sc env a x → Acts prog w A C sc env a.reverse x.reverse
  | _, _, .nil => .nil
  | _, _, .cons x h1 h2 h3 r => by rw [List.reverse_cons, List.reverse_cons]; exact r.rev.append (.cons x h1 h2 h3 .nil)

theorem ItemOk.le {C : Cx} {σ : Sg} {vals : Nat → Value} {h h' : Heap} {i : Nat} {v : Value} {d : D} (x : ItemOk C σ vals h i v d) (e : Ext h h') : ItemOk C σ vals h' i v d := by
  rcases x with ⟨a, r⟩ | ⟨a, ad, ds, vs, q1, q2, q3, q4, q5, q6, q7⟩
  · exact .inl ⟨a, r.ext e⟩
  · exact .inr ⟨a, ad, ds, vs, q1, q2, q3, q4, e.isList q5, q6.ext e, q7⟩

theorem seqStore {C : Cx} {h₀ : Heap} : ∀ (its : List It3) {as : List (Value → Sem Unit)} {σ : Sg} {vals : Nat → Value} {s : Shared} {Q : Unit → Shared → Prop} {E : Value → Shared → Prop}, Acts prog w A C sc env its as → StV C sc h₀ env σ vals s.heap →
    (∀ x ∈ its, ItemOk C σ vals s.heap x.1 x.2.1 x.2.2) → (refsI C.own its).Nodup →
    (∀ h' tk vals', StV C sc h₀ env (updI its σ) vals' h' → Kp h₀ env s.heap h' → (∀ j, j ∉ its.map (·.1) → vals' j = vals j) → (∀ j, j ∈ its.map (·.1) → C.own j = true → ∃ a ∈ refsI C.own its, vals' j = .ref a) → Q () { s with heap := h', toks := tk }) →
    wpAny (model prog w) A (assignInOrder as (its.map (·.2.1))) Q E s
  | [], as, σ, vals, s, Q, E, ha, V, hi, hn, h => by
    cases ha
    exact wpAny_pure (h s.heap s.toks vals V (.of fun _ _ e => e) (fun _ _ => rfl) (fun _ m => by simp at m))
  | (i, v, d) :: its, as, σ, vals, s, Q, E, ha, V, hi, hn, h => by
    cases ha with
    | cons x h1 h2 h3 ha =>
      rename_i as act
      show wpAny _ _ (do holding (its.map (·.2.1)) (act v); assignInOrder as (its.map (·.2.1))) _ _ _
      have h0 := hi _ List.mem_cons_self
      have hsplit : refsI C.own ((i, v, d) :: its) = refsI C.own [(i, v, d)] ++ refsI C.own its := by simp [refsI]
      rw [hsplit] at hn
      refine wpAny_bind (wpAny_holding (h3 v s _ _ (store_any V h1 h2 h0 fun h' tk V' k1 k2 => ?_)))
      have kp : Kp h₀ env s.heap h' := ⟨k1, fun b o n e => by rw [k2 b n]; exact e⟩
      have nN : ∀ b, C.S b → NotO C.own σ vals b → NotO C.own (upd σ i d) (updv vals i v) b := fun b sb n j oj sj ej => by
        by_cases hj : j = i
        · subst hj
          rw [updv_same] at ej
          rcases h0 with ⟨q, _⟩ | ⟨_, a, _, _, q1, _, q3, _⟩
          · rw [q] at oj; cases oj
          · have q1 : v = .ref a := q1
            rw [q1] at ej; cases ej; exact q3 sb
        · rw [upd_ne _ _ hj] at sj; rw [updv_ne _ _ hj] at ej; exact n j oj sj ej
      have on : On s.heap h' (Sx C σ vals) (Sx C (upd σ i d) (updv vals i v)) := kp.on V fun b hb => ⟨hb.1, nN b hb.1 hb.2⟩
      refine seqStore its (s := { s with heap := h', toks := tk }) ha V' (fun y hy => ?_) (List.nodup_append.mp hn).2.1 fun h'' tk' vals' V'' kp' f1 f2 => h h'' tk' vals' V'' (kp.trans kp') (fun j nj => ?_) fun j mj oj => ?_
      · rcases hi y (List.mem_cons_of_mem _ hy) with ⟨q, r⟩ | ⟨q, a, ds, vs, q1, q2, q3, q4, ⟨o, g1, g2, n, g3⟩, q6, q7⟩
        · exact .inl ⟨q, r.on on⟩
        · refine .inr ⟨q, a, ds, vs, q1, q2, q3, fun j oj sj ej => ?_, ⟨o, ?_, g2, n, g3⟩, q6.on on, q7⟩
          · by_cases hj : j = i
            · subst hj
              rw [updv_same] at ej
              have m1 : a ∈ refsI C.own [(j, v, d)] := refsI_mem.mpr ⟨_, List.mem_cons_self, oj, ej⟩
              have m2 : a ∈ refsI C.own its := refsI_mem.mpr ⟨y, hy, q, q1⟩
              exact (List.nodup_append.mp hn).2.2 a m1 a m2 rfl
            · rw [upd_ne _ _ hj] at sj; rw [updv_ne _ _ hj] at ej; exact q4 j oj sj ej
          · refine k1 a o g1 (fun z => ?_) fun u => by rw [g3]; simp
            obtain ⟨m, o', es, ep, q', d', _⟩ := V.fr.ns
            rw [← z, g1] at q'; cases q'; rw [g3] at d'; cases d'
      · simp only [List.map_cons, List.mem_cons, not_or] at nj
        rw [f1 j nj.2, updv_ne _ _ nj.1]
      · by_cases hm : j ∈ its.map (·.1)
        · obtain ⟨a, m, e⟩ := f2 j hm oj
          exact ⟨a, by rw [hsplit]; simp [m], e⟩
        · have hj : j = i := by simp only [List.map_cons, List.mem_cons] at mj; exact mj.resolve_right hm
          subst hj
          rw [f1 j hm, updv_same]
          rcases h0 with ⟨q, _⟩ | ⟨_, a, _, _, q1, _⟩
          · rw [q] at oj; cases oj
          · exact ⟨a, by rw [hsplit]; exact List.mem_append.mpr (.inl (refsI_mem.mpr ⟨_, List.mem_cons_self, oj, q1⟩)), q1⟩

theorem okN_len {own : Nat → Bool} : ∀ {is : List Nat} {es : TL} {ds : List D} {σ : Sg}, okN own is es = true → evL own F false es σ = some ds → is.length = ds.length
  | [], .nil, ds, σ, _, h => by simp [evL] at h; subst h; rfl
  | [], .cons _ _, _, _, h, _ => by simp [okN] at h
  | _ :: _, .nil, _, _, h, _ => by simp [okN] at h
  | i :: is, .cons e es, ds, σ, h, he => by
    simp only [okN, Bool.and_eq_true] at h
    simp only [evL, Option.bind_eq_some_iff] at he
    obtain ⟨d, _, ds', h2, he⟩ := he
    cases he
    simp [okN_len h.2 h2]

def zip3 : List Nat → List Value → List D → List It3
  | i :: is, v :: vs, d :: ds => (i, v, d) :: zip3 is vs ds
  | _, _, _ => []
theorem zip3_1 : ∀ {is : List Nat} {vs : List Value} {ds : List D}, is.length = ds.length → vs.length = ds.length → (zip3 is vs ds).map (·.1) = is ∧ (zip3 is vs ds).map (·.2.1) = vs
  | [], [], [], _, _ => ⟨rfl, rfl⟩
  | i :: is, v :: vs, d :: ds, h1, h2 => by
    obtain ⟨e1, e2⟩ := zip3_1 (is := is) (vs := vs) (ds := ds) (by simpa using h1) (by simpa using h2)
    exact ⟨by simp [zip3, e1], by simp [zip3, e2]⟩
  | [], _ :: _, [], _, h => by simp at h
  | _ :: _, _, [], h, _ => by simp at h
  | [], _, _ :: _, h, _ => by simp at h
  | _ :: _, [], _ :: _, _, h => by simp at h
theorem zip3_upd : ∀ {is : List Nat} {vs : List Value} {ds : List D} {σ : Sg}, is.length = ds.length → vs.length = ds.length → updI (zip3 is vs ds) σ = updN is ds σ
  | [], [], [], _, _, _ => rfl
  | i :: is, v :: vs, d :: ds, σ, h1, h2 => zip3_upd (is := is) (vs := vs) (ds := ds) (σ := upd σ i d) (by simpa using h1) (by simpa using h2)
  | [], _ :: _, [], _, _, h => by simp at h
  | _ :: _, _, [], _, h, _ => by simp at h
  | [], _, _ :: _, _, h, _ => by simp at h
  | _ :: _, [], _ :: _, _, _, h => by simp at h

theorem T_plain {S : Addr → Prop} {e : T} (hT : SoT prog w A (C.w S) fnm F e) {σ : Sg} {d : D} {e' : PySem.Expr} {h₀ : Heap} {vals : Nat → Value} {s : Shared} {Q E : Value → Shared → Prop} (he : ev C.own F false e σ = some d) (hc : chk C.tab fnm e sc e' = true) (V : StV (C.w S) sc h₀ env σ vals s.heap)
    (h : ∀ v s₁, Le C.base C.P s s₁ → RepB false s₁.heap (Sx (C.w S) σ vals) v d → (e.fresh = true → ∀ a, v = .ref a → s.heap.get? a = none) → (nil1 e = true → e.fresh = true → ∀ a, v = .ref a → Plain s₁.heap a) → Q v s₁) : wpAny (model prog w) A (eval e' env) Q E s := by
  by_cases hn : nil1 e = true ∧ e.fresh = true
  · obtain ⟨h1, h2⟩ := hn
    cases e with
    | list l =>
      cases l with
      | nil =>
        cases e' with
        | List es pos =>
          simp only [chk] at hc
          cases es with
          | cons => simp [chkL] at hc
          | nil =>
            simp [ev, evL] at he
            obtain ⟨_, rfl⟩ := he
            rw [arm_eval_List]
            refine wpAny_bind (wpAny_standAt (wpAny_bind (Calls.spliced_nil (p_newList (by decide) ?_))))
            refine h _ _ (.push ..) (.inl (.list (V.new fresh_size) ⟨_, Heap.get?_push_size _ rfl, rfl, _, rfl⟩ (by decide) .nil)) (fun _ a e => ?_) fun _ _ a e => ?_
            · cases e; exact fresh_size
            · cases e
              exact ⟨_, Heap.get?_push_size _ rfl, rfl, (fun _ _ z => by cases z), (fun _ z => by cases z)⟩
        | _ => simp [chk] at hc
      | cons => simp [nil1, T.fresh] at h1
    | _ => simp [nil1] at h1; simp [h1] at h2
  · exact hT he hc V fun v s₁ L r fr => h v s₁ L r fr fun a b => absurd ⟨a, b⟩ hn

theorem evalN (hA : AOk A C) (G : Gl C fnm fa mg mb) (K : CallOk prog w A C fa F) {σ : Sg} {vals : Nat → Value} {h₀ : Heap} (h0g : Ext C.g₀ h₀) : ∀ (is : List Nat) (es : TL) {S : Addr → Prop} {ds : List D} {es' : List PySem.Expr} {pos : Pos} {s : Shared} {Q : List Value → Shared → Prop} {E : Value → Shared → Prop},
    okN C.own is es = true → okND C.own is ds = true → evL C.own F false es σ = some ds → chkL C.tab fnm es sc es' = true → StV (C.w S) sc h₀ env σ vals s.heap →
    (∀ vs s', Le C.base C.P s s' → vs.length = ds.length → StV (C.w fun b => S b ∧ b ∉ refsI C.own (zip3 is vs ds)) sc h₀ env σ vals s'.heap → (∀ a ∈ refsI C.own (zip3 is vs ds), s.heap.get? a = none) → (refsI C.own (zip3 is vs ds)).Nodup →
      (∀ x ∈ zip3 is vs ds, ItemOk (C.w fun b => S b ∧ b ∉ refsI C.own (zip3 is vs ds)) σ vals s'.heap x.1 x.2.1 x.2.2) → (nilOnly es = true → ∀ a ∈ refsI C.own (zip3 is vs ds), Plain s'.heap a) → Q vs s') → wpAny (model prog w) A (spliced (backTo pos (starEach es' env))) Q E s
  | [], .nil, S, ds, es', pos, s, Q, E, _, _, he, hc, V, h => by
    simp [evL] at he; subst he
    cases es' with
    | cons => simp [chkL] at hc
    | nil =>
      refine Calls.spliced_nil (h [] s (.refl ..) rfl (V.wide fun _ z => ⟨z, by simp [zip3, refsI]⟩) (by simp [zip3, refsI]) (by simp [zip3, refsI]) (by simp [zip3]) (by simp [zip3, refsI]))
  | [], .cons _ _, _, _, _, _, _, _, _, h, _, _, _, _, _ => by simp [okN] at h
  | _ :: _, .nil, _, _, _, _, _, _, _, h, _, _, _, _, _ => by simp [okN] at h
  | i :: is, .cons e es, S, ds, es', pos, s, Q, E, hn, hd, he, hc, V, h => by
    simp only [okN, Bool.and_eq_true] at hn
    simp only [evL, Option.bind_eq_some_iff] at he
    obtain ⟨d, he1, ds', he2, he⟩ := he
    cases he
    simp only [okND, Bool.and_eq_true] at hd
    cases es' with
    | nil => simp [chkL] at hc
    | cons e' es' =>
      simp only [chkL, Bool.and_eq_true, Bool.not_eq_true'] at hc
      rw [star_cons hc.1.1]
      refine Calls.spliced_cons (T_plain (all_T hA G K e S).1 he1 hc.1.2 V fun v s₁ L₁ r fr plain => ?_)
      have V₁ := StV.Le (C := C.w S) V L₁
      by_cases ho : C.own i = true
      · have hf : e.fresh = true := by simpa [ho] using hn.1
        have hld : ∃ xs, d = .list xs := by
          have := hd.1
          simp [ho] at this
          cases d <;> simp [listD] at this
          exact ⟨_, rfl⟩
        obtain ⟨xs, rfl⟩ := hld
        obtain ⟨a, _, rfl, _, _, _, _⟩ := r.plain.list_inv
        have hnew := fr hf a rfl
        obtain ⟨vs0, hl, hr', hz⟩ := r.plain.items_avoid
        have hex : s₁.heap.get? a ≠ none := by obtain ⟨o, q, _⟩ := hl; rw [q]; simp
        have V₂ := V.shun V₁ L₁.ext [a] (fun b m => by obtain rfl := List.mem_singleton.mp m; exact hnew) (fun b m => by obtain rfl := List.mem_singleton.mp m; exact hex)
        refine evalN hA G K h0g is es hn.2 hd.2 he2 hc.2 V₂ fun vs s' L hlen V' nX nd ok plr => ?_
        have e1 : refsI C.own (zip3 (i :: is) (.ref a :: vs) (.list xs :: ds')) = a :: refsI C.own (zip3 is vs ds') := by simp [zip3, refsI, ho]
        have e2 : (fun b => S b ∧ b ∉ a :: refsI C.own (zip3 is vs ds')) = (fun b => (S b ∧ b ∉ [a]) ∧ b ∉ refsI C.own (zip3 is vs ds')) := by
          funext b; simp [and_assoc]
        refine h (.ref a :: vs) s' (L₁.trans L) (by simp [hlen]) ?_ ?_ ?_ ?_ (fun hno => ?_)
        · rw [e1, e2]; exact V'
        · rw [e1]
          intro b m
          rcases List.mem_cons.mp m with rfl | m
          · exact hnew
          · exact L₁.ext.none (nX b m)
        · rw [e1]
          exact List.nodup_cons.mpr ⟨fun m => hex (nX a m), nd⟩
        · rw [e1]
          intro x hx
          rcases List.mem_cons.mp hx with rfl | hx
          · refine .inr ⟨ho, a, xs, vs0, rfl, rfl, fun z => z.2 (by simp), (V.new hnew).2, L.ext.isList hl, hr'.on fun b hb o hbo _ => ⟨⟨⟨hb.1.1, fun m => ?_⟩, hb.1.2⟩, L.ext b o hbo⟩, hz, h0g.none (V.ext.none hnew)⟩
            rcases List.mem_cons.mp m with z | m
            · exact hb.2 z
            · rw [nX b m] at hbo; cases hbo
          · rw [e2]; exact ok x hx
        · rw [e1]
          simp only [nilOnly, Bool.and_eq_true] at hno
          intro b m
          rcases List.mem_cons.mp m with rfl | m
          · exact (plain hno.1 hf b rfl).ext L.ext
          · exact plr hno.2 b m
      · have ho : C.own i = false := by simpa using ho
        refine evalN hA G K h0g is es hn.2 hd.2 he2 hc.2 V₁ fun vs s' L hlen V' nX nd ok plr => ?_
        have e1 : refsI C.own (zip3 (i :: is) (v :: vs) (d :: ds')) = refsI C.own (zip3 is vs ds') := by
          simp only [zip3, refsI, ho]
          cases v <;> simp
        refine h (v :: vs) s' (L₁.trans L) (by simp [hlen]) ?_ ?_ ?_ ?_ (fun hno => ?_)
        · rw [e1]; exact V'
        · rw [e1]; exact fun b m => L₁.ext.none (nX b m)
        · rw [e1]; exact nd
        · rw [e1]
          intro x hx
          rcases List.mem_cons.mp hx with rfl | hx
          · exact .inl ⟨ho, r.plain.on fun b hb o hbo _ => ⟨⟨⟨hb.1, fun m => by rw [nX b m] at hbo; cases hbo⟩, hb.2⟩, L.ext b o hbo⟩⟩
          · exact ok x hx
        · rw [e1]
          simp only [nilOnly, Bool.and_eq_true] at hno
          exact plr hno.2
end
end Mine
end

section
open PySem PySem.W PyProof.Rows PySem.SeqAt PySem.MeetsSeq PySem.MeetsSeq2 PySem.MeetsSeq3
set_option maxRecDepth 100000
namespace Mine

/-! ## 23. Assignments to tuples, whole -/
def namesOf : List PySem.Expr → List PySem.Str
  | .Name x _ :: r => x :: namesOf r
  | _ :: r => namesOf r
  | [] => []

section
variable {prog : Program} {w : World} {A : Around} {C : Cx} {fnm : List PySem.Str} {F : Fn} {fa : Nat → Addr} {mg mb : PySem.Str → Option Value} {xs : Bool} {sc : Scope} {env : Env} {Xc : Value → Shared → Prop}

theorem chkNs_len {tab : List PySem.Str} : ∀ {is : List Nat} {ts : List PySem.Expr}, chkNs tab is sc ts = true → ts.length = is.length
  | [], [], _ => rfl
  | [], _ :: _, h => by simp [chkNs] at h
  | _ :: _, [], h => by simp [chkNs] at h
  | i :: is, t :: ts, h => by
    cases t with
    | Name x p => simp only [chkNs, Bool.and_eq_true] at h; simp [chkNs_len h.2]
    | _ => simp [chkNs] at h
theorem chkNs_each {tab : List PySem.Str} : ∀ {is : List Nat} {ts : List PySem.Expr}, chkNs tab is sc ts = true → (assignEach ts env).findIdx? (·.1) = none ∧ (assignEach ts env).length = ts.length
  | [], [], _ => ⟨rfl, rfl⟩
  | [], _ :: _, h => by simp [chkNs] at h
  | _ :: _, [], h => by simp [chkNs] at h
  | i :: is, t :: ts, h => by
    cases t with
    | Name x p =>
      simp only [chkNs, Bool.and_eq_true] at h
      obtain ⟨i1, i2⟩ := chkNs_each h.2
      rw [each_cons rfl]
      exact ⟨by simp [List.findIdx?_cons, i1], by simp [i2]⟩
    | _ => simp [chkNs] at h
theorem acts_fwd : ∀ {is : List Nat} {ts : List PySem.Expr} {vs : List Value} {ds : List D}, chkNs C.tab is sc ts = true → is.length = ds.length → vs.length = ds.length → Acts prog w A C sc env (zip3 is vs ds) ((assignEach ts env).map (·.2))
  | [], [], [], [], _, _, _ => .nil
  | [], _ :: _, _, _, h, _, _ => by simp [chkNs] at h
  | _ :: _, [], _, _, h, _, _ => by simp [chkNs] at h
  | i :: is, t :: ts, v :: vs, d :: ds, h, h1, h2 => by
    cases t with
    | Name x p =>
      simp only [chkNs, Bool.and_eq_true, beq_iff_eq] at h
      rw [each_cons rfl]
      exact .cons x h.1.1 h.1.2 (fun v s Q E hs => wpAny_assign_Name hs) (acts_fwd h.2 (by simpa using h1) (by simpa using h2))
    | _ => simp [chkNs] at h
  | [], [], _, _ :: _, _, h, _ => by simp at h
  | _ :: _, _, _, [], _, h, _ => by simp at h
  | _, _, [], _ :: _, _, _, h => by simp at h
  | _, _, _ :: _, [], _, _, h => by simp at h
theorem acts_names : ∀ {is : List Nat} {ts : List PySem.Expr} {vs : List Value} {ds : List D}, chkNs C.tab is sc ts = true → is.length = ds.length → vs.length = ds.length → Acts prog w A C sc env (zip3 is vs ds) ((namesOf ts).map fun n => bindName env n)
  | [], [], [], [], _, _, _ => .nil
  | [], _ :: _, _, _, h, _, _ => by simp [chkNs] at h
  | _ :: _, [], _, _, h, _, _ => by simp [chkNs] at h
  | i :: is, t :: ts, v :: vs, d :: ds, h, h1, h2 => by
    cases t with
    | Name x p =>
      simp only [chkNs, Bool.and_eq_true, beq_iff_eq] at h
      exact .cons x h.1.1 h.1.2 (fun v s Q E hs => wpAny_bindName hs) (acts_names h.2 (by simpa using h1) (by simpa using h2))
    | _ => simp [chkNs] at h
  | [], [], _, _ :: _, _, h, _ => by simp at h
  | _ :: _, _, _, [], _, h, _ => by simp at h
  | _, _, [], _ :: _, _, _, h => by simp at h
  | _, _, _ :: _, [], _, _, h => by simp at h

theorem namesOf_filterMap {tab : List PySem.Str} (f : PySem.Expr → Option PySem.Str) (hf : ∀ x p y, f (.Name x p) = some y → y = x) : ∀ {is : List Nat} {ts : List PySem.Expr}, chkNs tab is sc ts = true → (ts.filterMap f).length = ts.length → ts.filterMap f = namesOf ts
  | [], [], _, _ => rfl
  | [], _ :: _, h, _ => by simp [chkNs] at h
  | _ :: _, [], h, _ => by simp [chkNs] at h
  | i :: is, t :: ts, h, hl => by
    cases t with
    | Name x p =>
      simp only [chkNs, Bool.and_eq_true] at h
      rw [List.filterMap_cons] at hl ⊢
      cases q : f (.Name x p) with
      | none =>
        rw [q] at hl
        have := List.length_filterMap_le f ts
        simp at hl; omega
      | some y =>
        rw [q] at hl
        obtain rfl := hf x p y q
        simp only [namesOf]
        rw [namesOf_filterMap f hf h.2 (by simpa using hl)]
    | _ => simp [chkNs] at h

theorem sw_cases {tab : List PySem.Str} {is : List Nat} {ts vs : List PySem.Expr} {k k' : Nat} {p p' : Pos} (h : chkNs tab is sc ts = true) (hc : (vs.all (constantsAlone 8)) = false) :
    swappedStores [.Tuple ts k p] (.Tuple vs k' p') env = pure none ∨ swappedStores [.Tuple ts k p] (.Tuple vs k' p') env = pure (some (namesOf ts)) := by
  unfold swappedStores
  simp only []
  split
  · exact .inl rfl
  split
  · exact .inl rfl
  split
  · exact .inl rfl
  rename_i hl
  split
  · exact .inl rfl
  rw [hc]
  right
  simp only [Bool.false_eq_true, if_false]
  have hl' := hl
  simp only [Bool.or_eq_true, bne_iff_ne, ne_eq, not_or, Decidable.not_not] at hl'
  rw [namesOf_filterMap _ (fun x p y e => by
    dsimp only at e
    split at e
    · cases e; rfl
    · cases e) h hl'.1]

theorem filterMap_lt {α β : Type} (f : α → Option β) : ∀ {l : List α} {a : α}, a ∈ l → f a = none → (l.filterMap f).length < l.length
  | x :: r, a, h, e => by
    rw [List.filterMap_cons]
    rcases List.mem_cons.mp h with rfl | h
    · rw [e]; have := List.length_filterMap_le f r; simp; omega
    · have := filterMap_lt f h e
      split
      · exact Nat.lt_succ_of_lt this
      · exact Nat.succ_lt_succ this
theorem sw_none {ts : List PySem.Expr} {value : PySem.Expr} {k : Nat} {p : Pos} (h : swNone ts value = true) : swappedStores [.Tuple ts k p] value env = pure none := by
  unfold swappedStores
  cases value with
  | Tuple vs k' p' =>
    simp only []
    split
    · rfl
    split
    · rfl
    split
    · rfl
    rename_i hl
    exfalso
    simp only [Bool.or_eq_true, bne_iff_ne, ne_eq, not_or, Decidable.not_not] at hl
    simp only [swNone, isTuple, Bool.not_true, Bool.false_or, List.any_eq_true, Bool.not_eq_true'] at h
    obtain ⟨t, ht, hn⟩ := h
    have := filterMap_lt (f := fun (x : PySem.Expr) => match x with
      | .Name id pos => if (env.kindOf id == some .local && pos.line == (ts.head?.map (·.pos.line)).getD 0) = true then some id else none
      | _ => none) ht (by cases t <;> first | rfl | (simp [isName] at hn))
    have e := hl.1
    exact absurd e (Nat.ne_of_lt this)
  | _ => rfl

theorem ss_asgT (hA : AOk A C) (G : Gl C fnm fa mg mb) (K : CallOk prog w A C fa F) {ps : PatL} {e : T} : SoS prog w A C fnm F xs sc env Xc (.asg (.tup ps) e) := by
  intro mu σ r S stmt vals s Q E he hc I hP
  unfold chkS at hc
  split at hc <;> try (first | (rename_i hh; cases hh; done) | (rename_i hh _; cases hh; done) | cases hc)
  rename_i hh
  cases hh
  rename_i ts k p value pos
  simp only [Bool.and_eq_true] at hc
  obtain ⟨⟨⟨h0, h1⟩, h2⟩, h3⟩ := hc
  simp only [evS, Option.bind_eq_some_iff, Option.map_eq_some_iff] at he
  obtain ⟨d, hd, σ', hb, rfl⟩ := he
  refine wpAny_Assign_stores ?_ (by cases value <;> rfl) (sw_none h3)
  refine (all_T hA G K e S).1 hd h2 I.V fun v s₁ L₁ r _ => ?_
  have I₁ := I.le L₁
  show wpAny _ _ (assign (.Tuple ts k p) env v) _ _ _
  refine so_bind (C := C.w S) hA.hh (.tup ps) hb (by simp only [chkP, Bool.and_eq_true]; exact ⟨h0, h1⟩) I₁.V r.plain fun h' tk vals' V' ag kp => ?_
  have kq : Kq [] s.heap h' := (Kq.le (C := C.w S) I.V L₁ _).trans (Kq.kp I₁.V kp _)
  have ex : Exact C.P C.g₀ h' := fun b o p e => kp.old b o (by rw [e]; simp) (I₁.ex b o p e)
  obtain ⟨h1', tk1, rfl, _⟩ := L₁
  exact hP h' tk vals' ⟨V', ex, (I.pl.kq kq).ag ag⟩ (.bind kq ag)

theorem ss_ownN (hA : AOk A C) (G : Gl C fnm fa mg mb) (K : CallOk prog w A C fa F) {is : List Nat} {es : TL} : SoS prog w A C fnm F xs sc env Xc (.ownN is es) := by
  intro mu σ r S stmt vals s Q E he hc I hP
  obtain ⟨sc', hsc'⟩ : ∃ sc', sc' = sc := ⟨_, rfl⟩
  unfold chkS at hc
  split at hc <;> try (first | (rename_i hh; cases hh; done) | (rename_i hh _; cases hh; done) | cases hc)
  rename_i hh
  cases hh
  rename_i ts k p vs' k' p' pos
  subst hsc'
  simp only [Bool.and_eq_true, Bool.not_eq_true', decide_eq_true_eq] at hc
  obtain ⟨⟨⟨⟨⟨⟨h0, h1⟩, h2⟩, h2'⟩, h3⟩, h4⟩, h5⟩ := hc
  simp only [evS] at he
  have hg : (okN C.own is es && is.all (fun x => !C.own x || mu x)) = true := by
    by_cases hg : (okN C.own is es && is.all (fun x => !C.own x || mu x)) = true
    · exact hg
    · rw [if_neg hg] at he; cases he
  rw [if_pos hg] at he
  simp only [Bool.and_eq_true, List.all_eq_true, Bool.or_eq_true, Bool.not_eq_true'] at hg
  simp only [Option.bind_eq_some_iff] at he
  obtain ⟨ds, hds, he⟩ := he
  have hd : okND C.own is ds = true := by
    by_cases hd : okND C.own is ds = true
    · exact hd
    · rw [if_neg hd] at he; cases he
  rw [if_pos hd] at he
  cases he
  have hil := okN_len (F := F) hg.1 hds
  rw [exec_Assign_arm]
  refine wpAny_bind (wpAny_standAt ?_)
  rw [show swapsWithSole [.Tuple ts k p] (.Tuple vs' k' p') pos.line env = pure false from rfl]
  refine wpAny_bind (wpAny_pure ?_)
  rw [if_neg (by decide), arm_eval_Tuple]
  refine wpAny_bind (wpAny_bind (wpAny_standAt (wpAny_bind (evalN hA G K (.refl _) is es hg.1 hd hds h3 I.V fun vs s₁ L₁ hlen V₁ nX nd ok plr => p_newTuple (by rw [hlen, ← hil]; exact h2') ?_))))
  obtain ⟨z1, z2⟩ := zip3_1 hil hlen
  have hT : IsTup (s₁.heap.push (newT vs)) s₁.heap.objs.size vs.toArray := ⟨_, Heap.get?_push_size _ rfl, rfl, _, rfl⟩
  -- the way out, from any heap that goes on from s₁'s
  have fin : ∀ (h₁ : Heap) (its : List It3), (∀ b o, s₁.heap.get? b = some o → h₁.get? b = some o) → updI its σ = updN is ds σ → (∀ j, j ∈ its.map (·.1) ↔ j ∈ is) → (∀ a, a ∈ refsI C.own its → a ∈ refsI C.own (zip3 is vs ds)) → ∀ h' tk vals',
      StV (C.w fun b => S b ∧ b ∉ refsI C.own (zip3 is vs ds)) sc' C.g₀ env (updI its σ) vals' h' → Kp C.g₀ env h₁ h' → (∀ j, j ∉ its.map (·.1) → vals' j = vals j) → (∀ j, j ∈ its.map (·.1) → C.own j = true → ∃ a ∈ refsI C.own its, vals' j = .ref a) →
      Q .next { s₁ with heap := h', toks := tk } := fun h₁ its k eσ ei er h' tk vals' V' kp f1 f2 => by
    have I₁ := I.le L₁
    have ex : Exact C.P C.g₀ h' := fun b o p e => kp.old b o (by rw [e]; simp) (k b o (I₁.ex b o p e))
    have big : ∀ b o, s.heap.get? b = some o → (∀ es k, o.data ≠ .dict es k) → (∀ u, o.data ≠ .cell u) → h'.get? b = some o := fun b o e n1 n2 => by
      have e1 := L₁.exact b o (I.V.offP e n1) e
      refine kp.big b o (k b o e1) (fun z => ?_) n2
      obtain ⟨m, o', es, ep, q, d, _⟩ := I₁.V.fr.ns
      rw [← z, e1] at q; cases q; exact n1 _ _ d
    have same : ∀ j, j ∉ is → updN is ds σ j = σ j := fun j nj => by rw [← eσ]; exact updI_off fun m => nj ((ei j).mp m)
    rw [eσ] at V'
    have pl : PlOk C.own C.tab (updN is ds σ) vals' h' := fun j a oj pj sj ej => by
      by_cases hj : j ∈ is
      · obtain ⟨a', ma, ea⟩ := f2 j ((ei j).mpr hj) oj
        rw [ea] at ej; cases ej
        have hno : nilOnly es = true := by
          rcases Bool.or_eq_true _ _ ▸ h5 with z | z
          · exact z
          · have : is.any (isPl C.tab) = true := List.any_eq_true.mpr ⟨j, hj, pj⟩
            rw [this] at z; cases z
        obtain ⟨o, q, r1, r2, r3⟩ := plr hno a (er _ ma)
        refine ⟨o, kp.big a o (k a o q) (fun z => ?_) r3, r1, r2, r3⟩
        obtain ⟨m, o', es, ep, q', d, _⟩ := I₁.V.fr.ns
        rw [← z, q] at q'; cases q'; exact r2 _ _ d
      · rw [same j hj] at sj
        rw [f1 j fun m => hj ((ei j).mp m)] at ej
        obtain ⟨o, q, r1, r2, r3⟩ := I.pl j a oj pj sj ej
        exact ⟨o, big a o q r2 r3, r1, r2, r3⟩
    obtain ⟨h1', tk1, rfl, _⟩ := L₁
    refine hP h' tk vals' ⟨V'.wide fun _ z => z.1, ex, pl⟩ ⟨fun b o e n1 n2 n => ⟨big b o e n1 n2, fun j oj mj sj ej => ?_⟩, fun j oj mj => ?_⟩
    · by_cases hj : j ∈ is
      · obtain ⟨a, ma, ea⟩ := f2 j ((ei j).mpr hj) oj
        rw [ea] at ej; cases ej
        have := nX _ (er _ ma)
        rw [e] at this; cases this
      · rw [same j hj] at sj
        rw [f1 j fun m => hj ((ei j).mp m)] at ej
        exact n j oj mj sj ej
    · have hj : j ∉ is := fun m => by
        rcases hg.2 j m with z | z
        · rw [oj] at z; cases z
        · rw [mj] at z; cases z
      exact ⟨same j hj, f1 j fun m => hj ((ei j).mp m)⟩
  rcases sw_cases (env := env) (k := k) (k' := k') (p := p) (p' := p') h1 h4 with hsw | hsw
  · rw [hsw]
    refine wpAny_bind (wpAny_pure ?_)
    show wpAny _ _ (do assign (.Tuple ts k p) env (.ref s₁.heap.objs.size); pure Flow.next) _ _ _
    obtain ⟨e1, e2⟩ := chkNs_each (env := env) h1
    refine wpAny_bind (PyProof.Rows.assign_Tuple_tuple (hA.hh.no h0) hT (by rw [e2, chkNs_len h1, List.size_toArray, hlen, hil]) e1 fun h₁ hx => ?_)
    have k01 : ∀ b o, s₁.heap.get? b = some o → h₁.get? b = some o := fun b o e => by
      have e' := Heap.get?_push_of_some (newT vs) e
      exact hx b o (Nat.ne_of_lt (Heap.lt_size e')) e'
    have V₂ := V₁.le (h' := h₁) (.of k01) fun b o _ e => k01 b o e
    show wpAny _ _ (assignInOrder ((assignEach ts env).map (·.2)) vs.toArray.toList) _ _ _
    rw [show vs.toArray.toList = (zip3 is vs ds).map (·.2.1) from by rw [z2]]
    exact seqStore (zip3 is vs ds) (s := { s₁ with heap := h₁ }) (acts_fwd (C := C.w fun b => S b ∧ b ∉ refsI C.own (zip3 is vs ds)) h1 hil hlen) V₂ (fun x hx => (ok x hx).le (.of k01)) nd fun h' tk vals' V' kp f1 f2 =>
      wpAny_pure (fin h₁ _ k01 (zip3_upd hil hlen) (fun j => by rw [z1]) (fun _ m => m) h' tk vals' V' kp f1 f2)
  · rw [hsw]
    refine wpAny_bind (wpAny_pure ?_)
    show wpAny _ _ (do rule "assign.swapped-stores"; let items ← unpackItems (.ref s₁.heap.objs.size) (namesOf ts).length none; assignInOrder ((namesOf ts).reverse.map fun n => bindName env n) items.reverse; pure Flow.next) _ _ _
    have hnl : (namesOf ts).length = vs.toArray.size := by
      have a1 := acts_names (prog := prog) (w := w) (A := A) (C := C) (env := env) h1 hil hlen
      have : ∀ {its : List It3} {as : List (Value → Sem Unit)}, Acts prog w A C sc' env its as → as.length = its.length := fun a => by
        induction a with
        | nil => rfl
        | cons x _ _ _ _ ih => simp [ih]
      have h5 := this a1
      have h6 := congrArg List.length z2
      simp at h5 h6 ⊢
      omega
    rw [hnl]
    refine wpAny_bind (wpAny_rule (wpAny_bind (PyProof.Rows.unpackItems_tuple (hA.hh.no h0) hT fun h₁ hx => ?_)))
    have k01 : ∀ b o, s₁.heap.get? b = some o → h₁.get? b = some o := fun b o e => by
      have e' := Heap.get?_push_of_some (newT vs) e
      exact hx b o (Nat.ne_of_lt (Heap.lt_size e')) e'
    have V₂ := V₁.le (h' := h₁) (.of k01) fun b o _ e => k01 b o e
    rw [show vs.toArray.toList.reverse = (zip3 is vs ds).reverse.map (·.2.1) from by rw [List.map_reverse, z2], List.map_reverse]
    refine wpAny_bind (seqStore (zip3 is vs ds).reverse (s := { s₁ with heap := h₁ }) (acts_names (C := C.w fun b => S b ∧ b ∉ refsI C.own (zip3 is vs ds)) h1 hil hlen).rev V₂ (fun x hx => (ok x (List.mem_reverse.mp hx)).le (.of k01)) (refsI_rev.nodup_iff.mpr nd) fun h' tk vals' V' kp f1 f2 =>
      wpAny_pure (fin h₁ _ k01 ?_ (fun j => ?_) (fun a m => (refsI_rev.mem_iff).mp m) h' tk vals' V' kp f1 f2))
    · rw [updI_rev (by rw [z1]; exact h2)]; exact zip3_upd hil hlen
    · rw [List.map_reverse, List.mem_reverse, z1]
end
end Mine
end

section
open PySem PySem.W PyProof.Rows PySem.SeqAt PySem.MeetsSeq PySem.MeetsSeq2 PySem.MeetsSeq3
set_option maxRecDepth 100000
namespace Mine

/-! ## 24. Loops -/
theorem NotM.toO {own mu : Nat → Bool} {σ σ' : Sg} {vals vals' : Nat → Value} {b : Addr} (m : NotM own mu σ' vals' b) (fix : ∀ j, own j = true → mu j = false → σ' j = σ j ∧ vals' j = vals j) (n : NotO own σ vals b) : NotO own σ' vals' b := fun j o s e => by
  cases q : mu j with
  | true => exact m j o q s e
  | false =>
    obtain ⟨e1, e2⟩ := fix j o q
    rw [e1] at s; rw [e2] at e; exact n j o s e
theorem Ks.on {C : Cx} {S : Addr → Prop} {mu : Nat → Bool} {σ σ' : Sg} {vals vals' : Nat → Value} {h h' : Heap} (k : Ks C.own mu σ vals h σ' vals' h') : On h h' (Sx (C.w S) σ vals) (Sx (C.w S) σ' vals') := fun a ha o ho ⟨xs, n, hd⟩ => by
  obtain ⟨e, m⟩ := k.big a o ho (fun _ _ => by rw [hd]; simp) (fun _ => by rw [hd]; simp) (NotO.notM ha.2)
  exact ⟨⟨ha.1, m.toO k.fix ha.2⟩, o.slots, e⟩
theorem Ks.weak {own mu : Nat → Bool} {σ σ' : Sg} {vals vals' : Nat → Value} {h h' : Heap} (k : Ks own (fun _ => false) σ vals h σ' vals' h') : Ks own mu σ vals h σ' vals' h' :=
  ⟨fun b o e n1 n2 n => ⟨(k.big b o e n1 n2 fun _ _ z => by cases z).1, fun j oj mj sj ej => by
    obtain ⟨e1, e2⟩ := k.fix j oj rfl
    rw [e1] at sj; rw [e2] at ej; exact n j oj mj sj ej⟩, fun j oj _ => k.fix j oj rfl⟩

section
variable {prog : Program} {w : World} {A : Around} {C : Cx} {fnm : List PySem.Str} {F : Fn} {fa : Nat → Addr} {mg mb : PySem.Str → Option Value} {xs : Bool} {sc : Scope} {env : Env} {Xc Xh : Value → Shared → Prop} {Xf : Shared → Value → Shared → Prop}

theorem Pst.weak {S : Addr → Prop} {mu : Nat → Bool} {σ : Sg} {vals : Nat → Value} {s : Shared} {Q : Flow → Shared → Prop} {E : Value → Shared → Prop} {r : R} (hP : Pst C S sc env mu Xc σ vals s Q E r) : Pst C S sc env (fun _ => false) Xc σ vals s Q E r := by
  cases r with
  | nxt σ' => exact fun h' tk vals' I' k => hP h' tk vals' I' k.weak
  | cnt σ' => exact fun h' tk vals' I' k => hP h' tk vals' I' k.weak
  | ret d => exact hP
  | ties => exact hP

def ownPost (prog : Program) (w : World) (A : Around) (env : Env) (Q : Flow → Shared → Prop) (E : Value → Shared → Prop) (r : Result) (s' : Shared) : Prop := match r with | .ok f => Q f s' | .error e => cameBackBy (model prog w) A env E e s'

theorem noted_ok (X : ExOk prog w A C F fa xs sc env Xc Xh Xf) {s₀ : Shared} {Q : Flow → Shared → Prop} {E : Value → Shared → Prop} (hE : ∀ x s', Same s₀ s' → Xc x s' → E x s') : ∀ x s', Same s₀ s' → Xc x s' → notedBy (model prog w) A env (fun e s' => ownPost prog w A env Q E (.error e) s') x s' := fun x s' hs hx => by
  unfold notedBy
  exact X.note x s' _ _ hx fun s'' hs' hx' => X.back x s'' E hx' fun s3 hs3 h3 => hE x s3 ((hs.trans hs').trans hs3) h3

theorem for_core (hA : AOk A C) (X : ExOk prog w A C F fa xs sc env Xc Xh Xf) {mu : Nat → Bool} {b : SL} {p : Pat} (hb : SoSL prog w A C fnm F xs sc env Xc b) {target : PySem.Expr} {body : List PySem.Stmt} (hp : chkP C.tab p sc target = true) (hcb : chkSL C.tab fnm xs b sc body = true)
    {S S2 : Addr → Prop} {σ₀ : Sg} {vals₀ : Nat → Value} {s₀ s : Shared} {r : R} {Q : Flow → Shared → Prop} {E : Value → Shared → Prop} {I : Addr} {fp wr : List Addr} {ds : List D} {Src : Heap → (Addr → Prop) → Prop} {St : Nat → Heap → Prop}
    (W : It prog w A target I fp wr ds Src St) (hs : ∃ h1 tk1, s = { s₀ with heap := h1, toks := tk1 })
    (he : loopF (fun d σ => (bindP C.own p d σ).bind fun σ' => evSL C.own F mu b σ') ds σ₀ = some r)
    (hI : StI C S2 sc env σ₀ vals₀ s.heap) (ks : Ks C.own mu σ₀ vals₀ s₀.heap σ₀ vals₀ s.heap) (hst : St 0 s.heap) (hsrc : Src s.heap (Sx (C.w S2) σ₀ vals₀))
    (hf : ∀ a ∈ fp, NotM C.own mu σ₀ vals₀ a) (hwS : ∀ a, S2 a → a ∉ wr) (hwO : ∀ a ∈ wr, NotO C.own σ₀ vals₀ a) (hwn : ∀ a ∈ wr, s₀.heap.get? a = none) (hwg : ∀ a ∈ wr, C.g₀.get? a = none) (hS : ∀ a, S2 a → S a) (hSw : ∀ a ∈ wr, S a)
    (hP : Pst C S sc env mu Xc σ₀ vals₀ s₀ Q E r) : codeAny (model prog w) A (.forLoop target (.ref I) body [] env) (ownPost prog w A env Q E) s := by
  obtain ⟨h0, tk0, rfl⟩ := hs
  refine codeAny_forLoop_any (fun n s' => ∃ i h tk σ vals, s' = { s₀ with heap := h, toks := tk } ∧ n = ds.length + 1 - i ∧ i ≤ ds.length ∧ loopF (fun d σ => (bindP C.own p d σ).bind fun σ' => evSL C.own F mu b σ') (ds.drop i) σ = some r ∧
    StI C S2 sc env σ vals h ∧ Ks C.own mu σ₀ vals₀ s₀.heap σ vals h ∧ St i h ∧ Src h (Sx (C.w S2) σ vals) ∧ (∀ a ∈ fp, NotM C.own mu σ vals a) ∧ (∀ a ∈ wr, NotO C.own σ vals a)) ?_ (ds.length + 1) ⟨0, h0, tk0, σ₀, vals₀, rfl, rfl, Nat.zero_le _, by simpa using he, hI, ks, hst, hsrc, hf, hwO⟩
  rintro n s' ⟨i, h, tk, σ, vals, rfl, rfl, hi, hl, hI, ks, hst, hsrc, hf, hwO⟩
  have hwf : ∀ {i h'}, St i h' → ∀ a ∈ wr, ∃ o, h'.get? a = some o ∧ (∀ es n, o.data ≠ .dict es n) ∧ ∀ u, o.data ≠ .cell u := fun st a m => W.obj _ _ st a (W.sub a m)
  by_cases hlt : i < ds.length
  · have hd : ds[i]? = some ds[i] := List.getElem?_eq_getElem hlt
    rw [List.drop_eq_getElem_cons hlt] at hl
    simp only [loopF, Option.bind_eq_some_iff] at hl
    obtain ⟨x, ⟨σ1, hb1, hx⟩, hl⟩ := hl
    refine W.item i { s₀ with heap := h, toks := tk } (Sx (C.w S2) σ vals) ds[i] _ _ hd hst hsrc (fun a n => hI.V.new n) fun v h1 tk1 k1 hgo => ?_
    refine hgo _ _ _ rfl fun h2 st2 rv k2 => ?_
    have k12 : ∀ b o, b ∉ wr → h.get? b = some o → h2.get? b = some o := fun b o n e => k2 b o n (k1 b o n e)
    have V2 : StV (C.w S2) sc C.g₀ env σ vals h2 := hI.V.chg wr k12 (hwf hst) (fun a m => by obtain ⟨o, q, _⟩ := hwf st2 a m; rw [q]; simp) hwg (fun a m z => hwS a z m) hwO
    have pl2 : PlOk C.own C.tab σ vals h2 := fun i a oi pi si vi => by
      obtain ⟨o, q, r⟩ := hI.pl i a oi pi si vi
      exact ⟨o, k12 a o (fun m => hwO a m i oi si vi) q, r⟩
    have I2 : StI C S2 sc env σ vals h2 := ⟨V2, fun b o p e => k12 b o (fun m => by rw [hwg b m] at e; cases e) (hI.ex b o p e), pl2⟩
    refine so_bind (C := C.w S2) hA.hh p hb1 hp V2 rv fun h3 tk3 vals1 V3 ag kp => ?_
    have I3 : StI C S2 sc env σ1 vals1 h3 := ⟨V3, fun b o p e => kp.old b o (by rw [e]; simp) (I2.ex b o p e), (I2.pl.kq (Kq.kp V2 kp _)).ag ag⟩
    have ks23 : Ks C.own mu σ vals h2 σ1 vals1 h3 := .bind (Kq.kp V2 kp _) ag
    have next : ∀ σ' h' tk' vals', StI C S2 sc env σ' vals' h' → Ks C.own mu σ1 vals1 h3 σ' vals' h' → loopF (fun d σ => (bindP C.own p d σ).bind fun σ' => evSL C.own F mu b σ') (ds.drop (i + 1)) σ' = some r →
        ∃ m, m < ds.length + 1 - i ∧ ∃ i h tk σ vals, ({ s₀ with heap := h', toks := tk' } : Shared) = { s₀ with heap := h, toks := tk } ∧ m = ds.length + 1 - i ∧ i ≤ ds.length ∧ loopF (fun d σ => (bindP C.own p d σ).bind fun σ' => evSL C.own F mu b σ') (ds.drop i) σ = some r ∧
          StI C S2 sc env σ vals h ∧ Ks C.own mu σ₀ vals₀ s₀.heap σ vals h ∧ St i h ∧ Src h (Sx (C.w S2) σ vals) ∧ (∀ a ∈ fp, NotM C.own mu σ vals a) ∧ (∀ a ∈ wr, NotO C.own σ vals a) := fun σ' h' tk' vals' I' k' hl' => by
      have k2' := ks23.trans k'
      have fpk : ∀ a ∈ fp, ∀ o, h2.get? a = some o → h'.get? a = some o ∧ NotM C.own mu σ' vals' a := fun a m o e => by
        obtain ⟨o', q, n1, n2⟩ := W.obj _ _ st2 a m
        rw [q] at e; cases e
        exact k2'.big a _ q n1 n2 (hf a m)
      refine ⟨ds.length + 1 - (i + 1), by omega, i + 1, h', tk', σ', vals', rfl, rfl, hlt, hl', I', ⟨fun b o e n1 n2 n => ?_, fun j oj mj => ?_⟩, ?_, ?_, ?_, ?_⟩
      · obtain ⟨e1, m1⟩ := ks.big b o e n1 n2 n
        exact k2'.big b o (k12 b o (fun m => by rw [hwn b m] at e; cases e) e1) n1 n2 m1
      · obtain ⟨a1, a2⟩ := ks.fix j oj mj
        obtain ⟨b1, b2⟩ := k2'.fix j oj mj
        exact ⟨b1.trans a1, b2.trans a2⟩
      · exact W.frame _ _ _ st2 fun a m o e => (fpk a m o e).1
      · refine W.src h h' _ _ (fun a ha o ho hx => ?_) hsrc
        exact k2'.on a ha o (k12 a o (hwS a ha.1) ho) hx
      · intro a m
        obtain ⟨o, q, _⟩ := W.obj _ _ st2 a m
        exact (fpk a m o q).2
      · intro a m
        obtain ⟨o, q, _⟩ := W.obj _ _ st2 a (W.sub a m)
        exact (fpk a (W.sub a m) o q).2.toO k2'.fix (hwO a m)
    refine hb hx hcb I3 ?_
    cases x with
    | nxt σ' => exact fun h' tk' vals' I' k' => next σ' h' tk' vals' I' k' hl
    | cnt σ' => exact fun h' tk' vals' I' k' => next σ' h' tk' vals' I' k' hl
    | ret d =>
      cases hl
      exact fun h' tk' v e rr => hP h' tk' v e (rr.mono fun a z => z.elim (fun z => .inl (hS a z)) .inr)
    | ties =>
      cases hl
      exact fun x s' hs hx => noted_ok X hP x s' (Same.trans ⟨h3, tk3, rfl⟩ hs) hx
  · have hi' : i = ds.length := by omega
    subst hi'
    simp [loopF] at hl
    subst hl
    refine W.done { s₀ with heap := h, toks := tk } _ _ (hA.hh.hx hI.V.stay) hst fun h1 tk1 k1 => ?_
    refine wpAny_pure (hP h1 tk1 vals ⟨hI.V.chg' S hS wr k1 (hwf hst) (fun a m _ => hSw a m) hwg (fun a m z => hwS a z m) hwO, fun b o p e => k1 b o (fun m => by rw [hwg b m] at e; cases e) (hI.ex b o p e), fun i a oi pi si vi => by
      obtain ⟨o, q, r⟩ := hI.pl i a oi pi si vi
      exact ⟨o, k1 a o (fun m => hwO a m i oi si vi) q, r⟩⟩ ⟨fun b o e n1 n2 n => ?_, ks.fix⟩)
    obtain ⟨e1, m1⟩ := ks.big b o e n1 n2 n
    exact ⟨k1 b o (fun m => by rw [hwn b m] at e; cases e) e1, m1⟩

theorem ss_loop (hA : AOk A C) (G : Gl C fnm fa mg mb) (K : CallOk prog w A C fa F) (X : ExOk prog w A C F fa xs sc env Xc Xh Xf) {p : Pat} {sr : Sr} {b : SL} (hb : SoSL prog w A C fnm F xs sc env Xc b) : SoS prog w A C fnm F xs sc env Xc (.loop p sr b) := by
  intro mu σ r S stmt vals s Q E he hc I hP
  obtain ⟨sc', hsc'⟩ : ∃ sc', sc' = sc := ⟨_, rfl⟩
  unfold chkS at hc
  split at hc <;> try (first | (rename_i hh; cases hh; done) | (rename_i hh _; cases hh; done) | cases hc)
  rename_i hh
  cases hh
  rename_i target iter body pos
  subst hsc'
  simp only [Bool.and_eq_true] at hc
  obtain ⟨⟨h1, h2⟩, h3⟩ := hc
  simp only [evS, Option.bind_eq_some_iff] at he
  obtain ⟨ds, hds, he⟩ := he
  refine wpAny_For ?_ (fold_pure (chkSr_set h2) env)
  refine all_Sr hA G K sr S hds h2 I.V fun Ia fp wr Src St s₂ L W n1 n2 st src hlen => ?_
  have I₂ := I.le L
  have hwx : ∀ a ∈ wr, s₂.heap.get? a ≠ none := fun a m => by obtain ⟨o, q, _⟩ := W.obj _ _ st a (W.sub a m); rw [q]; simp
  have V2 := I.V.shun I₂.V L.ext wr n1 hwx
  refine for_core hA X hb h1 h3 (S2 := fun a => S a ∧ a ∉ wr) W (by obtain ⟨h1, tk1, rfl, _⟩ := L; exact ⟨h1, tk1, rfl⟩) he ⟨V2, I₂.ex, I₂.pl⟩ (.kq (Kq.le (C := C.w S) I.V L [])) st (W.src _ _ _ _ (.of (.refl _) fun a ha => ⟨⟨ha.1.1, ha.2⟩, ha.1.2⟩) src)
    (fun a m => ?_) (fun a ha => ha.2) (fun a m => (I.V.new (n1 a m)).2) n1 (fun a m => I.V.ext.none (n1 a m)) (fun a ha => ha.1) (fun a m => (I.V.new (n1 a m)).1) hP
  rcases n2 a m with z | z
  · exact NotO.notM z.2
  · exact NotO.notM (I.V.new z).2

theorem ss_loopB (hA : AOk A C) (X : ExOk prog w A C F fa xs sc env Xc Xh Xf) {p : Pat} {x : Nat} {b : SL} (hb : SoSL prog w A C fnm F xs sc env Xc b) : SoS prog w A C fnm F xs sc env Xc (.loopB p x b) := by
  intro mu σ r S stmt vals s Q E he hc I hP
  obtain ⟨sc', hsc'⟩ : ∃ sc', sc' = sc := ⟨_, rfl⟩
  unfold chkS at hc
  split at hc <;> try (first | (rename_i hh; cases hh; done) | (rename_i hh _; cases hh; done) | cases hc)
  rename_i hh
  cases hh
  rename_i target iter body pos
  subst hsc'
  simp only [Bool.and_eq_true, Bool.or_eq_true] at hc
  obtain ⟨⟨⟨h1, h2⟩, h3⟩, h4⟩ := hc
  simp only [evS] at he
  have ho : C.own x = true := by
    by_cases ho : C.own x = true
    · exact ho
    · rw [if_neg ho] at he; cases he
  rw [if_pos ho] at he
  simp only [Option.bind_eq_some_iff] at he
  obtain ⟨a, ha, ds, hds, he⟩ := he
  obtain rfl := listD_some hds
  refine wpAny_For ?_ (fold_pure (by cases iter <;> first | rfl | (simp [chk] at h3)) env)
  refine so_own I ha h3 ?_
  obtain ⟨ad, vs, e1, hl, hr, hz⟩ := own_list I.V ho ha
  rw [e1]
  have hlt : ad < s.heap.objs.size := by obtain ⟨_, q, _⟩ := hl; exact Heap.lt_size q
  refine wpAny_pyIter_list hl ?_
  have L := Le.push C.base C.P s { cls := .type "list_iterator", data := .fields #[.ref ad, .int 0 0] }
  have I₂ := I.le L
  have hn : s.heap.get? s.heap.objs.size = none := fresh_size
  have V2 := I.V.shun I₂.V L.ext [s.heap.objs.size] (fun a m => by obtain rfl := List.mem_singleton.mp m; exact hn) (fun a m => by
    obtain rfl := List.mem_singleton.mp m
    have := Heap.get?_push_size (o := { cls := .type "list_iterator", data := .fields #[.ref ad, .int 0 0] }) s.heap rfl
    show Heap.get? (s.heap.push _) _ ≠ none
    rw [this]; simp)
  refine for_core hA X hb h1 h4 (mu := fun _ => false) (S2 := fun a => S a ∧ a ∉ [s.heap.objs.size]) (It.list h2 s.heap.objs.size ad (Nat.ne_of_lt hlt) hr.length) ⟨_, _, rfl⟩ he ⟨V2, I₂.ex, I₂.pl⟩ (.kq (Kq.le (C := C.w S) I.V L [])) ⟨⟨_, Heap.get?_push_size _ rfl, rfl, rfl⟩, hl.push _⟩
    (hr.on fun a ha o ho _ => ⟨⟨⟨ha.1, fun m => by obtain rfl := List.mem_singleton.mp m; rw [hn] at ho; cases ho⟩, ha.2⟩, L.ext a o ho⟩)
    (fun a m => fun _ _ z => by cases z) (fun a ha => ha.2) (fun a m => ?_) (fun a m => ?_) (fun a m => ?_) (fun a ha => ha.1) (fun a m => ?_) hP.weak
  · obtain rfl := List.mem_singleton.mp m; exact (I.V.new hn).2
  · obtain rfl := List.mem_singleton.mp m; exact hn
  · obtain rfl := List.mem_singleton.mp m; exact I.V.ext.none hn
  · obtain rfl := List.mem_singleton.mp m; exact (I.V.new hn).1

theorem ss_whil (hA : AOk A C) (G : Gl C fnm fa mg mb) (K : CallOk prog w A C fa F) (X : ExOk prog w A C F fa xs sc env Xc Xh Xf) {n : Nat} {c : T} {b : SL} (hb : SoSL prog w A C fnm F xs sc env Xc b) : SoS prog w A C fnm F xs sc env Xc (.whil n c b) := by
  intro mu σ₀ r S stmt vals₀ s Q E he hc I hP
  obtain ⟨sc', hsc'⟩ : ∃ sc', sc' = sc := ⟨_, rfl⟩
  unfold chkS at hc
  split at hc <;> try (first | (rename_i hh; cases hh; done) | (rename_i hh _; cases hh; done) | cases hc)
  rename_i hh
  cases hh
  rename_i test body pos
  subst hsc'
  simp only [Bool.and_eq_true] at hc
  simp only [evS] at he
  refine wpAny_While ?_
  refine codeAny_whileLoop (R := ownPost prog w A env Q E) (fun k s' => ∃ h tk σ vals, s' = { s with heap := h, toks := tk } ∧ whileF (fun σ => (ev C.own F false c σ).bind boolD) (fun σ => evSL C.own F mu b σ) k σ = some r ∧ StI C S sc' env σ vals h ∧ Ks C.own mu σ₀ vals₀ s.heap σ vals h) ?_ n ⟨s.heap, s.toks, σ₀, vals₀, rfl, he, I, .refl⟩
  rintro k s' ⟨h, tk, σ, vals, rfl, hw, I', ks⟩
  cases k with
  | zero => simp [whileF] at hw
  | succ k =>
    simp only [whileF, Option.bind_eq_some_iff] at hw
    obtain ⟨q, ⟨d, hd, hq⟩, hw⟩ := hw
    obtain rfl := boolD_some hq
    refine (all_T hA G K c S).2 hd hc.1 I'.V fun s₁ L₁ => ?_
    have I₁ : StI C S sc' env σ vals s₁.heap := I'.le (s := { s with heap := h, toks := tk }) L₁
    have ks₁ : Ks C.own mu σ₀ vals₀ s.heap σ vals s₁.heap := ks.trans (.kq (Kq.le (C := C.w S) (s := { s with heap := h, toks := tk }) I'.V L₁ []))
    obtain ⟨h1, tk1, rfl, _⟩ := L₁
    cases q with
    | true =>
      simp only [if_true, Option.bind_eq_some_iff] at hw ⊢
      obtain ⟨x, hx, hw⟩ := hw
      refine hb hx hc.2 I₁ ?_
      cases x with
      | nxt σ' => exact fun h' tk' vals' I2 k' => ⟨k, Nat.lt_succ_self _, h', tk', σ', vals', rfl, hw, I2, ks₁.trans k'⟩
      | cnt σ' => exact fun h' tk' vals' I2 k' => ⟨k, Nat.lt_succ_self _, h', tk', σ', vals', rfl, hw, I2, ks₁.trans k'⟩
      | ret d => cases hw; exact fun h' tk' v e rr => hP h' tk' v e rr
      | ties => cases hw; exact fun x s' hs hx => noted_ok X hP x s' (Same.trans ⟨h1, tk1, rfl⟩ hs) hx
    | false =>
      simp only [Bool.false_eq_true, if_false] at hw ⊢
      cases hw
      exact wpAny_pure (hP h1 tk1 vals I₁ ks₁)

theorem retC_err (hA : AOk A C) (G : Gl C fnm fa mg mb) (K : CallOk prog w A C fa F) (X : ExOk prog w A C F fa xs sc env Xc Xh Xf) (hxs : xs = true) (hcm : calmT C.tab = false) {f : Nat} {l : TL} {S : Addr → Prop} {σ : Sg} {vals : Nat → Value} {s : Shared} {ds : List D} {e' : PySem.Expr} {pos : Pos} {Q : Flow → Shared → Prop} {E : Value → Shared → Prop}
    (hds : evL C.own F false l σ = some ds) (hq : F f ds = some (.error ())) (hc : chk C.tab fnm (.call f l) sc e' = true) (I : StI C S sc env σ vals s.heap)
    (hE : ∀ s₁ x s', Le C.base C.P s s₁ → StI C S sc env σ vals s₁.heap → Same s₁ s' → Xf s₁ x s' → E x s') : wpAny (model prog w) A (exec (.Return (some e') pos) env) Q E s := by
  obtain ⟨sc', hsc'⟩ : ∃ sc', sc' = sc := ⟨_, rfl⟩
  unfold chk at hc
  split at hc <;> try (first | (rename_i hh; cases hh; done) | (rename_i hh _; cases hh; done) | cases hc)
  rename_i f' l' sc'' x p es pos hh
  cases hh
  subst hsc'
  simp only [Bool.and_eq_true, beq_iff_eq, Bool.not_eq_true'] at hc
  obtain ⟨⟨⟨⟨⟨_, h1⟩, h2⟩, h3⟩, h4⟩, h5⟩ := hc
  obtain ⟨g1, o, fd, g2, g3⟩ := G.fn f x h1
  refine wpAny_Return_some (PyProof.Rows.Call_Name rfl (glob_name (C := C.w S) (G.at S) I.V h2 (ne_beq h3) g1 ?_))
  refine Calls.callWith_function (o := o) (fd := fd) (evalArgs_of h4 h5 ((all_L hA G K l S).1 hds h5 I.V fun vs s₁ L₁ hlen hS _ => ⟨⟨(I.le L₁).V.stay _ _ g2, g3⟩, ?_⟩))
  have I₁ := I.le L₁
  exact X.callx hxs hcm f ds hq s₁ vs S S σ vals (hS _ (fun _ y => y.1) rfl) (fun a n => (I₁.V.new n).1) I₁ _ _ fun x s' hs hx => hE s₁ x s' L₁ I₁ hs hx

theorem ss_retC (hA : AOk A C) (G : Gl C fnm fa mg mb) (K : CallOk prog w A C fa F) (X : ExOk prog w A C F fa xs sc env Xc Xh Xf) {f : Nat} {l : TL} : SoS prog w A C fnm F xs sc env Xc (.retC f l) := by
  intro mu σ r S stmt vals s Q E he hc I hP
  obtain ⟨sc', hsc'⟩ : ∃ sc', sc' = sc := ⟨_, rfl⟩
  unfold chkS at hc
  split at hc <;> try (first | (rename_i hh; cases hh; done) | (rename_i hh _; cases hh; done) | cases hc)
  rename_i hh
  cases hh
  rename_i e' pos
  subst hsc'
  simp only [Bool.and_eq_true, Bool.not_eq_true'] at hc
  obtain ⟨⟨hxs, hcm⟩, hc⟩ := hc
  simp only [evS, Option.bind_eq_some_iff, Option.map_eq_some_iff] at he
  obtain ⟨ds, hds, q, hq, rfl⟩ := he
  cases q with
  | ok d =>
    refine wpAny_Return_some ((all_T hA G K (.call f l) S).1 (bw := false) (d := d) ?_ hc I.V fun v s₁ L₁ r _ => ?_)
    · simp only [ev, Option.bind_eq_some_iff]
      exact ⟨ds, hds, by rw [hq]; rfl⟩
    · have I₁ := I.le L₁
      obtain ⟨h1, tk1, rfl, _⟩ := L₁
      exact hP h1 tk1 v I₁.done (r.plain.mono fun _ z => .inl z.1)
  | error u => exact retC_err hA G K X hxs hcm hds hq hc I fun s₁ x s' L₁ I₁ hs hx => hP x s' ((Same.le L₁).trans hs) (X.toXc s₁ s' S σ vals x I₁ hs hx)

mutual
theorem lite_T {S : Addr → Prop} (hu : A.units + 50 < cLine) : ∀ t : T, lite t = true → SoT prog w A (C.w S) fnm F t ∧ SoB prog w A (C.w S) fnm F t
  | .k c, _ => both rfl (so_k c)
  | .v i, _ => both rfl (so_v i)
  | .op o a b, h => by
    simp only [lite, Bool.and_eq_true] at h
    exact both rfl (so_op (lite_T hu a h.1).1 (lite_T hu b h.2).1)
  | .neg a, h => both rfl (so_neg (lite_T hu a h).1)
  | .cmp o a b, h => by
    simp only [lite, Bool.and_eq_true] at h
    exact ⟨so_cmp hu (lite_T hu a h.1).1 (lite_T hu b h.2).1, sb_cmp hu (lite_T hu a h.1).1 (lite_T hu b h.2).1⟩
  | .isn yes a, h => ⟨so_isn (lite_T hu a h).1, sb_isn (lite_T hu a h).1⟩
  | .bop isAnd l, h => ⟨so_bop (lite_L hu l h).2, sb_bop (lite_L hu l h).2⟩
  | .not a, h => ⟨so_not (lite_T hu a h).1, sb_not (lite_T hu a h).2⟩
  | .ite c a b, h => by
    simp only [lite, Bool.and_eq_true] at h
    exact ⟨so_ite (lite_T hu c h.1.1).2 (lite_T hu a h.1.2).1 (lite_T hu b h.2).1, sb_ite (lite_T hu c h.1.1).2 (lite_T hu a h.1.2).2 (lite_T hu b h.2).2⟩
  | .list l, h => both rfl (so_list (lite_L hu l h).1)
  | .idx a i, h => by
    simp only [lite, Bool.and_eq_true] at h
    exact both rfl (so_idx (lite_T hu a h.1).1 (lite_T hu i h.2).1)
  | .rep _ _, h => by simp [lite] at h
  | .tup _, h => by simp [lite] at h
  | .sl _ _ _, h => by simp [lite] at h
  | .rev _, h => by simp [lite] at h
  | .call _ _, h => by simp [lite] at h
  | .bi _ _, h => by simp [lite] at h
  | .comp _ _, h => by simp [lite] at h
theorem lite_L {S : Addr → Prop} (hu : A.units + 50 < cLine) : ∀ l : TL, liteL l = true → SoL prog w A (C.w S) fnm F l ∧ SoBo prog w A (C.w S) fnm F l
  | .nil, _ => ⟨sl_nil, sbo_nil⟩
  | .cons a l, h => by
    simp only [liteL, Bool.and_eq_true] at h
    exact ⟨sl_cons (lite_T hu a h.1).1 (lite_L hu l h.2).1, sbo_cons (lite_T hu a h.1).1 (lite_T hu a h.1).2 (lite_L hu l h.2).2⟩
end

theorem ss_raise (X : ExOk prog w A C F fa xs sc env Xc Xh Xf) : SoS prog w A C fnm F xs sc env Xc .raise := by
  intro mu σ r S stmt vals s Q E he hc I hP
  obtain ⟨sc', hsc'⟩ : ∃ sc', sc' = sc := ⟨_, rfl⟩
  unfold chkS at hc
  split at hc <;> try (first | (rename_i hh; cases hh; done) | (rename_i hh _; cases hh; done) | cases hc)
  subst hsc'
  rename_i x np msg k q cpos pos _
  simp only [Bool.and_eq_true, beq_iff_eq, Bool.not_eq_true'] at hc
  obtain ⟨⟨⟨h1, h0⟩, rfl⟩, h3⟩ := hc
  cases he
  exact X.raise h1 h0 np cpos pos msg k q s S σ vals h3 I Q E hP

theorem Exc.ext {h h' : Heap} {e : Addr} (x : Exc h e) (k : Ext h h') : Exc h' e := by
  obtain ⟨o, vs, h1, h2, h3⟩ := x
  obtain ⟨sl, h4⟩ := k e o h1
  exact ⟨_, vs, h4, h2, h3⟩

/-- a call within a handler -/
theorem so_callh (hA : AOk A C) (G : Gl C fnm fa mg mb) (X : ExOk prog w A C F fa xs sc env Xc Xh Xf) {ea : Addr} {f : Nat} {l : TL} {S : Addr → Prop} {σ : Sg} {vals : Nat → Value} {s : Shared} {ds : List D} {d : D} {e' : PySem.Expr} {Q E : Value → Shared → Prop}
    (hds : evL C.own F false l σ = some ds) (hq : F f ds = some (.ok d)) (hcm : calmI f = true) (hl : liteL l = true) (hc : chk C.tab fnm (.call f l) sc e' = true) (I : StI C S sc env σ vals s.heap) (hx : Exc s.heap ea)
    (hQ : ∀ v s', Le C.base C.P s s' → Rep s'.heap (Sx (C.w S) σ vals) v d → Q v s') : wpAny (model prog w) (A.mark (some (.ref ea))) (eval e' env) Q E s := by
  obtain ⟨sc', hsc'⟩ : ∃ sc', sc' = sc := ⟨_, rfl⟩
  unfold chk at hc
  split at hc <;> try (first | (rename_i hh; cases hh; done) | (rename_i hh _; cases hh; done) | cases hc)
  rename_i f' l' sc'' x p es pos hh
  cases hh
  subst hsc'
  simp only [Bool.and_eq_true, beq_iff_eq, Bool.not_eq_true'] at hc
  obtain ⟨⟨⟨⟨⟨_, h1⟩, h2⟩, h3⟩, h4⟩, h5⟩ := hc
  obtain ⟨g1, o, fd, g2, g3⟩ := G.fn f x h1
  refine PyProof.Rows.Call_Name rfl (glob_name (C := C.w S) (G.at S) I.V h2 (ne_beq h3) g1 ?_)
  refine Calls.callWith_function (o := o) (fd := fd) (evalArgs_of h4 h5 ((lite_L (A := A.mark (some (.ref ea))) (S := S) hA.units l hl).1 hds h5 I.V fun vs s₁ L₁ hlen hS _ => ⟨⟨(I.le L₁).V.stay _ _ g2, g3⟩, ?_⟩))
  have I₁ := I.le L₁
  exact X.callh ea f ds d hcm hq s₁ vs _ S σ vals (hS _ (fun _ y => y) rfl) (fun a n => I₁.V.new n) I₁ (hx.ext L₁.ext) _ _ fun v s' L' r => hQ v s' (Le.trans (base := C.base) (P := C.P) L₁ L') r

theorem ss_try (hA : AOk A C) (G : Gl C fnm fa mg mb) (K : CallOk prog w A C fa F) (X : ExOk prog w A C F fa xs sc env Xc Xh Xf) {b h : SL} : SoS prog w A C fnm F xs sc env Xc (.try b h) := by
  intro mu σ r S stmt vals s Q E he hc I hP
  obtain ⟨sc', hsc'⟩ : ∃ sc', sc' = sc := ⟨_, rfl⟩
  unfold chkS at hc
  split at hc <;> try (first | (rename_i hh; cases hh; done) | (rename_i hh _; cases hh; done) | cases hc)
  · rename_i f l e e' p1 x np e'' p2 hp pos hh
    cases hh
    subst hsc'
    simp only [Bool.and_eq_true, beq_iff_eq, Bool.not_eq_true'] at hc
    obtain ⟨⟨⟨⟨⟨⟨h1, h0⟩, rfl⟩, h3⟩, h4⟩, h5⟩, h6⟩ := hc
    show wpAny _ _ (do standAt pos; tryStmt false (execs [.Return (some e') p1] env) [.ExceptHandler (some (.Name tiesN np)) none [.Return (some e'') p2] hp] (execs [] env) [] env) _ _ _
    refine wpAny_bind (wpAny_standAt (wpAny_tryStmt_except ?_))
    simp only [evS, Option.bind_eq_some_iff] at he
    obtain ⟨r1, hr1, he⟩ := he
    simp only [evSL, evS, Option.bind_eq_some_iff, Option.map_eq_some_iff] at hr1
    obtain ⟨r2, ⟨ds, hds, q, hq, hq2⟩, hr2⟩ := hr1
    cases q with
    | ok d =>
      subst hq2
      cases hr2
      cases he
      show wpAny _ _ (do match ← exec (.Return (some e') p1) env with | .next => execs [] env | f => pure f) _ _ _
      refine wpAny_bind (wpAny_Return_some ((all_T hA G K (.call f l) S).1 (bw := false) (d := d) ?_ h4 I.V fun v s₁ L₁ r _ => wpAny_pure ?_))
      · simp only [ev, Option.bind_eq_some_iff]
        exact ⟨ds, hds, by rw [hq]; rfl⟩
      · have I₁ := I.le L₁
        obtain ⟨h1, tk1, rfl, _⟩ := L₁
        exact hP h1 tk1 v I₁.done (r.plain.mono fun _ z => .inl z.1)
    | error u =>
      subst hq2
      cases hr2
      show wpAny _ _ (do match ← exec (.Return (some e') p1) env with | .next => execs [] env | f => pure f) _ _ _
      refine wpAny_bind (retC_err hA G K X h1 h0 hds hq h4 I fun s₁ x s' L₁ I₁ hs hx => ?_)
      refine X.catch_ h1 np hp _ [] s₁ s' S σ vals x h3 I₁ hs hx Q E fun ea s'' hs'' I'' ks hex E' => ?_
      simp only [evSL, evS, Option.bind_eq_some_iff, Option.map_eq_some_iff] at he
      obtain ⟨r2, ⟨d, hd, rfl⟩, he⟩ := he
      cases he
      show wpAny _ _ (do match ← exec (.Return (some e'') p2) env with | .next => execs [] env | f => pure f) _ _ _
      refine wpAny_bind (wpAny_Return_some ((lite_T (A := A.mark (some (.ref ea))) (S := S) hA.units e h5).1 hd h6 I''.V fun v s₂ L₂ r _ => wpAny_pure ?_))
      have I₂ := I''.le L₂
      obtain ⟨hb', tb, rfl⟩ := ((Same.le L₁).trans hs'').trans (Same.le L₂)
      exact hP hb' tb v I₂.done (r.plain.mono fun _ z => .inl z.1)
  · rename_i f l i g l' e' p1 x np y py e'' pa hp pos hh
    cases hh
    subst hsc'
    simp only [Bool.and_eq_true, beq_iff_eq, Bool.not_eq_true'] at hc
    obtain ⟨⟨⟨⟨⟨⟨⟨⟨h1, h0⟩, rfl⟩, h3⟩, h4⟩, h5⟩, h6⟩, h7⟩, h8⟩ := hc
    show wpAny _ _ (do standAt pos; tryStmt false (execs [.Return (some e') p1] env) [.ExceptHandler (some (.Name tiesN np)) none [.Assign [.Name y py] e'' pa] hp] (execs [] env) [] env) _ _ _
    refine wpAny_bind (wpAny_standAt (wpAny_tryStmt_except ?_))
    simp only [evS, Option.bind_eq_some_iff] at he
    obtain ⟨r1, hr1, he⟩ := he
    simp only [evSL, evS, Option.bind_eq_some_iff, Option.map_eq_some_iff] at hr1
    obtain ⟨r2, ⟨ds, hds, q, hq, hq2⟩, hr2⟩ := hr1
    cases q with
    | ok d =>
      subst hq2
      cases hr2
      cases he
      show wpAny _ _ (do match ← exec (.Return (some e') p1) env with | .next => execs [] env | f => pure f) _ _ _
      refine wpAny_bind (wpAny_Return_some ((all_T hA G K (.call f l) S).1 (bw := false) (d := d) ?_ h4 I.V fun v s₁ L₁ r _ => wpAny_pure ?_))
      · simp only [ev, Option.bind_eq_some_iff]
        exact ⟨ds, hds, by rw [hq]; rfl⟩
      · have I₁ := I.le L₁
        obtain ⟨h1, tk1, rfl, _⟩ := L₁
        exact hP h1 tk1 v I₁.done (r.plain.mono fun _ z => .inl z.1)
    | error u =>
      subst hq2
      cases hr2
      show wpAny _ _ (do match ← exec (.Return (some e') p1) env with | .next => execs [] env | f => pure f) _ _ _
      refine wpAny_bind (retC_err hA G K X h1 h0 hds hq h4 I fun s₁ x s' L₁ I₁ hs hx => ?_)
      refine X.catch_ h1 np hp _ [] s₁ s' S σ vals x h3 I₁ hs hx Q E fun ea s'' hs'' I'' ks hex E' => ?_
      simp only [evSL, evS, Option.bind_eq_some_iff, Option.map_eq_some_iff, bindP, ev] at he
      obtain ⟨r2, ⟨d, ⟨ds', hds', hF⟩, σ', hσ, rfl⟩, he⟩ := he
      cases he
      split at hσ
      · cases hσ
      rename_i ho
      have ho : C.own i = false := by simpa using ho
      cases hσ
      have hF' : F g ds' = some (.ok d) := by
        cases q : F g ds' with
        | none => rw [q] at hF; simp [okD] at hF
        | some r => rw [q] at hF; cases r <;> simp [okD] at hF; rw [hF]
      simp only [chkP, Bool.and_eq_true, beq_iff_eq] at h8
      show wpAny _ _ (do match ← exec (.Assign [.Name y py] e'' pa) env with | .next => execs [] env | f => pure f) _ _ _
      have hsw : swapsWithSole [.Name y py] e'' pa.line env = pure false := by
        rcases swaps_cases (env := env) (x := y) (p := py) (line := pa.line) h7 with z | ⟨_, _, _, _, rfl, _⟩
        · exact z
        · obtain ⟨u, gg, z⟩ := chk_comp h7
          cases z
      refine wpAny_bind (wpAny_Assign_Name ?_ hsw)
      refine so_callh hA G X hds' hF' h5 h6 h7 I'' hex fun v s₂ L₂ r => ?_
      have I₂ := I''.le L₂
      refine store_ok (C := C.w S) I₂.V h8.1 h8.2 ho r fun h' tk V' k1 k2 => ?_
      show wpAny _ _ (execs [] env) _ _ _
      refine wpAny_pure ?_
      have kq : Kq [] s''.heap h' := (Kq.le (C := C.w S) I''.V L₂ _).trans fun b o e n1 n2 _ => k1 b o e (fun z => by
        obtain ⟨m, o', es, ep, q, d, _⟩ := I₂.V.fr.ns
        rw [← z, e] at q; cases q; exact n1 _ _ d) n2
      have ex : Exact C.P C.g₀ h' := fun b o p e => by rw [k2 b (by rw [e]; simp)]; exact L₂.exact b o p (I''.ex b o p e)
      have I3 : StI C S sc' env (upd σ i d) (updv vals i v) h' := ⟨V', ex, (I''.pl.kq kq).upd (.inl ho)⟩
      have k0 : Ks C.own mu σ vals s.heap σ vals s''.heap := (Ks.kq (Kq.le (C := C.w S) I.V L₁ _)).trans ks.weak
      have k3 : Ks C.own mu σ vals s''.heap (upd σ i d) (updv vals i v) h' := .bind (l := [i]) kq ⟨fun j n => ⟨upd_ne _ _ (fun z => n (by simp [z])), updv_ne _ _ (fun z => n (by simp [z]))⟩, fun j oj => ⟨upd_ne _ _ (fun z => by rw [z, ho] at oj; cases oj), updv_ne _ _ (fun z => by rw [z, ho] at oj; cases oj)⟩⟩
      obtain ⟨hb', tb, rfl⟩ := ((Same.le L₁).trans hs'').trans (Same.le L₂)
      exact hP h' tk (updv vals i v) I3 (k0.trans k3)

theorem ss_no_own {t : TS} (h : ∀ tab stmt, chkS tab fnm xs t sc stmt = false) : SoS prog w A C fnm F xs sc env Xc t := by
  intro mu σ r S stmt vals s Q E he hc I hP
  rw [h] at hc; cases hc

theorem ss_app (hA : AOk A C) (G : Gl C fnm fa mg mb) (K : CallOk prog w A C fa F) {x : Nat} {e : T} : SoS prog w A C fnm F xs sc env Xc (.app x e) := by
  intro mu σ r S stmt vals s Q E he hc I hP
  obtain ⟨sc', hsc'⟩ : ∃ sc', sc' = sc := ⟨_, rfl⟩
  unfold chkS at hc
  split at hc <;> try (first | (rename_i hh; cases hh; done) | (rename_i hh _; cases hh; done) | cases hc)
  rename_i hh
  cases hh
  rename_i y q m ap e' cp p
  subst hsc'
  simp only [Bool.and_eq_true, Bool.not_eq_true', beq_iff_eq] at hc
  obtain ⟨⟨⟨⟨⟨⟨⟨rfl, hpx⟩, h1⟩, h2⟩, h3⟩, h4⟩, h5⟩, h6⟩ := hc
  simp only [evS] at he
  have hg : (C.own x && mu x) = true := by
    by_cases hg : (C.own x && mu x) = true
    · exact hg
    · rw [if_neg hg] at he; cases he
  rw [if_pos hg] at he
  simp only [Bool.and_eq_true] at hg
  obtain ⟨ho, hm⟩ := hg
  simp only [Option.bind_eq_some_iff] at he
  obtain ⟨a, ha, l, hl, d, hd, he⟩ := he
  obtain rfl := listD_some hl
  have hz1 : l.length + 1 ≤ LB := by
    by_cases hz1 : l.length + 1 ≤ LB
    · exact hz1
    · rw [if_neg hz1] at he; cases he
  rw [if_pos hz1] at he
  cases he
  have tr : backTo cp (starEach [e'] env) = [(false, eval e' env)] := star_cons h5
  refine wpAny_Expr (wpAny_Call_append rfl (by rw [tr]; rfl) (by rw [beq_iff_eq]; exact h6) tr (so_own I ha h1 ?_)) (by unfold interactive; rw [I.V.fr.kind]; rfl)
  have plL : ∀ {s' : Shared}, StI C S sc' env σ vals s'.heap → ∃ ad vs, vals x = .ref ad ∧ PlainL s'.heap ad vs.toArray ∧ RepL s'.heap (Sx (C.w S) σ vals) vs l := fun I' => by
    obtain ⟨ad, vs, e1, ⟨o, g1, g2, n, g3⟩, hr, _⟩ := own_list I'.V ho ha
    obtain ⟨o', q1, q2, _⟩ := I'.pl x ad ho hpx (by rw [ha]; rfl) e1
    rw [g1] at q1; cases q1
    exact ⟨ad, vs, e1, ⟨o, n, g1, g2, q2, g3⟩, hr⟩
  obtain ⟨ad, vs, e1, hpl, _⟩ := plL I
  refine ⟨ad, _, e1, hpl, ?_⟩
  refine (all_T hA G K e S).1 hd h3 I.V fun v s₁ L₁ rv _ => ?_
  have I₁ := I.le L₁
  obtain ⟨ad', vs₁, e1', hpl₁, hr₁⟩ := plL I₁
  rw [e1] at e1'; cases e1'
  have hlen := hr₁.length
  have kq : Ks C.own mu σ vals s.heap σ vals s₁.heap := .kq (Kq.le (C := C.w S) I.V L₁ [])
  obtain ⟨h1', tk1, rfl, _⟩ := L₁
  refine list_append_plainL hpl₁ (fun h' hp' hs => ?_) (by rw [List.size_toArray, hlen]; exact Nat.le_trans (Nat.le_of_succ_le hz1) LBs)
  have e2 : vs₁.toArray.push v = (vs₁ ++ [v]).toArray := by simp
  rw [e2] at hp'
  have V' := StV.ownChg (C := C.w S) I₁.V ho ha e1 hp'.isList hs (hr₁.append (.cons rv.plain .nil)) (by simpa using hz1)
  obtain ⟨a', _, _, _, e3, _, _, _, hg⟩ := I₁.V.owned x _ ha ho
  rw [e1] at e3
  obtain rfl : ad = a' := by injection e3
  refine hP h' tk1 vals ⟨V', fun b o p q => (hs.2 b fun z => by rw [z, hg] at q; cases q).trans (I₁.ex b o p q), fun i b oi pi si vi => ?_⟩ (kq.trans ⟨fun b o q _ _ n => ⟨(hs.2 b fun z => n x ho hm (by rw [ha]; rfl) (z ▸ e1)).trans q, fun i oi mi si => ?_⟩, fun i oi mi => ?_⟩)
  · by_cases hi : i = x
    · subst hi
      rw [e1] at vi; cases vi
      obtain ⟨o, n, g1, g2, g3, g4⟩ := hp'
      exact ⟨o, g1, g3, (fun es k z => by rw [g4] at z; cases z), (fun u z => by rw [g4] at z; cases z)⟩
    · rw [upd_ne _ _ hi] at si
      obtain ⟨o, q, r⟩ := I₁.pl i b oi pi si vi
      exact ⟨o, (hs.2 b fun z => hi (I₁.V.dist i x ad oi ho si (by rw [ha]; rfl) (z ▸ vi) e1)).trans q, r⟩
  · by_cases hi : i = x
    · subst hi; exact n i oi mi (by rw [ha]; rfl)
    · rw [upd_ne _ _ hi] at si; exact n i oi mi si
  · have hi : i ≠ x := fun z => by subst z; rw [hm] at mi; cases mi
    exact ⟨upd_ne _ _ hi, rfl⟩

mutual
theorem all_S (hA : AOk A C) (G : Gl C fnm fa mg mb) (K : CallOk prog w A C fa F) (X : ExOk prog w A C F fa xs sc env Xc Xh Xf) : ∀ t : TS, SoS prog w A C fnm F xs sc env Xc t
  | .asg (.v i) e => ss_asgv hA G K
  | .asg (.tup ps) e => ss_asgT hA G K
  | .own1 x e => ss_own1 hA G K
  | .ownN is es => ss_ownN hA G K
  | .aug x o e => ss_aug hA G K
  | .setI x i e => ss_setI hA G K
  | .augI x i e => ss_augI hA G K
  | .app x e => ss_app hA G K
  | .ite c a b => ss_ite hA G K (all_SL hA G K X a) (all_SL hA G K X b)
  | .loop p s b => ss_loop hA G K X (all_SL hA G K X b)
  | .loopB p x b => ss_loopB hA X (all_SL hA G K X b)
  | .whil n c b => ss_whil hA G K X (all_SL hA G K X b)
  | .ret e => ss_ret hA G K
  | .retO x => ss_retO
  | .retC f l => ss_retC hA G K X
  | .raise => ss_raise X
  | .try b h => ss_try hA G K X
  | .cont => ss_cont
  | .dead => ss_dead
theorem all_SL (hA : AOk A C) (G : Gl C fnm fa mg mb) (K : CallOk prog w A C fa F) (X : ExOk prog w A C F fa xs sc env Xc Xh Xf) : ∀ l : SL, SoSL prog w A C fnm F xs sc env Xc l
  | .nil => ssl_nil
  | .cons t l => ssl_cons (all_S hA G K X t) (all_SL hA G K X l)
end
end
end Mine
end

section
open PySem PySem.W PyProof.Rows PySem.SeqAt PySem.MeetsSeq PySem.MeetsSeq2 PySem.MeetsSeq3
set_option maxRecDepth 100000
namespace Mine

/-! ## 25a. The exception on its way, with the frames outside -/
def fr (l : List Env) : List Addr := l.filterMap (·.frame)
def hid (h : Heap) (l : List Env) : Heap := hideAll h (fr l)
theorem hid_stays (h : Heap) (l : List Env) : (hid h l).StaysIn h := fun _ _ e => of_hideAll _ e
theorem hid_none {h : Heap} {l : List Env} {a : Addr} (m : a ∈ fr l) : (hid h l).get? a = none := hideAll_none _ m
theorem hid_get {h : Heap} {l : List Env} {b : Addr} {o : Obj} (e : h.get? b = some o) (n : b ∉ fr l) : (hid h l).get? b = some o := hideAll_get _ e n
theorem hid_new {h : Heap} {l : List Env} {b : Addr} (e : h.get? b = none) : (hid h l).get? b = none := by
  cases q : (hid h l).get? b with
  | none => rfl
  | some o => rw [hid_stays h l b o q] at e; cases e
theorem fr_cons {env : Env} {l : List Env} {L : Addr} (h : env.frame = some L) : fr (env :: l) = L :: fr l := by simp [fr, h]

/-- the frames are functions' frames -/
def Fst (l : List Env) : Prop := ∀ env ∈ l, env.scope.kind ≠ .module ∧ ∃ L, env.frame = some L
theorem Fst.ff {base h : Heap} : ∀ {l : List Env}, Fst l → (∀ a ∈ fr l, base.get? a = none ∧ ∃ o, h.get? a = some o ∧ ∀ vs, o.data ≠ .fields vs) → h.FunFrames base l
  | [], _, _ => trivial
  | env :: l, f, k => by
    obtain ⟨hk, L, hf⟩ := f env (.head _)
    obtain ⟨h1, o, h2, h3⟩ := k L (by rw [fr_cons hf]; exact .head _)
    exact ⟨hk, ⟨L, o, hf, h1, h2, h3⟩, Fst.ff (fun e m => f e (.tail _ m)) fun a m => k a (by rw [fr_cons hf]; exact .tail _ m)⟩

section
variable (g : Heap) (env : Env) (outer : List Env) (kls : Addr)
/-- raised in this frame, or come here from a call, or held here -/
inductive Way (e : Addr) (h : Heap) : Prop
  | made (hm : Heap) (args : List Value) (k : (hid g outer).StaysIn hm) (l : hm.FunFrames (hid g outer) (env :: outer)) (x : Heap.MadeExcOf hm h e (.ref kls) args)
  | flying (x : FlyX (hid g outer) (env :: outer) e (.ref kls) h)
  | held (x : HeldX (hid g outer) (env :: outer) e (.ref kls) env.locals h)
def XcD (x : Value) (s' : Shared) : Prop := ∃ e, x = .ref e ∧ g.UpToSlots s'.heap ∧ Way g env outer kls e s'.heap
def XhD (x : Value) (s' : Shared) : Prop := ∃ e, x = .ref e ∧ g.UpToSlots s'.heap ∧ HeldX (hid g outer) (env :: outer) e (.ref kls) env.locals s'.heap
end
/-- an exception has come out of a call that was begun at s -/
def XfD (l : List Env) (kls : Addr) (s : Shared) (x : Value) (s' : Shared) : Prop := ∃ e, x = .ref e ∧ s.heap.UpToSlots s'.heap ∧ FlyX (hid s.heap l) l e (.ref kls) s'.heap

section
variable {prog : Program} {w : World} {A : Around}
theorem xc_noteX {g : Heap} {env : Env} {outer : List Env} {kls : Addr} (hfr : A.frames = some (env :: outer)) (hf : env.frame = some env.locals) {e : Addr} {s : Shared} {Q : Unit → Shared → Prop} {E : Value → Shared → Prop} (hw : Way g env outer kls e s.heap)
    (hQ : ∀ h', HeldX (hid g outer) (env :: outer) e (.ref kls) env.locals h' → s.heap.UpToSlots h' → Q () { s with heap := h' }) : wpAny (model prog w) A (noteFrame (.ref e) env) Q E s := by
  cases hw with
  | made hm args k l x => exact note_madeX hfr hf k l x hQ
  | flying x => exact note_onX hfr hf x hQ
  | held x => exact note_againX hf x (hQ _ x (.refl _))
theorem xc_note {g : Heap} {env : Env} {outer : List Env} {kls : Addr} (hfr : A.frames = some (env :: outer)) (hf : env.frame = some env.locals) (x : Value) (s : Shared) (Q : Unit → Shared → Prop) (E : Value → Shared → Prop) (hx : XcD g env outer kls x s)
    (hQ : ∀ s', Same s s' → XhD g env outer kls x s' → Q () s') : wpAny (model prog w) A (noteFrame x env) Q E s := by
  obtain ⟨e, rfl, hu, hw⟩ := hx
  exact xc_noteX hfr hf hw fun h' hh hs => hQ _ ⟨h', s.toks, rfl⟩ ⟨e, rfl, hu.trans hs, hh⟩
theorem xc_back {g : Heap} {env : Env} {outer : List Env} {kls : Addr} (hf : env.frame = some env.locals) (x : Value) (s : Shared) (E : Value → Shared → Prop) (hx : XhD g env outer kls x s)
    (hQ : ∀ s', Same s s' → XcD g env outer kls x s' → E x s') : cameBackBy (model prog w) A env E x s := by
  obtain ⟨e, rfl, hu, hh⟩ := hx
  exact backX hf hh fun h' h1 hs => hQ _ ⟨h', s.toks, rfl⟩ ⟨e, rfl, hu.trans hs, .held h1⟩
/-- the way out of the frame -/
theorem xc_leave {g : Heap} {env : Env} {outer : List Env} {kls : Addr} (hfr : A.frames = some (env :: outer)) (hf : env.frame = some env.locals) (x : Value) (s : Shared) (R : Unit → Shared → Prop) (E : Value → Shared → Prop) (hx : XcD g env outer kls x s)
    (hQ : ∀ e h', x = .ref e → g.UpToSlots h' → FlyX (hid g outer) outer e (.ref kls) h' → R () { s with heap := h' }) : wpAny (model prog w) A (leaving env x) R E s := by
  obtain ⟨e, rfl, hu, hw⟩ := hx
  exact leaveX (fun Q hQ' => xc_noteX hfr hf hw hQ') fun h' hl hs => hQ e h' rfl (hu.trans hs) hl
end
end Mine
end

section
open PySem PySem.W PyProof.Rows PySem.SeqAt PySem.MeetsSeq PySem.MeetsSeq2 PySem.MeetsSeq3
set_option maxRecDepth 100000
namespace Mine

/-! ## 25b. What the statements ask of the exception -/
section
variable {prog : Program} {w : World} {A : Around} {C : Cx} {fnm : List PySem.Str} {F : Fn} {fa : Nat → Addr} {mg mb : PySem.Str → Option Value} {sc : Scope} {env : Env} {outer : List Env} {kls : Addr} {newId initId B : String} {bmB : List Value}

variable (prog w A C fa) in
/-- a call that raises -/
structure CodeX (F : Fn) (l : List Env) (kls : Addr) : Prop where
  codex : A.handled = none → ∀ f ds, F f ds = some (.error ()) → ∀ (s : Shared) (vs : List Value) (S : Addr → Prop), RepL s.heap S vs ds → (∀ a, s.heap.get? a = none → S a) → (∀ b o, C.base.get? b = some o → s.heap.get? b = some o) →
    (∀ a, C.P a → ∃ o es n, s.heap.get? a = some o ∧ o.data = .dict es n) → ∀ (R : Result → Shared → Prop), (∀ x s', Same s s' → XfD l kls s x s' → R (.error x) s') → codeAny (model prog w) A (.call (.ref (fa f)) ⟨vs, []⟩) R s

variable (prog w A C fa) in
/-- a call within a handler -/
structure CodeH (F : Fn) : Prop where
  codeh : ∀ (ea : Addr) f ds d, calmI f = true → F f ds = some (.ok d) → ∀ (s : Shared) (vs : List Value) (S : Addr → Prop), RepL s.heap S vs ds → (∀ a, s.heap.get? a = none → S a) → (∀ b o, C.base.get? b = some o → s.heap.get? b = some o) →
    (∀ a, C.P a → ∃ o es n, s.heap.get? a = some o ∧ o.data = .dict es n) → Exc s.heap ea → ∀ (R : Result → Shared → Prop), (∀ v s', Le C.base C.P s s' → Rep s'.heap S v d → R (.ok (.ret v)) s') → codeAny (model prog w) (A.mark (some (.ref ea))) (.call (.ref (fa f)) ⟨vs, []⟩) R s

theorem sti_back {S : Addr → Prop} {σ : Sg} {vals : Nat → Value} {h h' : Heap} {l : List Env} (hP : ∀ a, C.P a ↔ a ∈ fr l) (I : StI C S sc env σ vals h) (st : (hid h l).StaysIn h') (up : h.UpToSlots h') :
    StI C S sc env σ vals h' ∧ Ks C.own (fun _ => false) σ vals h σ vals h' := by
  have ext : Ext h h' := fun b o e => by
    by_cases m : b ∈ fr l
    · obtain ⟨o', es, n, q, d⟩ := I.V.pf b ((hP b).2 m)
      rw [e] at q; cases q
      exact up b o e fun vs z => by rw [d] at z; cases z
    · exact ⟨o.slots, st b o (hid_get e m)⟩
  refine ⟨⟨I.V.le ext fun b o eb e => ?_, fun b o p e => st b o (hid_get (I.ex b o p e) fun m => p ((hP b).2 m)), I.pl.ext ext⟩, fun b o e n1 n2 n => ⟨st b o (hid_get e fun m => ?_), n⟩, fun _ _ _ => ⟨rfl, rfl⟩⟩
  · refine st b o (hid_get e fun m => ?_)
    have := I.V.bP b ((hP b).2 m)
    rw [eb] at this; cases this
  · obtain ⟨o', es, k, q, d⟩ := I.V.pf b ((hP b).2 m)
    rw [e] at q; cases q
    exact n1 _ _ d

theorem exOk_of (hA : AOk A C) (G : Gl C fnm fa mg mb) (FB : ExcBaseFacts B newId initId bmB) (O : OwnCls tiesN kls bmB newId mg C.base) (hfr : A.frames = some (env :: outer)) (hf : env.frame = some env.locals) (fst : Fst (env :: outer))
    (hP : ∀ a, C.P a ↔ a ∈ fr (env :: outer)) (K : CodeX prog w A C fa F (env :: outer) kls) (KH : CodeH prog w A C fa F) :
    ExOk prog w A C F fa true sc env (XcD C.g₀ env outer kls) (XhD C.g₀ env outer kls) (XfD (env :: outer) kls) where
  callh ea f ds d hc he s vs S S' σ vals hr hn I hx Q E hQ := wpAny_call (KH.codeh ea f ds d hc he s vs S hr hn I.V.stay I.V.pf hx _ hQ)
  toXc s s' S' σ vals x I hs hx := by
    obtain ⟨e, rfl, hu, hfl⟩ := hx
    refine ⟨e, rfl, Heap.UpToSlots.trans (fun b o q _ => I.V.ext b o q) hu, .flying (FlyX.base (fun b o q => ?_) hfl)⟩
    have q' := hid_stays _ _ b o q
    have m : b ∉ fr (env :: outer) := fun m => by
      rw [fr_cons hf] at m
      rcases List.mem_cons.mp m with rfl | m
      · rw [I.V.fr.newL] at q'; cases q'
      · rw [hid_none m] at q; cases q
    exact hid_get (I.ex b o (fun p => m ((hP b).1 p)) q') m
  note := fun x s Q E => xc_note hfr hf x s Q E
  back := fun x s E => xc_back hf x s E
  callx _ hcm f ds he s vs S S' σ vals hr hn I Q E hE := wpAny_call (K.codex (hA.hh.no hcm) f ds he s vs S hr hn I.V.stay I.V.pf _ hE)
  raise _ hcm np cpos pos msg k q s S' σ vals hg I Q E hE := by
    have O' := O
    obtain ⟨tl, N, nm, qn, bs, hdct, sn, sub, ab, col, dd, k0, k1, k2, k3, k5, mN, hC, hN, hni, T⟩ := O'.obj
    have st := I.V.stay
    refine wpAny_Raise_call_subT (C := kls) (nm := nm) (q := qn) (N := N) (bs := bs) (bm := tl) (hdct := hdct) (sn := sn) (sub := sub) (ab := ab) (col := col) (dd := dd) (k0 := k0) (k1 := k1) (k2 := k2) (k3 := k3) (k5 := k5)
      FB (mN := mN) (T.hasType FB.hasBase) (hA.hh.no hcm) rfl hni (glob_name (C := C.w S') ⟨G.g, G.b, G.bi, G.src, G.fn⟩ I.V hg (by decide +kernel) O.bound ⟨rfl, ?_⟩)
    refine Calls.evalArgs_plain (Calls.spliced_cons (Calls.Constant_str (k := k) (pos := q) (Calls.spliced_nil ?_)))
    refine ⟨rfl, (show 1 ≤ sizeLine from by decide), st _ _ hC, hN.keeps st, T.keeps st, fun h' e hm => hE _ _ ⟨h', s.toks + 1, rfl⟩ ⟨e, rfl, Heap.UpToSlots.trans (fun b o q _ => I.V.ext b o q) (.of_keeps hm.keeps), .made s.heap _ (fun b o q => ?_) ?_ hm⟩⟩
    · have q' := hid_stays _ _ b o q
      refine I.ex b o (fun p => ?_) q'
      have m := (hP b).1 p
      rw [fr_cons hf] at m
      rcases List.mem_cons.mp m with rfl | m
      · rw [I.V.fr.newL] at q'; cases q'
      · rw [hid_none m] at q; cases q
    · refine fst.ff fun a m => ⟨?_, ?_⟩
      · rw [fr_cons hf] at m
        rcases List.mem_cons.mp m with rfl | m
        · exact hid_new I.V.fr.newL
        · exact hid_none m
      · obtain ⟨o, es, n, q, d⟩ := I.V.pf a ((hP a).2 m)
        exact ⟨o, q, fun vs z => by rw [d] at z; cases z⟩
  catch_ _ np hp b₀ suite s₀ s S' σ vals x hg I hs hx Q E k := by
    obtain ⟨e, rfl, hu, hfl⟩ := hx
    refine note_onX hfr hf hfl fun h₄ hh₄ hs₄ => ?_
    refine landX hh₄ fun h₅ hfl₅ hs₅ => ?_
    obtain ⟨I₅, _⟩ := sti_back hP I hfl₅.1 ((hu.trans hs₄).trans hs₅)
    obtain ⟨ob, hob, hobc⟩ := hfl₅.2.2.2.there
    obtain ⟨tl, N, nm, qn, bs, hdct, sn, sub, ab, col, dd, k0, k1, k2, k3, k5, mN, hC, hN, hni, T⟩ := (O.keeps I₅.V.stay).obj
    refine wpAny_handleBy_cons (codeAny_handlers_test (glob_name (C := C.w S') ⟨G.g, G.b, G.bi, G.src, G.fn⟩ I₅.V hg (by decide +kernel) O.bound ?_)) (by intro q; cases q)
    refine wpAny_excMatches_sub_self hC hob hobc (T.hasType FB.hasBase) (codeAny_handlers_suite ?_)
    refine land_againX hfl₅ fun h₆ hfl₆ hs₆ => ?_
    obtain ⟨I₆, ks⟩ := sti_back hP I hfl₆.1 (((hu.trans hs₄).trans hs₅).trans hs₆)
    obtain ⟨hb, tk, rfl⟩ := hs
    exact k e _ ⟨h₆, tk, rfl⟩ I₆ ks hfl₆.2.2.2.exc _
end
end Mine
end

section
open PySem PySem.W PyProof.Rows PySem.SeqAt PySem.MeetsSeq PySem.MeetsSeq2 PySem.MeetsSeq3
set_option maxRecDepth 100000
namespace Mine

/-! ## 25. Calls of the program's functions -/
structure FnD where
  tab : List PySem.Str
  owns : List Nat
  body : SL
  sc : Scope
  stmts : List PySem.Stmt
  np : Nat
  dfl : List D

def FnD.own (fd : FnD) (i : Nat) : Bool := fd.owns.contains i
def dval : D → Value
  | .bool b => .bool b
  | _ => .none
def dplain : D → Bool
  | .non => true
  | .bool _ => true
  | _ => false
def FnD.full (fd : FnD) (ds : List D) : Option (List D) := if fd.np ≤ ds.length + fd.dfl.length ∧ ds.length ≤ fd.np then some (ds ++ fd.dfl.drop (ds.length + fd.dfl.length - fd.np)) else none
def FnD.fullV (fd : FnD) (vs : List Value) : List Value := vs ++ (fd.dfl.drop (vs.length + fd.dfl.length - fd.np)).map dval
def FnD.start (fd : FnD) (args : List D) : Sg := fun i => if i < fd.np then args[i]? else none
def resOf : R → Except Unit D
  | .ret d => .ok d
  | .ties => .error ()
  | _ => .ok .non
def FF (fns : List FnD) : Nat → Fn
  | 0, _, _ => none
  | n + 1, f, ds => (fns[f]?).bind fun fd => (fd.full ds).bind fun args => (evSL fd.own (FF fns n) (fun _ => true) fd.body (fd.start args)).map resOf

def noFree (sc : Scope) : Bool := sc.names.all fun x => match x.2 with | .free => false | _ => true

/-- what a look at the texts shows -/
def FnD.good (fnm : List PySem.Str) (xs : Bool) (fd : FnD) : Bool :=
  chkSL fd.tab fnm xs fd.body fd.sc fd.stmts && decide fd.tab.Nodup && keysOk fd.sc && noFree fd.sc && fd.sc.kind == .function && decide (fd.np ≤ fd.tab.length) && fd.dfl.all dplain &&
    (List.range fd.np).all (fun i => !fd.own i && (match fd.tab[i]? with | some x => isW fd.sc x | none => false))

/-- the function in the heap -/
structure FnAt (base : Heap) (a : Addr) (fd : FnD) : Prop where
  at_ : ∃ o FD, base.get? a = some o ∧ o.data = .func FD ∧ FD.body = .stmts fd.stmts ∧ FD.scope = fd.sc ∧ FD.globals = mainGlobals ∧ FD.builtins = builtinsNs ∧ FD.closure = [] ∧ base.CodeRec FD.code FD.qualname ∧
    FD.scope.isCoroutine = false ∧ FD.scope.isGenerator = false ∧
    ∀ (vs : List Value) (s : Shared), (∀ b o, base.get? b = some o → s.heap.get? b = some o) → fd.np ≤ vs.length + fd.dfl.length → vs.length ≤ fd.np → BindsTo s FD ⟨vs, []⟩ ((fd.tab.take fd.np).zip (fd.fullV vs))

theorem bindL_off {kindOf : PySem.Str → Option NameKind} {x : PySem.Str} : ∀ {bs : List (PySem.Str × Value)} {m : PySem.Str → Option Value}, x ∉ bs.map (·.1) → bindL kindOf bs m x = m x
  | [], _, _ => rfl
  | (n, v) :: r, m, h => by
    simp only [List.map_cons, List.mem_cons, not_or] at h
    unfold bindL
    rw [bindL_off h.2]
    split
    · exact if_neg h.1
    · rfl
theorem bindL_on {kindOf : PySem.Str → Option NameKind} {x : PySem.Str} {v : Value} (hk : kindOf x = some .local) : ∀ {bs : List (PySem.Str × Value)} {m : PySem.Str → Option Value}, (bs.map (·.1)).Nodup → (x, v) ∈ bs → bindL kindOf bs m x = some v
  | (n, u) :: r, m, nd, h => by
    simp only [List.map_cons, List.nodup_cons] at nd
    unfold bindL
    rcases List.mem_cons.mp h with e | h
    · cases e
      rw [bindL_off nd.1, if_pos hk]
      simp
    · exact bindL_on hk nd.2 h
theorem bindC_off {kindOf : PySem.Str → Option NameKind} {x : PySem.Str} : ∀ {bs : List (PySem.Str × Value)} {m : PySem.Str → Option Value}, x ∉ bs.map (·.1) → bindC kindOf bs m x = m x
  | [], _, _ => rfl
  | (n, v) :: r, m, h => by
    simp only [List.map_cons, List.mem_cons, not_or] at h
    unfold bindC
    rw [bindC_off h.2]
    split
    · rfl
    · exact if_neg h.1
theorem bindC_on {kindOf : PySem.Str → Option NameKind} {x : PySem.Str} {v : Value} (hk : kindOf x ≠ some .local) : ∀ {bs : List (PySem.Str × Value)} {m : PySem.Str → Option Value}, (bs.map (·.1)).Nodup → (x, v) ∈ bs → bindC kindOf bs m x = some v
  | (n, u) :: r, m, nd, h => by
    simp only [List.map_cons, List.nodup_cons] at nd
    unfold bindC
    rcases List.mem_cons.mp h with e | h
    · cases e
      rw [bindC_off nd.1, if_neg hk]
      simp
    · exact bindC_on hk nd.2 h

theorem dval_rep {h : Heap} {S : Addr → Prop} {d : D} (hp : dplain d = true) : Rep h S (dval d) d := by
  cases d <;> first | exact .non | exact .bool _ | (simp [dplain] at hp)
theorem dvals_rep {h : Heap} {S : Addr → Prop} : ∀ {l : List D}, l.all dplain = true → RepL h S (l.map dval) l
  | [], _ => .nil
  | d :: r, hp => by
    simp only [List.all_cons, Bool.and_eq_true] at hp
    exact .cons (dval_rep hp.1) (dvals_rep hp.2)

section
variable {prog : Program} {w : World} {A : Around} {C : Cx} {fnm : List PySem.Str} {fa : Nat → Addr} {mg mb : PySem.Str → Option Value} {xs : Bool}

structure Good (fd : FnD) (fnm : List PySem.Str) (xs : Bool) : Prop where
  chk : chkSL fd.tab fnm xs fd.body fd.sc fd.stmts = true
  nd : fd.tab.Nodup
  keys : (fd.sc.names.map (·.1)).Nodup
  free : ∀ x, (x, NameKind.free) ∉ fd.sc.names
  kind : fd.sc.kind = .function
  np : fd.np ≤ fd.tab.length
  dfl : fd.dfl.all dplain = true
  par : ∀ i, i < fd.np → fd.own i = false ∧ ∃ x, fd.tab[i]? = some x ∧ isW fd.sc x = true
theorem good_of {fd : FnD} (h : fd.good fnm xs = true) : Good fd fnm xs := by
  unfold FnD.good at h
  simp only [Bool.and_eq_true, decide_eq_true_eq] at h
  obtain ⟨⟨⟨⟨⟨⟨⟨h1, h2⟩, h3⟩, h4⟩, h5⟩, h6⟩, h7⟩, h8⟩ := h
  refine ⟨h1, h2, by simpa [keysOk] using h3, fun x hx => ?_, ?_, h6, h7, fun i hi => ?_⟩
  · unfold noFree at h4
    rw [List.all_eq_true] at h4
    exact absurd (h4 _ hx) (by simp)
  · cases q : fd.sc.kind <;> first | rfl | (rw [q] at h5; cases h5)
  · rw [List.all_eq_true] at h8
    have := h8 i (List.mem_range.mpr hi)
    simp only [Bool.and_eq_true, Bool.not_eq_true'] at this
    refine ⟨this.1, ?_⟩
    cases q : fd.tab[i]? with
    | none => rw [q] at this; cases this.2
    | some x => rw [q] at this; exact ⟨x, rfl, this.2⟩

/-- the context of a call -/
abbrev calleeCx (C : Cx) (fd : FnD) (S : Addr → Prop) (h : Heap) (P' : Addr → Prop) : Cx := { base := C.base, P := P', tab := fd.tab, own := fd.own, S := S, g₀ := h }
abbrev cxP (base : Heap) (P : Addr → Prop) : Cx := { base := base, P := P, tab := [], own := fun _ => false, S := fun _ => True, g₀ := base }

theorem enter {fd : FnD} (g : Good fd fnm xs) {s s₁ : Shared} {vs : List Value} {ds args : List D} {S P' : Addr → Prop} {env : Env} (hP' : ∀ a, P' a → C.P a ∨ a = env.locals) (hf : fd.full ds = some args) (hr : RepL s.heap S vs ds) (hnew : ∀ a, s.heap.get? a = none → S a)
    (hst : ∀ b o, C.base.get? b = some o → s.heap.get? b = some o) (hP : ∀ a, C.P a → ∃ o es n, s.heap.get? a = some o ∧ o.data = .dict es n) (hbP : ∀ a, C.P a → C.base.get? a = none)
    (hsc : env.scope = fd.sc) (hgl : env.globals = mainGlobals) (hbu : env.builtins = builtinsNs) (hL : env.locals = s.heap.objs.size) (hcs : env.cells = cellsFrom (s.heap.objs.size + 1) fd.sc.names [])
    (x : InCallC s env.locals (bindL env.kindOf ((fd.tab.take fd.np).zip (fd.fullV vs)) fun _ => none) env.cells (bindC env.kindOf ((fd.tab.take fd.np).zip (fd.fullV vs)) fun _ => none) s₁) :
    StI (calleeCx C fd S s.heap P') S fd.sc env (fd.start args) (fun i => (fd.fullV vs).getD i .none) s₁.heap := by
  have kindOf : ∀ y, env.kindOf y = fd.sc.names.lookup y := fun y => by unfold Env.kindOf; rw [hsc]
  have keep := x.toInCall.keep
  unfold FnD.full at hf
  split at hf
  case isFalse => cases hf
  rename_i hlen
  cases hf
  have hvl := hr.length
  have hfull : RepL s₁.heap S (fd.fullV vs) (ds ++ fd.dfl.drop (ds.length + fd.dfl.length - fd.np)) := by
    unfold FnD.fullV
    rw [hvl]
    refine (hr.ext (.of keep)).append (dvals_rep ?_)
    rw [List.all_eq_true]
    intro d hd
    exact List.all_eq_true.mp g.dfl d (List.mem_of_mem_drop hd)
  have hfl : (fd.fullV vs).length = fd.np := by
    rw [hfull.length, List.length_append, List.length_drop]; omega
  have own0 : ∀ i d, fd.start (ds ++ fd.dfl.drop (ds.length + fd.dfl.length - fd.np)) i = some d → i < fd.np ∧ (ds ++ fd.dfl.drop (ds.length + fd.dfl.length - fd.np))[i]? = some d := fun i d e => by
    unfold FnD.start at e
    split at e
    · rename_i h; exact ⟨h, e⟩
    · cases e
  have keysz : (((fd.tab.take fd.np).zip (fd.fullV vs)).map (·.1)).Nodup := by
    have : ((fd.tab.take fd.np).zip (fd.fullV vs)).map (·.1) = fd.tab.take fd.np := by
      rw [List.map_fst_zip]
      rw [hfl, List.length_take]; omega
    rw [this]; exact g.nd.sublist (List.take_sublist _ _)
  have cin : ∀ y c, env.cells.lookup y = some c → ∃ v, s₁.heap.IsCell c v := fun y c e => ⟨_, x.cell y c e⟩
  refine ⟨⟨⟨by rw [hsc]; exact g.kind, hgl, hbu, ⟨_, x.toInCall.ns⟩, by rw [hL]; exact fresh_size, fun y e => by rw [kindOf]; exact e, fun y e => ?_, fun y e => absurd (mem_of_lookup e) (g.free y), fun y e => by rw [kindOf]; exact e, cin, fun y z c ey ez => ?_⟩,
    .refl _, .of keep, fun b o e => keep b o (hst b o e), fun a n => hnew a ?_, fun b o e => by rw [hst b o e]; simp, fun a p => ?_, fun a p => ?_, g.nd, fun i d y hi hy hv => ?_, fun i d hi ho => ?_, fun i d hi ho => ?_, fun i j a oi _ si => ?_⟩, fun b o _ e => keep b o e, fun i a (oi : fd.own i = true) _ si _ => ?_⟩
  · refine ⟨by rw [kindOf]; exact e, ?_⟩
    obtain ⟨c, e1, l⟩ := (cellsFrom_lookup fd.sc.names (s.heap.objs.size + 1) [] y g.keys).2 (mem_of_lookup e)
    exact ⟨c, by rw [hcs]; exact e1, none_of_le (h := s.heap) (by omega)⟩
  · exact name_of_addr x.apart (mem_of_lookup ey) (mem_of_lookup ez)
  · cases q : s.heap.get? a with
    | none => rfl
    | some o => rw [keep a o q] at n; cases n
  · rcases hP' a p with p | rfl
    · obtain ⟨o, es, n, q, d⟩ := hP a p
      exact ⟨o, es, n, keep a o q, d⟩
    · obtain ⟨o, es, ep, q, d, _⟩ := x.toInCall.ns
      exact ⟨o, es, ep, q, d⟩
  · rcases hP' a p with p | rfl
    · exact hbP a p
    · cases q : C.base.get? env.locals with
      | none => rfl
      | some o => have := hst _ _ q; rw [hL, fresh_size] at this; cases this
  · obtain ⟨hi1, hi2⟩ := own0 i d hi
    obtain ⟨v, hv1, _⟩ := hfull.get hi2
    have hmem : (y, v) ∈ (fd.tab.take fd.np).zip (fd.fullV vs) := by
      refine List.mem_of_getElem? (i := i) ?_
      rw [List.getElem?_zip_eq_some]
      exact ⟨by rw [List.getElem?_take, if_pos hi1]; exact hy, hv1⟩
    have e1 : (fd.fullV vs).getD i .none = v := by rw [List.getD_eq_getElem?_getD, hv1]; rfl
    show ValAt env s₁.heap y ((fd.fullV vs).getD i .none)
    rw [e1]
    obtain ⟨_, x', hx', hw⟩ := g.par i hi1
    have hy' : fd.tab[i]? = some y := hy
    rw [hx'] at hy'; cases hy'
    rcases isW_cases hw with q | q
    · have hk : env.kindOf y = some .local := by rw [kindOf]; exact q
      exact .inl ⟨hk, _, x.toInCall.ns, bindL_on hk keysz hmem⟩
    · have hk : env.kindOf y = some .cell := by rw [kindOf]; exact q
      obtain ⟨c, e2, _⟩ := (cellsFrom_lookup fd.sc.names (s.heap.objs.size + 1) [] y g.keys).2 (mem_of_lookup q)
      have e3 : env.cells.lookup y = some c := by rw [hcs]; exact e2
      have := x.cell y c e3
      rw [bindC_on (by rw [hk]; simp) keysz hmem] at this
      exact .inr ⟨.inl hk, c, e3, this⟩
  · obtain ⟨hi1, hi2⟩ := own0 i d hi
    obtain ⟨v, hv1, hv2⟩ := hfull.get hi2
    have e1 : (fd.fullV vs).getD i .none = v := by rw [List.getD_eq_getElem?_getD, hv1]; rfl
    show Rep s₁.heap _ ((fd.fullV vs).getD i .none) d
    rw [e1]
    refine hv2.mono fun a ha => ⟨ha, fun j oj sj _ => ?_⟩
    obtain ⟨dj, hj⟩ := Option.isSome_iff_exists.mp sj
    have := (g.par j (own0 j dj hj).1).1
    have oj' : fd.own j = true := oj
    rw [this] at oj'; cases oj'
  · have := (g.par i (own0 i d hi).1).1
    have ho' : fd.own i = true := ho
    rw [this] at ho'; cases ho'
  · obtain ⟨di, hi⟩ := Option.isSome_iff_exists.mp si
    have := (g.par i (own0 i di hi).1).1
    have ho' : fd.own i = true := oi
    rw [this] at ho'; cases ho'
  · obtain ⟨di, hi⟩ := Option.isSome_iff_exists.mp si
    have := (g.par i (own0 i di hi).1).1
    have ho' : fd.own i = true := oi
    rw [this] at ho'; cases ho'

/-- a greater bottom: the old one and the exception that is being handled -/
def baseOf (base h : Heap) (ea : Addr) : Heap := hideAll h ((List.range h.objs.size).filter fun b => (base.get? b).isNone && b != ea)
theorem baseOf_sub {base h : Heap} {ea b : Addr} {o : Obj} (e : (baseOf base h ea).get? b = some o) : h.get? b = some o := of_hideAll _ e
theorem baseOf_get {base h : Heap} {ea b : Addr} {o : Obj} (n : base.get? b ≠ none ∨ b = ea) (e : h.get? b = some o) : (baseOf base h ea).get? b = some o := by
  refine hideAll_get _ e fun m => ?_
  obtain ⟨_, m⟩ := List.mem_filter.mp m
  simp only [Bool.and_eq_true, Option.isNone_iff_eq_none, bne_iff_ne, ne_eq] at m
  rcases n with n | n
  · exact n m.1
  · exact m.2 n
theorem baseOf_is {base h : Heap} {ea b : Addr} {o : Obj} (e : (baseOf base h ea).get? b = some o) : base.get? b ≠ none ∨ b = ea := by
  refine Classical.byContradiction fun z => ?_
  rw [not_or, ne_eq, Classical.not_not] at z
  have hb := baseOf_sub e
  have m : b ∈ (List.range h.objs.size).filter fun b => (base.get? b).isNone && b != ea := List.mem_filter.mpr ⟨List.mem_range.mpr (Heap.lt_size hb), by simp [z.1, z.2]⟩
  have := hideAll_none (h := h) _ m
  unfold baseOf at e
  rw [this] at e; cases e
theorem FnAt.keep {base base' : Heap} {a : Addr} {fd : FnD} (x : FnAt base a fd) (k : ∀ b o, base.get? b = some o → base'.get? b = some o) : FnAt base' a fd := by
  obtain ⟨o, FD, h1, h2, h3, h4, h5, h6, h7, h8, h9, h10, h11⟩ := x.at_
  exact ⟨o, FD, k _ _ h1, h2, h3, h4, h5, h6, h7, Ext.codeRec (.of k) h8, h9, h10, fun vs s hs => h11 vs s fun b o e => hs b o (k b o e)⟩
theorem Gl.keep {base base' : Heap} {P : Addr → Prop} (G : Gl (cxP base P) fnm fa mg mb) (k : ∀ b o, base.get? b = some o → base'.get? b = some o) : Gl (cxP base' P) fnm fa mg mb :=
  ⟨Ext.ns (.of k) G.g, Ext.ns (.of k) G.b, G.bi, G.src, fun f x hf => let ⟨h1, o, fd, h2, h3⟩ := G.fn f x hf; ⟨h1, o, fd, k _ _ h2, h3⟩⟩

/-- f may be called here -/
def HF (A : Around) (base : Heap) (f : Nat) : Prop := A.handled = none ∨ (calmI f = true ∧ ∃ x, A.handled = some (.ref x) ∧ Exc base x)

theorem fns_code {fns : List FnD} {kls : Addr} {newId initId B : String} {bmB : List Value} (hg : ∀ fd ∈ fns, fd.good fnm true = true) (hcm : ∀ f fd, fns[f]? = some fd → calmI f = true → calmT fd.tab = true) (FB : ExcBaseFacts B newId initId bmB) :
    ∀ (n : Nat) (base : Heap) (A : Around) (l : List Env) (P : Addr → Prop), Gl (cxP base fun _ => False) fnm fa mg mb → base.NoLimit → (∀ f fd, fns[f]? = some fd → FnAt base (fa f) fd) → OwnCls tiesN kls bmB newId mg base →
      A.frames = some l → Fst l → (∀ a, P a ↔ a ∈ fr l) → (∀ a ∈ fr l, base.get? a = none) → A.depth + n < recursionLimit → A.units + 3 * n + 50 < cLine →
      ∀ f ds res, HF A base f → FF fns n f ds = some res → ∀ (s : Shared) (vs : List Value) (S : Addr → Prop), RepL s.heap S vs ds → (∀ a, s.heap.get? a = none → S a) → (∀ b o, base.get? b = some o → s.heap.get? b = some o) →
        (∀ a, P a → ∃ o es n, s.heap.get? a = some o ∧ o.data = .dict es n) → ∀ (R : Result → Shared → Prop),
        (match res with
          | .ok d => ∀ v s', Le base P s s' → Rep s'.heap S v d → R (.ok (.ret v)) s'
          | .error _ => ∀ x s', Same s s' → XfD l kls s x s' → R (.error x) s') → codeAny (model prog w) A (.call (.ref (fa f)) ⟨vs, []⟩) R s
  | 0, _, _, _, _, _, _, _, _, _, _, _, _, _, _ => fun f ds d _ he => by simp [FF] at he
  | n + 1, base, A, l, P, G, hlim, hat, O, hfr, hst0, hPl, hbl, hd, hu => fun f ds res hf he s vs S hr hnew hst hP R0 hQ => by
    simp only [FF, Option.bind_eq_some_iff, Option.map_eq_some_iff] at he
    obtain ⟨fd, hfd, args, hfull, r, hr', hres⟩ := he
    have g := good_of (hg fd (List.mem_of_getElem? hfd))
    obtain ⟨o, FD, h1, h2, h3, h4, h5, h6, h7, h8, h9, h10, h11⟩ := (hat f fd hfd).at_
    have hvl := hr.length
    have hlen : fd.np ≤ vs.length + fd.dfl.length ∧ vs.length ≤ fd.np := by
      unfold FnD.full at hfull
      split at hfull
      · rename_i h; rw [hvl]; exact h
      · cases hfull
    have hroom : A.depth < recursionLimit := by omega
    refine codeAny_call_function hroom (hst _ _ h1) h2 h9 h10 h3 (Ext.codeRec (.of hst) h8) ?_
    refine h11 vs s hst hlen.1 hlen.2 _ _ _ _ ?_
    rw [h7]
    refine wpAny_newFunctionEnv_cells (by rw [h4]; exact g.kind) (fun y hy => ?_) fun env he s₁ x => ⟨Ext.noLimit (.of fun b o e => x.toInCall.keep b o (hst b o e)) hlim, codeAny_func ?_⟩
    · obtain ⟨y, v⟩ := y
      have hy' := (List.of_mem_zip hy).1
      obtain ⟨i, hi, e⟩ := List.getElem_of_mem hy'
      rw [List.length_take] at hi
      rw [List.getElem_take] at e
      obtain ⟨_, x', hx', hw⟩ := g.par i (by omega)
      rw [List.getElem?_eq_getElem (by omega), e] at hx'
      cases hx'
      rw [h4]
      rcases isW_cases hw with q | q
      · exact .inl q
      · obtain ⟨c, e2, _⟩ := (cellsFrom_lookup fd.sc.names (s.heap.objs.size + 1) [] y g.keys).2 (mem_of_lookup q)
        exact .inr ⟨q, by rw [e2]; rfl⟩
    · have hA' : AOk (A.deeper env) (calleeCx (cxP base P) fd S s.heap (· ∈ fr (env :: l))) := ⟨by
        rcases hf with z | ⟨z, x, zx, ze⟩
        · exact .inl z
        · exact .inr ⟨hcm f fd hfd z, x, zx, ze⟩, by simp; omega⟩
      have e1 : env.scope = fd.sc := by rw [he]; exact h4
      have e2 : env.globals = mainGlobals := by rw [he]; exact h5
      have e3 : env.builtins = builtinsNs := by rw [he]; exact h6
      have e4 : env.locals = s.heap.objs.size := by rw [he]; rfl
      have e5 : env.cells = cellsFrom (s.heap.objs.size + 1) fd.sc.names [] := by rw [he, h4]; rfl
      have e6 : env.frame = some env.locals := by rw [he]; rfl
      have hnl : s.heap.get? env.locals = none := by rw [e4]; exact fresh_size
      have hfr' : (A.deeper env).frames = some (env :: l) := Around.frames_deeper hfr
      have hst1 : Fst (env :: l) := fun e m => by
        rcases List.mem_cons.mp m with rfl | m
        · exact ⟨by rw [e1, g.kind]; simp, _, e6⟩
        · exact hst0 e m
      have hbl1 : ∀ a ∈ fr (env :: l), base.get? a = none := fun a m => by
        rw [fr_cons e6] at m
        rcases List.mem_cons.mp m with rfl | m
        · cases q : base.get? env.locals with
          | none => rfl
          | some o => have := hst _ _ q; rw [hnl] at this; cases this
        · exact hbl a m
      have hPs : ∀ a, a ∈ fr (env :: l) → P a ∨ a = env.locals := fun a m => by
        rw [fr_cons e6] at m
        rcases List.mem_cons.mp m with rfl | m
        · exact .inr rfl
        · exact .inl ((hPl a).2 m)
      have I := enter (C := cxP base P) (P' := (· ∈ fr (env :: l))) g hPs hfull hr hnew hst hP (fun a p => hbl a ((hPl a).1 p)) e1 e2 e3 e4 e5 x
      have G' : Gl (calleeCx (cxP base P) fd S s.heap (· ∈ fr (env :: l))) fnm fa mg mb := ⟨G.g, G.b, G.bi, G.src, G.fn⟩
      have rec_ := fns_code hg hcm FB n base (A.deeper env) (env :: l) (· ∈ fr (env :: l)) G hlim hat O hfr' hst1 (fun _ => .rfl) hbl1 (by show A.depth + 1 + n < _; omega) (by simp; omega)
      have hf' : ∀ f', (A.handled = none ∨ calmI f' = true) → HF (A.deeper env) base f' := fun f' q => by
        rcases hf with z | ⟨z, x, zx, ze⟩
        · exact .inl z
        · rcases q with q | q
          · exact .inl q
          · exact .inr ⟨q, x, zx, ze⟩
      have K' : CallOk prog w (A.deeper env) (calleeCx (cxP base P) fd S s.heap (· ∈ fr (env :: l))) fa (FF fns n) :=
        ⟨fun f ds d q he s vs S hr hn hs hp Q E hQ => wpAny_call (rec_ f ds (.ok d) (hf' f q) he s vs S hr hn hs hp _ hQ)⟩
      have KX : CodeX prog w (A.deeper env) (calleeCx (cxP base P) fd S s.heap (· ∈ fr (env :: l))) fa (FF fns n) (env :: l) kls :=
        ⟨fun q f ds he s vs S hr hn hs hp R hQ => rec_ f ds (.error ()) (.inl q) he s vs S hr hn hs hp R hQ⟩
      have KH : CodeH prog w (A.deeper env) (calleeCx (cxP base P) fd S s.heap (· ∈ fr (env :: l))) fa (FF fns n) := ⟨fun ea f ds d q he s vs S hr hn hs hp hx R hQ => by
        have sub : ∀ b o, base.get? b = some o → (baseOf base s.heap ea).get? b = some o := fun b o e => baseOf_get (.inl (by rw [e]; simp)) (hs b o e)
        have hex : Exc (baseOf base s.heap ea) ea := by
          obtain ⟨o, ws, x1, x2, x3⟩ := hx
          exact ⟨o, ws, baseOf_get (.inr rfl) x1, x2, x3⟩
        refine fns_code hg hcm FB n (baseOf base s.heap ea) ((A.deeper env).mark (some (.ref ea))) (env :: l) (· ∈ fr (env :: l)) (G.keep sub) (Ext.noLimit (.of sub) hlim) (fun f fd e => (hat f fd e).keep sub) (O.keeps sub) hfr' hst1 (fun _ => .rfl) (fun a m => ?_)
          (by show A.depth + 1 + n < _; omega) (by show (A.deeper env).units + 3 * n + 50 < cLine; simp; omega) f ds (.ok d) (.inr ⟨q, ea, rfl, hex⟩) he s vs S hr hn (fun b o e => baseOf_sub e) hp R fun v s' L r => hQ v s' ?_ r
        · cases z : (baseOf base s.heap ea).get? a with
          | none => rfl
          | some o =>
            exfalso
            rcases baseOf_is z with y | y
            · exact y (hbl1 a m)
            · obtain ⟨o', es, k, p1, p2⟩ := hp a m
              obtain ⟨o'', ws, x1, x2, _⟩ := hx
              rw [y, x1] at p1; cases p1
              rw [x2] at p2; cases p2
        · obtain ⟨h', tk, rfl, l1, l2, l3⟩ := L
          exact ⟨h', tk, rfl, l1, l2, fun b o e e' => l3 b o (sub b o e) e'⟩⟩
      have X' := exOk_of (sc := fd.sc) hA' G' FB O hfr' e6 hst1 (fun _ => .rfl) KX KH
      obtain ⟨h₁, tk₁, rfl⟩ := x.toInCall.same
      have hex : ∀ h', Exact (· ∈ fr (env :: l)) s.heap h' → Exact P s.heap h' := fun h' k b o p q => k b o (fun m => (hPs b m).elim p fun z => by rw [z, hnl] at q; cases q) q
      refine all_SL hA' G' K' X' fd.body hr' g.chk I ?_
      cases r with
      | nxt σ' =>
        cases hres
        exact fun h' tk vals' I' _ => hQ .none _ ⟨h', tk, rfl, I'.V.ext, hex _ I'.ex, fun b o q _ => I'.V.stay b o q⟩ .non
      | cnt σ' =>
        cases hres
        exact fun h' tk vals' I' _ => hQ .none _ ⟨h', tk, rfl, I'.V.ext, hex _ I'.ex, fun b o q _ => I'.V.stay b o q⟩ .non
      | ret d' =>
        cases hres
        exact fun h' tk v e rr => hQ v _ ⟨h', tk, rfl, e.1, hex _ e.2.1, fun b o q _ => e.2.2 b o q⟩ (rr.mono fun a z => z.elim id fun z => hnew a z)
      | ties =>
        cases hres
        intro x s' hs hx
        refine xc_leave hfr' e6 x s' _ _ hx fun e h' ex hu hfl => ?_
        subst ex
        obtain ⟨h2, tk2, rfl⟩ := hs
        exact hQ _ _ ⟨h', tk2, rfl⟩ ⟨e, rfl, hu, hfl⟩
end
end Mine
end

section
open PySem PySem.W PyProof.Rows PySem.SeqAt PySem.MeetsSeq PySem.MeetsSeq2 PySem.MeetsSeq3
set_option maxRecDepth 100000
namespace Mine

/-! ## 26. The code of a call, whole -/
def bodyOf (p : Program) (n : String) : List PySem.Stmt := match p.theDef (PySem.Str.ofString n) with | some (_, b, _) => b | none => []
def scOf (p : Program) (n : String) : Scope := match p.theDef (PySem.Str.ofString n) with | some (_, _, s) => s | none => { kind := .module, names := [], isGenerator := false, isCoroutine := false }
end Mine
end

section
open PySem PySem.W PyProof.Rows
set_option maxRecDepth 100000
namespace Mine
abbrev l2_p : Program := PySem.Challenge.pw_br0001_02
def l2_compute_b : SL :=
  .cons (.asg (.v 5) (.call 1 (.cons (.v 1) (.cons (.v 3) .nil)))) (.cons (.ite (.cmp .eq (.v 0) (.k (.str (PySem.Str.ofString "quota")))) (.cons (.retC 5 (.cons (.v 5) (.cons (.v 2) (.cons (.v 4) .nil)))) .nil) (.cons (.ite (.cmp .inn (.v 0) (.list (.cons (.k (.str (PySem.Str.ofString "lrm"))) (.cons (.k (.str (PySem.Str.ofString "hamilton"))) (.cons (.k (.str (PySem.Str.ofString "largest_remainder"))) .nil))))) (.cons (.retC 2 (.cons (.v 5) (.cons (.v 2) (.cons (.v 4) .nil)))) .nil) (.cons (.ite (.cmp .inn (.v 0) (.list (.cons (.k (.str (PySem.Str.ofString "dhondt"))) (.cons (.k (.str (PySem.Str.ofString "jefferson"))) (.cons (.k (.str (PySem.Str.ofString "saintelague"))) (.cons (.k (.str (PySem.Str.ofString "webster"))) (.cons (.k (.str (PySem.Str.ofString "modified_saintelague"))) (.cons (.k (.str (PySem.Str.ofString "huntington"))) (.cons (.k (.str (PySem.Str.ofString "hill"))) (.cons (.k (.str (PySem.Str.ofString "adams"))) (.cons (.k (.str (PySem.Str.ofString "dean"))) (.cons (.k (.str (PySem.Str.ofString "smallestdivisor"))) (.cons (.k (.str (PySem.Str.ofString "harmonicmean"))) (.cons (.k (.str (PySem.Str.ofString "equalproportions"))) (.cons (.k (.str (PySem.Str.ofString "majorfractions"))) (.cons (.k (.str (PySem.Str.ofString "greatestdivisors"))) .nil)))))))))))))))) (.cons (.retC 3 (.cons (.v 5) (.cons (.v 2) (.cons (.v 0) (.cons (.v 4) .nil))))) .nil) (.cons .dead .nil)) .nil)) .nil)) .nil)
def l2_compute : FnD := { tab := ["method", "votes", "seats", "threshold", "tiesallowed", "filtered_votes"].map PySem.Str.ofString, owns := [], body := l2_compute_b, sc := scOf l2_p "compute", stmts := bodyOf l2_p "compute", np := 5, dfl := [.non, .bool true] }
def l2_apply_threshold_b : SL :=
  .cons (.ite (.isn false (.v 1)) (.cons (.own1 2 (.list .nil)) (.cons (.asg (.v 3) (.bi .sum (.cons (.v 0) .nil))) (.cons (.asg (.v 4) (.op .mul (.v 3) (.idx (.v 1) (.k (.int 0))))) (.cons (.loop (.v 5) (.t (.v 0)) (.cons (.ite (.cmp .lt (.op .mul (.v 5) (.idx (.v 1) (.k (.int 1)))) (.v 4)) (.cons .dead .nil) (.cons .dead .nil)) .nil)) (.cons (.retO 2) .nil))))) (.cons (.ret (.v 0)) .nil)) .nil
def l2_apply_threshold : FnD := { tab := ["votes", "threshold", "v", "combined_votes", "min_votes", "vote"].map PySem.Str.ofString, owns := [2], body := l2_apply_threshold_b, sc := scOf l2_p "apply_threshold", stmts := bodyOf l2_p "apply_threshold", np := 2, dfl := [] }
def l2_largest_remainder_b : SL :=
  .cons (.ite (.cmp .eq (.v 1) (.k (.int 0))) (.cons .dead .nil) .nil) (.cons (.asg (.v 3) (.comp (.tup (.cons (.op .mul (.bi .int (.cons (.v 9) .nil)) (.v 1)) (.cons (.bi .int (.cons (.bi .sum (.cons (.v 0) .nil)) .nil)) .nil))) (.cons (.v 9) (.t (.v 0)) .nil .nil))) (.cons (.own1 4 (.comp (.op .fdiv (.idx (.v 10) (.k (.int 0))) (.idx (.v 10) (.k (.int 1)))) (.cons (.v 10) (.t (.v 3)) .nil .nil))) (.cons (.asg (.v 5) (.k .fls)) (.cons (.ite (.cmp .lt (.bi .sum (.cons (.v 4) .nil)) (.v 1)) (.cons (.asg (.v 6) (.comp (.op .sub (.idx (.idx (.v 3) (.v 8)) (.k (.int 0))) (.op .mul (.idx (.v 4) (.v 8)) (.idx (.idx (.v 3) (.v 8)) (.k (.int 1))))) (.cons (.v 8) (.range1 (.bi .len (.cons (.v 0) .nil))) .nil .nil))) (.cons (.asg (.v 7) (.idx (.bi .sorted (.cons (.v 6) .nil)) (.op .sub (.bi .sum (.cons (.v 4) .nil)) (.v 1)))) (.cons (.loop (.v 8) (.range1 (.bi .len (.cons (.v 0) .nil))) (.cons (.asg (.v 11) (.bi .sum (.cons (.v 4) .nil))) (.cons (.ite (.bop true (.cons (.cmp .eq (.v 11) (.v 1)) (.cons (.cmp .ge (.idx (.v 6) (.v 8)) (.v 7)) .nil))) (.cons (.ite (.not (.v 5)) (.cons (.asg (.v 5) (.k .tru)) .nil) .nil) .nil) (.cons (.ite (.bop true (.cons (.cmp .lt (.v 11) (.v 1)) (.cons (.cmp .gt (.idx (.v 6) (.v 8)) (.v 7)) .nil))) (.cons (.augI 4 (.v 8) (.k (.int 1))) .nil) (.cons (.ite (.bop true (.cons (.cmp .lt (.v 11) (.v 1)) (.cons (.cmp .eq (.idx (.v 6) (.v 8)) (.v 7)) .nil))) (.cons (.augI 4 (.v 8) (.k (.int 1))) .nil) .nil) .nil)) .nil)) .nil))) .nil))) .nil) (.cons (.ite (.bop true (.cons (.v 5) (.cons (.not (.v 2)) .nil))) (.cons .raise .nil) .nil) (.cons (.retO 4) .nil))))))
def l2_largest_remainder : FnD := { tab := ["votes", "seats", "tiesallowed", "quotas", "representatives", "ties", "remainders", "cutoff", "i", "p", "qu", "reps_sum"].map PySem.Str.ofString, owns := [4], body := l2_largest_remainder_b, sc := scOf l2_p "largest_remainder", stmts := bodyOf l2_p "largest_remainder", np := 3, dfl := [.bool true] }
def l2_divisor_b : SL :=
  .cons (.own1 4 (.rep (.k (.int 0)) (.bi .len (.cons (.v 0) .nil)))) (.cons (.ite (.cmp .inn (.v 2) (.list (.cons (.k (.str (PySem.Str.ofString "dhondt"))) (.cons (.k (.str (PySem.Str.ofString "jefferson"))) (.cons (.k (.str (PySem.Str.ofString "greatestdivisors"))) .nil))))) (.cons (.asg (.v 6) (.comp (.tup (.cons (.op .add (.v 11) (.k (.int 1))) (.cons (.k (.int 1)) .nil))) (.cons (.v 11) (.range1 (.v 1)) .nil .nil))) .nil) (.cons (.ite (.cmp .inn (.v 2) (.list (.cons (.k (.str (PySem.Str.ofString "saintelague"))) (.cons (.k (.str (PySem.Str.ofString "webster"))) (.cons (.k (.str (PySem.Str.ofString "majorfractions"))) .nil))))) (.cons (.asg (.v 6) (.comp (.tup (.cons (.op .add (.op .mul (.k (.int 2)) (.v 11)) (.k (.int 1))) (.cons (.k (.int 1)) .nil))) (.cons (.v 11) (.range1 (.v 1)) .nil .nil))) .nil) (.cons (.ite (.cmp .inn (.v 2) (.list (.cons (.k (.str (PySem.Str.ofString "modified_saintelague"))) .nil))) (.cons (.asg (.v 6) (.op .add (.list (.cons (.tup (.cons (.k (.int 7)) (.cons (.k (.int 5)) .nil))) .nil)) (.comp (.tup (.cons (.op .add (.op .mul (.k (.int 2)) (.v 11)) (.k (.int 1))) (.cons (.k (.int 1)) .nil))) (.cons (.v 11) (.range2 (.k (.int 1)) (.v 1)) .nil .nil)))) .nil) (.cons (.ite (.cmp .inn (.v 2) (.list (.cons (.k (.str (PySem.Str.ofString "huntington"))) (.cons (.k (.str (PySem.Str.ofString "hill"))) (.cons (.k (.str (PySem.Str.ofString "equalproportions"))) .nil))))) (.cons (.ite (.cmp .lt (.v 1) (.bi .len (.cons (.v 0) .nil))) (.cons (.own1 4 (.call 4 (.cons (.v 0) (.cons (.v 1) (.cons (.v 3) .nil))))) .nil) (.cons (.own1 4 (.comp (.ite (.cmp .gt (.v 13) (.k (.int 0))) (.k (.int 1)) (.k (.int 0))) (.cons (.v 13) (.t (.v 0)) .nil .nil))) (.cons (.asg (.v 6) (.comp (.tup (.cons (.op .mul (.op .add (.v 11) (.k (.int 1))) (.op .add (.v 11) (.k (.int 2)))) (.cons (.k (.int 1)) .nil))) (.cons (.v 11) (.range1 (.v 1)) .nil .nil))) .nil))) .nil) (.cons (.ite (.cmp .inn (.v 2) (.list (.cons (.k (.str (PySem.Str.ofString "adams"))) (.cons (.k (.str (PySem.Str.ofString "smallestdivisor"))) .nil)))) (.cons (.ite (.cmp .lt (.v 1) (.bi .len (.cons (.v 0) .nil))) (.cons (.own1 4 (.call 4 (.cons (.v 0) (.cons (.v 1) (.cons (.v 3) .nil))))) .nil) (.cons (.own1 4 (.comp (.ite (.cmp .gt (.v 13) (.k (.int 0))) (.k (.int 1)) (.k (.int 0))) (.cons (.v 13) (.t (.v 0)) .nil .nil))) (.cons (.asg (.v 6) (.comp (.tup (.cons (.op .add (.v 11) (.k (.int 1))) (.cons (.k (.int 1)) .nil))) (.cons (.v 11) (.range1 (.v 1)) .nil .nil))) .nil))) .nil) (.cons (.ite (.cmp .inn (.v 2) (.list (.cons (.k (.str (PySem.Str.ofString "dean"))) (.cons (.k (.str (PySem.Str.ofString "harmonicmean"))) .nil)))) (.cons (.ite (.cmp .lt (.v 1) (.bi .len (.cons (.v 0) .nil))) (.cons (.own1 4 (.call 4 (.cons (.v 0) (.cons (.v 1) (.cons (.v 3) .nil))))) .nil) (.cons (.own1 4 (.comp (.ite (.cmp .gt (.v 13) (.k (.int 0))) (.k (.int 1)) (.k (.int 0))) (.cons (.v 13) (.t (.v 0)) .nil .nil))) (.cons (.asg (.v 6) (.comp (.tup (.cons (.op .mul (.op .mul (.k (.int 2)) (.op .add (.v 11) (.k (.int 1)))) (.op .add (.v 11) (.k (.int 2)))) (.cons (.op .add (.op .mul (.k (.int 2)) (.op .add (.v 11) (.k (.int 1)))) (.k (.int 1))) .nil))) (.cons (.v 11) (.range1 (.v 1)) .nil .nil))) .nil))) .nil) (.cons .dead .nil)) .nil)) .nil)) .nil)) .nil)) .nil)) (.cons (.ite (.cmp .gt (.v 1) (.bi .sum (.cons (.v 4) .nil))) (.cons (.asg (.v 7) (.k (.int 1))) (.cons (.loop (.v 8) (.t (.v 6)) (.cons (.asg (.v 7) (.op .mul (.v 7) (.idx (.v 8) (.k (.int 0))))) .nil)) (.cons (.ite (.cmp .inn (.v 2) (.list (.cons (.k (.str (PySem.Str.ofString "huntington"))) (.cons (.k (.str (PySem.Str.ofString "hill"))) (.cons (.k (.str (PySem.Str.ofString "equalproportions"))) .nil))))) (.cons (.asg (.v 12) (.comp (.comp (.op .fdiv (.op .mul (.op .mul (.op .mul (.bi .int (.cons (.v 13) .nil)) (.bi .int (.cons (.v 13) .nil))) (.idx (.v 8) (.k (.int 1)))) (.v 7)) (.idx (.v 8) (.k (.int 0)))) (.cons (.v 8) (.t (.v 6)) .nil .nil)) (.cons (.v 13) (.t (.v 0)) .nil .nil))) .nil) (.cons (.asg (.v 12) (.comp (.comp (.op .fdiv (.op .mul (.op .mul (.bi .int (.cons (.v 13) .nil)) (.idx (.v 8) (.k (.int 1)))) (.v 7)) (.idx (.v 8) (.k (.int 0)))) (.cons (.v 8) (.t (.v 6)) .nil .nil)) (.cons (.v 13) (.t (.v 0)) .nil .nil))) .nil)) (.cons (.asg (.v 9) (.bi .sorted (.cons (.comp (.v 15) (.cons (.v 14) (.t (.v 12)) .nil (.cons (.v 15) (.t (.v 14)) .nil .nil))) .nil))) (.cons (.asg (.v 10) (.idx (.v 9) (.op .add (.neg (.v 1)) (.bi .sum (.cons (.v 4) .nil))))) (.cons (.own1 4 (.comp (.op .add (.idx (.v 4) (.v 11)) (.bi .len (.cons (.comp (.v 15) (.cons (.v 15) (.t (.idx (.v 12) (.v 11))) (.cons (.cmp .gt (.v 15) (.v 10)) .nil) .nil)) .nil))) (.cons (.v 11) (.range1 (.bi .len (.cons (.v 0) .nil))) .nil .nil))) .nil)))))) .nil) (.cons (.asg (.v 5) (.k .fls)) (.cons (.ite (.cmp .gt (.v 1) (.bi .sum (.cons (.v 4) .nil))) (.cons (.loop (.v 11) (.range1 (.bi .len (.cons (.v 0) .nil))) (.cons (.ite (.bop true (.cons (.cmp .eq (.bi .sum (.cons (.v 4) .nil)) (.v 1)) (.cons (.cmp .inn (.v 10) (.idx (.v 12) (.v 11))) .nil))) (.cons (.ite (.not (.v 5)) (.cons (.ite (.not (.v 3)) (.cons .raise .nil) .nil) (.cons (.asg (.v 5) (.k .tru)) .nil)) .nil) .nil) .nil) (.cons (.ite (.bop true (.cons (.cmp .lt (.bi .sum (.cons (.v 4) .nil)) (.v 1)) (.cons (.cmp .inn (.v 10) (.idx (.v 12) (.v 11))) .nil))) (.cons (.augI 4 (.v 11) (.k (.int 1))) .nil) .nil) .nil))) .nil) .nil) (.cons (.ite (.bop true (.cons (.v 5) (.cons (.not (.v 3)) .nil))) (.cons .raise .nil) .nil) (.cons (.retO 4) .nil))))))
def l2_divisor : FnD := { tab := ["votes", "seats", "method", "tiesallowed", "representatives", "ties", "divisors", "common", "d", "flatweights", "minweight", "i", "weights", "p", "l", "w"].map PySem.Str.ofString, owns := [4], body := l2_divisor_b, sc := scOf l2_p "divisor", stmts := bodyOf l2_p "divisor", np := 4, dfl := [.bool true] }
def l2_divzero_fewerseatsthanparties_b : SL :=
  .cons (.own1 3 (.rep (.k (.int 0)) (.bi .len (.cons (.v 0) .nil)))) (.cons (.asg (.v 4) (.k .fls)) (.cons (.asg (.v 5) (.idx (.bi .sorted (.cons (.v 0) .nil)) (.neg (.v 1)))) (.cons (.loop (.v 6) (.range1 (.bi .len (.cons (.v 0) .nil))) (.cons (.ite (.bop true (.cons (.cmp .lt (.bi .sum (.cons (.v 3) .nil)) (.v 1)) (.cons (.cmp .ge (.idx (.v 0) (.v 6)) (.v 5)) .nil))) (.cons (.setI 3 (.v 6) (.k (.int 1))) .nil) (.cons (.ite (.bop true (.cons (.cmp .eq (.bi .sum (.cons (.v 3) .nil)) (.v 1)) (.cons (.cmp .ge (.idx (.v 0) (.v 6)) (.v 5)) .nil))) (.cons (.ite (.not (.v 4)) (.cons (.asg (.v 4) (.k .tru)) .nil) .nil) .nil) .nil) .nil)) .nil)) (.cons (.ite (.bop true (.cons (.v 4) (.cons (.not (.v 2)) .nil))) (.cons .raise .nil) .nil) (.cons (.retO 3) .nil)))))
def l2_divzero_fewerseatsthanparties : FnD := { tab := ["votes", "seats", "tiesallowed", "representatives", "ties", "mincount", "i"].map PySem.Str.ofString, owns := [3], body := l2_divzero_fewerseatsthanparties_b, sc := scOf l2_p "_divzero_fewerseatsthanparties", stmts := bodyOf l2_p "_divzero_fewerseatsthanparties", np := 3, dfl := [] }
def l2_quota_b : SL :=
  .cons (.ite (.not (.v 2)) (.cons .dead .nil) .nil) (.cons (.own1 3 (.rep (.k (.int 0)) (.bi .len (.cons (.v 0) .nil)))) (.cons (.whil 20 (.cmp .lt (.bi .sum (.cons (.v 3) .nil)) (.v 1)) (.cons (.asg (.v 4) (.k (.int 1))) (.cons (.loopB (.v 5) 3 (.cons (.asg (.v 4) (.op .mul (.v 4) (.op .add (.v 5) (.k (.int 1))))) .nil)) (.cons (.asg (.v 6) (.comp (.op .fdiv (.op .mul (.bi .int (.cons (.idx (.v 0) (.v 11)) .nil)) (.v 4)) (.op .add (.bi .int (.cons (.idx (.v 3) (.v 11)) .nil)) (.k (.int 1)))) (.cons (.v 11) (.range1 (.bi .len (.cons (.v 0) .nil))) .nil .nil))) (.cons (.ite (.cmp .ne (.bi .sum (.cons (.v 0) .nil)) (.k (.int 0))) (.cons (.asg (.v 10) (.comp (.neg (.op .fdiv (.op .mul (.neg (.v 12)) (.op .add (.bi .sum (.cons (.v 3) .nil)) (.k (.int 1)))) (.bi .sum (.cons (.v 0) .nil)))) (.cons (.v 12) (.t (.v 0)) .nil .nil))) (.cons (.asg (.v 6) (.comp (.ite (.cmp .ge (.idx (.v 3) (.v 11)) (.idx (.v 10) (.v 11))) (.k (.int 0)) (.idx (.v 6) (.v 11))) (.cons (.v 11) (.range1 (.bi .len (.cons (.v 0) .nil))) .nil .nil))) .nil)) .nil) (.cons (.asg (.v 7) (.bi .maxL (.cons (.v 6) .nil))) (.cons (.asg (.v 8) (.comp (.v 11) (.cons (.v 11) (.range1 (.bi .len (.cons (.v 0) .nil))) (.cons (.cmp .eq (.idx (.v 6) (.v 11)) (.v 7)) .nil) .nil))) (.cons (.asg (.v 9) (.idx (.v 8) (.k (.int 0)))) (.cons (.augI 3 (.v 9) (.k (.int 1))) .nil))))))))) (.cons (.retO 3) .nil)))
def l2_quota : FnD := { tab := ["votes", "seats", "tiesallowed", "representatives", "common", "r", "quotas", "maxquota", "maxquotas", "nextrep", "upperquota", "i", "p"].map PySem.Str.ofString, owns := [3], body := l2_quota_b, sc := scOf l2_p "quota", stmts := bodyOf l2_p "quota", np := 3, dfl := [.bool true] }
def l2_law_seats_b : SL :=
  .cons (.asg (.v 4) (.bi .len (.cons (.v 1) .nil))) (.cons (.try (.cons (.retC 0 (.cons (.v 0) (.cons (.v 1) (.cons (.v 2) (.cons (.k .non) (.cons (.k .fls) .nil)))))) .nil) (.cons (.asg (.v 12) (.call 9 (.cons (.v 0) (.cons (.v 1) (.cons (.v 2) .nil))))) .nil)) (.cons (.ite (.isn true (.v 3)) (.cons (.asg (.v 6) (.bi .sum (.cons (.v 1) .nil))) (.cons (.asg (.v 7) (.op .sub (.v 2) (.bi .sum (.cons (.comp (.op .fdiv (.op .mul (.v 13) (.v 2)) (.v 6)) (.cons (.v 13) (.t (.v 1)) .nil .nil)) .nil)))) (.cons (.asg (.v 8) (.rev (.bi .sorted (.cons (.comp (.op .mod (.op .mul (.v 13) (.v 2)) (.v 6)) (.cons (.v 13) (.t (.v 1)) .nil .nil)) .nil)))) (.cons (.ret (.ite (.bop true (.cons (.cmp .gt (.v 7) (.k (.int 0))) (.cons (.cmp .eq (.idx (.v 8) (.op .sub (.v 7) (.k (.int 1)))) (.idx (.v 8) (.v 7))) .nil))) (.k .non) (.list .nil))) .nil)))) .nil) (.cons (.asg (.tup (.cons (.v 9) (.cons (.v 10) .nil))) (.v 3)) (.cons (.loop (.v 5) (.range1 (.v 4)) (.cons (.loop (.v 11) (.range1 (.v 4)) (.cons (.ite (.bop true (.cons (.cmp .ne (.v 5) (.v 11)) (.cons (.cmp .gt (.idx (.v 12) (.v 5)) (.k (.int 0))) (.cons (.cmp .gt (.op .add (.op .mul (.v 10) (.op .sub (.idx (.v 12) (.v 5)) (.k (.int 1)))) (.v 9)) (.k (.int 0))) (.cons (.cmp .eq (.op .mul (.idx (.v 1) (.v 5)) (.op .add (.op .mul (.v 10) (.idx (.v 12) (.v 11))) (.v 9))) (.op .mul (.idx (.v 1) (.v 11)) (.op .add (.op .mul (.v 10) (.op .sub (.idx (.v 12) (.v 5)) (.k (.int 1)))) (.v 9)))) .nil))))) (.cons (.ret (.k .non)) .nil) .nil) .nil)) .nil)) (.cons (.ret (.list .nil)) .nil)))))
def l2_law_seats : FnD := { tab := ["name", "votes", "house", "signposts", "many", "i", "total", "left", "rests", "a", "b", "j", "found", "one"].map PySem.Str.ofString, owns := [], body := l2_law_seats_b, sc := scOf l2_p "_law_seats", stmts := bodyOf l2_p "_law_seats", np := 4, dfl := [] }
def l2_law_changes_b : SL :=
  .cons (.asg (.v 3) (.comp (.idx (.v 0) (.v 6)) (.cons (.v 6) (.range1 (.bi .len (.cons (.v 0) .nil))) (.cons (.cmp .gt (.idx (.v 2) (.v 6)) (.idx (.v 1) (.v 6))) .nil) .nil))) (.cons (.asg (.v 4) (.comp (.idx (.v 0) (.v 6)) (.cons (.v 6) (.range1 (.bi .len (.cons (.v 0) .nil))) (.cons (.cmp .lt (.idx (.v 2) (.v 6)) (.idx (.v 1) (.v 6))) .nil) .nil))) (.cons (.asg (.v 5) (.comp (.op .sub (.idx (.v 2) (.v 6)) (.idx (.v 1) (.v 6))) (.cons (.v 6) (.range1 (.bi .len (.cons (.v 0) .nil))) .nil .nil))) (.cons (.ret (.tup (.cons (.v 3) (.cons (.v 4) (.cons (.bi .maxL (.cons (.v 5) .nil)) (.cons (.bi .minL (.cons (.v 5) .nil)) .nil)))))) .nil)))
def l2_law_changes : FnD := { tab := ["votes", "first", "second", "gains", "losses", "changes", "k"].map PySem.Str.ofString, owns := [], body := l2_law_changes_b, sc := scOf l2_p "_law_changes", stmts := bodyOf l2_p "_law_changes", np := 3, dfl := [] }
def l2_law_b : SL :=
  .cons (.asg (.v 1) (.list (.cons (.k (.int 1)) (.cons (.k (.int 3)) (.cons (.k (.int 2)) (.cons (.k (.int 500)) (.cons (.k (.int 340)) (.cons (.k (.int 160)) (.cons (.k (.int 90)) (.cons (.k (.int 21)) .nil)))))))))) (.cons (.asg (.v 2) (.op .add (.sl (.v 0) .none (.some (.k (.int 8)))) (.sl (.v 1) (.some (.bi .len (.cons (.sl (.v 0) .none (.some (.k (.int 8)))) .nil))) .none))) (.cons (.asg (.v 3) (.comp (.op .add (.k (.int 1)) (.op .mod (.idx (.v 2) (.op .add (.k (.int 3)) (.v 9))) (.op .pow (.k (.int 10)) (.k (.int 9))))) (.cons (.v 9) (.range1 (.op .add (.k (.int 2)) (.op .mod (.idx (.v 2) (.k (.int 1))) (.k (.int 4))))) .nil .nil))) (.cons (.loop (.v 4) (.range2 (.op .add (.bi .len (.cons (.v 3) .nil)) (.op .mod (.idx (.v 2) (.k (.int 2))) (.k (.int 10)))) (.op .add (.op .add (.bi .len (.cons (.v 3) .nil)) (.op .mod (.idx (.v 2) (.k (.int 2))) (.k (.int 10)))) (.k (.int 2)))) (.cons (.asg (.v 5) (.call 6 (.cons (.idx (.list (.cons (.k (.str (PySem.Str.ofString "lrm"))) (.cons (.k (.str (PySem.Str.ofString "hamilton"))) (.cons (.k (.str (PySem.Str.ofString "largest_remainder"))) .nil)))) (.op .mod (.idx (.v 2) (.k (.int 0))) (.k (.int 3)))) (.cons (.v 3) (.cons (.v 4) (.cons (.k .non) .nil)))))) (.cons (.asg (.v 6) (.call 6 (.cons (.idx (.list (.cons (.k (.str (PySem.Str.ofString "dhondt"))) (.cons (.k (.str (PySem.Str.ofString "jefferson"))) (.cons (.k (.str (PySem.Str.ofString "greatestdivisors"))) .nil)))) (.op .mod (.op .fdiv (.idx (.v 2) (.k (.int 0))) (.k (.int 3))) (.k (.int 3)))) (.cons (.v 3) (.cons (.v 4) (.cons (.tup (.cons (.k (.int 1)) (.cons (.k (.int 1)) .nil))) .nil)))))) (.cons (.asg (.v 7) (.call 6 (.cons (.idx (.list (.cons (.k (.str (PySem.Str.ofString "adams"))) (.cons (.k (.str (PySem.Str.ofString "smallestdivisor"))) .nil))) (.op .mod (.op .fdiv (.idx (.v 2) (.k (.int 0))) (.k (.int 9))) (.k (.int 2)))) (.cons (.v 3) (.cons (.v 4) (.cons (.tup (.cons (.k (.int 0)) (.cons (.k (.int 1)) .nil))) .nil)))))) (.cons (.asg (.v 8) (.call 6 (.cons (.idx (.list (.cons (.k (.str (PySem.Str.ofString "saintelague"))) (.cons (.k (.str (PySem.Str.ofString "webster"))) (.cons (.k (.str (PySem.Str.ofString "majorfractions"))) .nil)))) (.op .mod (.op .fdiv (.idx (.v 2) (.k (.int 0))) (.k (.int 18))) (.k (.int 3)))) (.cons (.v 3) (.cons (.v 4) (.cons (.tup (.cons (.k (.int 1)) (.cons (.k (.int 2)) .nil))) .nil)))))) (.cons (.ite (.cmp .inn (.list .nil) (.list (.cons (.v 5) (.cons (.v 6) (.cons (.v 7) (.cons (.v 8) .nil)))))) (.cons (.ret (.k .fls)) .nil) .nil) (.cons (.ite (.isn true (.v 5)) (.cons .cont .nil) .nil) (.cons (.ite (.isn false (.v 6)) (.cons (.asg (.tup (.cons (.v 10) (.cons (.v 11) (.cons (.v 12) (.cons (.v 13) .nil))))) (.call 7 (.cons (.v 3) (.cons (.v 5) (.cons (.v 6) .nil))))) (.cons (.ite (.bop false (.cons (.cmp .lt (.v 13) (.neg (.k (.int 1)))) (.cons (.bop true (.cons (.cmp .ne (.v 10) (.list .nil)) (.cons (.cmp .ne (.v 11) (.list .nil)) (.cons (.cmp .le (.bi .minL (.cons (.v 10) .nil)) (.bi .maxL (.cons (.v 11) .nil))) .nil)))) .nil))) (.cons (.ret (.k .fls)) .nil) .nil) .nil)) .nil) (.cons (.ite (.isn false (.v 7)) (.cons (.asg (.tup (.cons (.v 10) (.cons (.v 11) (.cons (.v 12) (.cons (.v 13) .nil))))) (.call 7 (.cons (.v 3) (.cons (.v 5) (.cons (.v 7) .nil))))) (.cons (.ite (.bop false (.cons (.cmp .gt (.v 12) (.k (.int 1))) (.cons (.bop true (.cons (.cmp .ne (.v 10) (.list .nil)) (.cons (.cmp .ne (.v 11) (.list .nil)) (.cons (.cmp .ge (.bi .maxL (.cons (.v 10) .nil)) (.bi .minL (.cons (.v 11) .nil))) .nil)))) .nil))) (.cons (.ret (.k .fls)) .nil) .nil) .nil)) .nil) (.cons (.ite (.isn false (.v 8)) (.cons (.asg (.tup (.cons (.v 10) (.cons (.v 11) (.cons (.v 12) (.cons (.v 13) .nil))))) (.call 7 (.cons (.v 3) (.cons (.v 5) (.cons (.v 8) .nil))))) (.cons (.ite (.bop true (.cons (.cmp .ne (.v 10) (.list .nil)) (.cons (.cmp .ne (.v 11) (.list .nil)) .nil))) (.cons (.ite (.not (.bop false (.cons (.bop true (.cons (.cmp .gt (.bi .minL (.cons (.v 10) .nil)) (.bi .maxL (.cons (.v 11) .nil))) (.cons (.cmp .eq (.v 13) (.neg (.k (.int 1)))) .nil))) (.cons (.bop true (.cons (.cmp .lt (.bi .maxL (.cons (.v 10) .nil)) (.bi .minL (.cons (.v 11) .nil))) (.cons (.cmp .eq (.v 12) (.k (.int 1))) .nil))) .nil)))) (.cons (.ret (.k .fls)) .nil) .nil) .nil) .nil) .nil)) .nil) .nil)))))))))) (.cons (.ret (.k .tru)) .nil))))
def l2_law : FnD := { tab := ["script", "rest", "cells", "votes", "house", "plain", "great", "small", "middle", "k", "gains", "losses", "most", "least"].map PySem.Str.ofString, owns := [], body := l2_law_b, sc := scOf l2_p "law", stmts := bodyOf l2_p "law", np := 1, dfl := [] }
def l2_compute_c_b : SL :=
  .cons (.asg (.v 5) (.call 10 (.cons (.v 1) (.cons (.v 3) .nil)))) (.cons (.ite (.cmp .eq (.v 0) (.k (.str (PySem.Str.ofString "quota")))) (.cons .dead .nil) (.cons (.ite (.cmp .inn (.v 0) (.list (.cons (.k (.str (PySem.Str.ofString "lrm"))) (.cons (.k (.str (PySem.Str.ofString "hamilton"))) (.cons (.k (.str (PySem.Str.ofString "largest_remainder"))) .nil))))) (.cons (.ret (.call 11 (.cons (.v 5) (.cons (.v 2) (.cons (.v 4) .nil))))) .nil) (.cons (.ite (.cmp .inn (.v 0) (.list (.cons (.k (.str (PySem.Str.ofString "dhondt"))) (.cons (.k (.str (PySem.Str.ofString "jefferson"))) (.cons (.k (.str (PySem.Str.ofString "saintelague"))) (.cons (.k (.str (PySem.Str.ofString "webster"))) (.cons (.k (.str (PySem.Str.ofString "modified_saintelague"))) (.cons (.k (.str (PySem.Str.ofString "huntington"))) (.cons (.k (.str (PySem.Str.ofString "hill"))) (.cons (.k (.str (PySem.Str.ofString "adams"))) (.cons (.k (.str (PySem.Str.ofString "dean"))) (.cons (.k (.str (PySem.Str.ofString "smallestdivisor"))) (.cons (.k (.str (PySem.Str.ofString "harmonicmean"))) (.cons (.k (.str (PySem.Str.ofString "equalproportions"))) (.cons (.k (.str (PySem.Str.ofString "majorfractions"))) (.cons (.k (.str (PySem.Str.ofString "greatestdivisors"))) .nil)))))))))))))))) (.cons (.ret (.call 12 (.cons (.v 5) (.cons (.v 2) (.cons (.v 0) (.cons (.v 4) .nil)))))) .nil) (.cons .dead .nil)) .nil)) .nil)) .nil)
def l2_compute_c : FnD := { tab := ["method", "votes", "seats", "threshold", "tiesallowed", "filtered_votes", "0calm"].map PySem.Str.ofString, owns := [], body := l2_compute_c_b, sc := scOf l2_p "compute", stmts := bodyOf l2_p "compute", np := 5, dfl := [.non, .bool true] }
def l2_apply_threshold_c_b : SL :=
  .cons (.ite (.isn false (.v 1)) (.cons (.own1 2 (.list .nil)) (.cons (.asg (.v 3) (.bi .sum (.cons (.v 0) .nil))) (.cons (.asg (.v 4) (.op .mul (.v 3) (.idx (.v 1) (.k (.int 0))))) (.cons (.loop (.v 5) (.t (.v 0)) (.cons (.ite (.cmp .lt (.op .mul (.v 5) (.idx (.v 1) (.k (.int 1)))) (.v 4)) (.cons .dead .nil) (.cons .dead .nil)) .nil)) (.cons (.retO 2) .nil))))) (.cons (.ret (.v 0)) .nil)) .nil
def l2_apply_threshold_c : FnD := { tab := ["votes", "threshold", "v", "combined_votes", "min_votes", "vote", "0calm"].map PySem.Str.ofString, owns := [2], body := l2_apply_threshold_c_b, sc := scOf l2_p "apply_threshold", stmts := bodyOf l2_p "apply_threshold", np := 2, dfl := [] }
def l2_largest_remainder_c_b : SL :=
  .cons (.ite (.cmp .eq (.v 1) (.k (.int 0))) (.cons .dead .nil) .nil) (.cons (.asg (.v 3) (.comp (.tup (.cons (.op .mul (.bi .int (.cons (.v 9) .nil)) (.v 1)) (.cons (.bi .int (.cons (.bi .sum (.cons (.v 0) .nil)) .nil)) .nil))) (.cons (.v 9) (.t (.v 0)) .nil .nil))) (.cons (.own1 4 (.comp (.op .fdiv (.idx (.v 10) (.k (.int 0))) (.idx (.v 10) (.k (.int 1)))) (.cons (.v 10) (.t (.v 3)) .nil .nil))) (.cons (.asg (.v 5) (.k .fls)) (.cons (.ite (.cmp .lt (.bi .sum (.cons (.v 4) .nil)) (.v 1)) (.cons (.asg (.v 6) (.comp (.op .sub (.idx (.idx (.v 3) (.v 8)) (.k (.int 0))) (.op .mul (.idx (.v 4) (.v 8)) (.idx (.idx (.v 3) (.v 8)) (.k (.int 1))))) (.cons (.v 8) (.range1 (.bi .len (.cons (.v 0) .nil))) .nil .nil))) (.cons (.asg (.v 7) (.idx (.bi .sorted (.cons (.v 6) .nil)) (.op .sub (.bi .sum (.cons (.v 4) .nil)) (.v 1)))) (.cons (.loop (.v 8) (.range1 (.bi .len (.cons (.v 0) .nil))) (.cons (.asg (.v 11) (.bi .sum (.cons (.v 4) .nil))) (.cons (.ite (.bop true (.cons (.cmp .eq (.v 11) (.v 1)) (.cons (.cmp .ge (.idx (.v 6) (.v 8)) (.v 7)) .nil))) (.cons (.ite (.not (.v 5)) (.cons (.asg (.v 5) (.k .tru)) .nil) .nil) .nil) (.cons (.ite (.bop true (.cons (.cmp .lt (.v 11) (.v 1)) (.cons (.cmp .gt (.idx (.v 6) (.v 8)) (.v 7)) .nil))) (.cons (.augI 4 (.v 8) (.k (.int 1))) .nil) (.cons (.ite (.bop true (.cons (.cmp .lt (.v 11) (.v 1)) (.cons (.cmp .eq (.idx (.v 6) (.v 8)) (.v 7)) .nil))) (.cons (.augI 4 (.v 8) (.k (.int 1))) .nil) .nil) .nil)) .nil)) .nil))) .nil))) .nil) (.cons (.ite (.bop true (.cons (.v 5) (.cons (.not (.v 2)) .nil))) (.cons .dead .nil) .nil) (.cons (.retO 4) .nil))))))
def l2_largest_remainder_c : FnD := { tab := ["votes", "seats", "tiesallowed", "quotas", "representatives", "ties", "remainders", "cutoff", "i", "p", "qu", "reps_sum", "0calm"].map PySem.Str.ofString, owns := [4], body := l2_largest_remainder_c_b, sc := scOf l2_p "largest_remainder", stmts := bodyOf l2_p "largest_remainder", np := 3, dfl := [.bool true] }
def l2_divisor_c_b : SL :=
  .cons (.own1 4 (.rep (.k (.int 0)) (.bi .len (.cons (.v 0) .nil)))) (.cons (.ite (.cmp .inn (.v 2) (.list (.cons (.k (.str (PySem.Str.ofString "dhondt"))) (.cons (.k (.str (PySem.Str.ofString "jefferson"))) (.cons (.k (.str (PySem.Str.ofString "greatestdivisors"))) .nil))))) (.cons (.asg (.v 6) (.comp (.tup (.cons (.op .add (.v 11) (.k (.int 1))) (.cons (.k (.int 1)) .nil))) (.cons (.v 11) (.range1 (.v 1)) .nil .nil))) .nil) (.cons (.ite (.cmp .inn (.v 2) (.list (.cons (.k (.str (PySem.Str.ofString "saintelague"))) (.cons (.k (.str (PySem.Str.ofString "webster"))) (.cons (.k (.str (PySem.Str.ofString "majorfractions"))) .nil))))) (.cons (.asg (.v 6) (.comp (.tup (.cons (.op .add (.op .mul (.k (.int 2)) (.v 11)) (.k (.int 1))) (.cons (.k (.int 1)) .nil))) (.cons (.v 11) (.range1 (.v 1)) .nil .nil))) .nil) (.cons (.ite (.cmp .inn (.v 2) (.list (.cons (.k (.str (PySem.Str.ofString "modified_saintelague"))) .nil))) (.cons (.asg (.v 6) (.op .add (.list (.cons (.tup (.cons (.k (.int 7)) (.cons (.k (.int 5)) .nil))) .nil)) (.comp (.tup (.cons (.op .add (.op .mul (.k (.int 2)) (.v 11)) (.k (.int 1))) (.cons (.k (.int 1)) .nil))) (.cons (.v 11) (.range2 (.k (.int 1)) (.v 1)) .nil .nil)))) .nil) (.cons (.ite (.cmp .inn (.v 2) (.list (.cons (.k (.str (PySem.Str.ofString "huntington"))) (.cons (.k (.str (PySem.Str.ofString "hill"))) (.cons (.k (.str (PySem.Str.ofString "equalproportions"))) .nil))))) (.cons (.ite (.cmp .lt (.v 1) (.bi .len (.cons (.v 0) .nil))) (.cons (.own1 4 (.call 13 (.cons (.v 0) (.cons (.v 1) (.cons (.v 3) .nil))))) .nil) (.cons (.own1 4 (.comp (.ite (.cmp .gt (.v 13) (.k (.int 0))) (.k (.int 1)) (.k (.int 0))) (.cons (.v 13) (.t (.v 0)) .nil .nil))) (.cons (.asg (.v 6) (.comp (.tup (.cons (.op .mul (.op .add (.v 11) (.k (.int 1))) (.op .add (.v 11) (.k (.int 2)))) (.cons (.k (.int 1)) .nil))) (.cons (.v 11) (.range1 (.v 1)) .nil .nil))) .nil))) .nil) (.cons (.ite (.cmp .inn (.v 2) (.list (.cons (.k (.str (PySem.Str.ofString "adams"))) (.cons (.k (.str (PySem.Str.ofString "smallestdivisor"))) .nil)))) (.cons (.ite (.cmp .lt (.v 1) (.bi .len (.cons (.v 0) .nil))) (.cons (.own1 4 (.call 13 (.cons (.v 0) (.cons (.v 1) (.cons (.v 3) .nil))))) .nil) (.cons (.own1 4 (.comp (.ite (.cmp .gt (.v 13) (.k (.int 0))) (.k (.int 1)) (.k (.int 0))) (.cons (.v 13) (.t (.v 0)) .nil .nil))) (.cons (.asg (.v 6) (.comp (.tup (.cons (.op .add (.v 11) (.k (.int 1))) (.cons (.k (.int 1)) .nil))) (.cons (.v 11) (.range1 (.v 1)) .nil .nil))) .nil))) .nil) (.cons (.ite (.cmp .inn (.v 2) (.list (.cons (.k (.str (PySem.Str.ofString "dean"))) (.cons (.k (.str (PySem.Str.ofString "harmonicmean"))) .nil)))) (.cons (.ite (.cmp .lt (.v 1) (.bi .len (.cons (.v 0) .nil))) (.cons (.own1 4 (.call 13 (.cons (.v 0) (.cons (.v 1) (.cons (.v 3) .nil))))) .nil) (.cons (.own1 4 (.comp (.ite (.cmp .gt (.v 13) (.k (.int 0))) (.k (.int 1)) (.k (.int 0))) (.cons (.v 13) (.t (.v 0)) .nil .nil))) (.cons (.asg (.v 6) (.comp (.tup (.cons (.op .mul (.op .mul (.k (.int 2)) (.op .add (.v 11) (.k (.int 1)))) (.op .add (.v 11) (.k (.int 2)))) (.cons (.op .add (.op .mul (.k (.int 2)) (.op .add (.v 11) (.k (.int 1)))) (.k (.int 1))) .nil))) (.cons (.v 11) (.range1 (.v 1)) .nil .nil))) .nil))) .nil) (.cons .dead .nil)) .nil)) .nil)) .nil)) .nil)) .nil)) (.cons (.ite (.cmp .gt (.v 1) (.bi .sum (.cons (.v 4) .nil))) (.cons (.asg (.v 7) (.k (.int 1))) (.cons (.loop (.v 8) (.t (.v 6)) (.cons (.asg (.v 7) (.op .mul (.v 7) (.idx (.v 8) (.k (.int 0))))) .nil)) (.cons (.ite (.cmp .inn (.v 2) (.list (.cons (.k (.str (PySem.Str.ofString "huntington"))) (.cons (.k (.str (PySem.Str.ofString "hill"))) (.cons (.k (.str (PySem.Str.ofString "equalproportions"))) .nil))))) (.cons (.asg (.v 12) (.comp (.comp (.op .fdiv (.op .mul (.op .mul (.op .mul (.bi .int (.cons (.v 13) .nil)) (.bi .int (.cons (.v 13) .nil))) (.idx (.v 8) (.k (.int 1)))) (.v 7)) (.idx (.v 8) (.k (.int 0)))) (.cons (.v 8) (.t (.v 6)) .nil .nil)) (.cons (.v 13) (.t (.v 0)) .nil .nil))) .nil) (.cons (.asg (.v 12) (.comp (.comp (.op .fdiv (.op .mul (.op .mul (.bi .int (.cons (.v 13) .nil)) (.idx (.v 8) (.k (.int 1)))) (.v 7)) (.idx (.v 8) (.k (.int 0)))) (.cons (.v 8) (.t (.v 6)) .nil .nil)) (.cons (.v 13) (.t (.v 0)) .nil .nil))) .nil)) (.cons (.asg (.v 9) (.bi .sorted (.cons (.comp (.v 15) (.cons (.v 14) (.t (.v 12)) .nil (.cons (.v 15) (.t (.v 14)) .nil .nil))) .nil))) (.cons (.asg (.v 10) (.idx (.v 9) (.op .add (.neg (.v 1)) (.bi .sum (.cons (.v 4) .nil))))) (.cons (.own1 4 (.comp (.op .add (.idx (.v 4) (.v 11)) (.bi .len (.cons (.comp (.v 15) (.cons (.v 15) (.t (.idx (.v 12) (.v 11))) (.cons (.cmp .gt (.v 15) (.v 10)) .nil) .nil)) .nil))) (.cons (.v 11) (.range1 (.bi .len (.cons (.v 0) .nil))) .nil .nil))) .nil)))))) .nil) (.cons (.asg (.v 5) (.k .fls)) (.cons (.ite (.cmp .gt (.v 1) (.bi .sum (.cons (.v 4) .nil))) (.cons (.loop (.v 11) (.range1 (.bi .len (.cons (.v 0) .nil))) (.cons (.ite (.bop true (.cons (.cmp .eq (.bi .sum (.cons (.v 4) .nil)) (.v 1)) (.cons (.cmp .inn (.v 10) (.idx (.v 12) (.v 11))) .nil))) (.cons (.ite (.not (.v 5)) (.cons (.ite (.not (.v 3)) (.cons .dead .nil) .nil) (.cons (.asg (.v 5) (.k .tru)) .nil)) .nil) .nil) .nil) (.cons (.ite (.bop true (.cons (.cmp .lt (.bi .sum (.cons (.v 4) .nil)) (.v 1)) (.cons (.cmp .inn (.v 10) (.idx (.v 12) (.v 11))) .nil))) (.cons (.augI 4 (.v 11) (.k (.int 1))) .nil) .nil) .nil))) .nil) .nil) (.cons (.ite (.bop true (.cons (.v 5) (.cons (.not (.v 3)) .nil))) (.cons .dead .nil) .nil) (.cons (.retO 4) .nil))))))
def l2_divisor_c : FnD := { tab := ["votes", "seats", "method", "tiesallowed", "representatives", "ties", "divisors", "common", "d", "flatweights", "minweight", "i", "weights", "p", "l", "w", "0calm"].map PySem.Str.ofString, owns := [4], body := l2_divisor_c_b, sc := scOf l2_p "divisor", stmts := bodyOf l2_p "divisor", np := 4, dfl := [.bool true] }
def l2_divzero_fewerseatsthanparties_c_b : SL :=
  .cons (.own1 3 (.rep (.k (.int 0)) (.bi .len (.cons (.v 0) .nil)))) (.cons (.asg (.v 4) (.k .fls)) (.cons (.asg (.v 5) (.idx (.bi .sorted (.cons (.v 0) .nil)) (.neg (.v 1)))) (.cons (.loop (.v 6) (.range1 (.bi .len (.cons (.v 0) .nil))) (.cons (.ite (.bop true (.cons (.cmp .lt (.bi .sum (.cons (.v 3) .nil)) (.v 1)) (.cons (.cmp .ge (.idx (.v 0) (.v 6)) (.v 5)) .nil))) (.cons (.setI 3 (.v 6) (.k (.int 1))) .nil) (.cons (.ite (.bop true (.cons (.cmp .eq (.bi .sum (.cons (.v 3) .nil)) (.v 1)) (.cons (.cmp .ge (.idx (.v 0) (.v 6)) (.v 5)) .nil))) (.cons (.ite (.not (.v 4)) (.cons (.asg (.v 4) (.k .tru)) .nil) .nil) .nil) .nil) .nil)) .nil)) (.cons (.ite (.bop true (.cons (.v 4) (.cons (.not (.v 2)) .nil))) (.cons .dead .nil) .nil) (.cons (.retO 3) .nil)))))
def l2_divzero_fewerseatsthanparties_c : FnD := { tab := ["votes", "seats", "tiesallowed", "representatives", "ties", "mincount", "i", "0calm"].map PySem.Str.ofString, owns := [3], body := l2_divzero_fewerseatsthanparties_c_b, sc := scOf l2_p "_divzero_fewerseatsthanparties", stmts := bodyOf l2_p "_divzero_fewerseatsthanparties", np := 3, dfl := [] }
def l2_fnm : List PySem.Str := ["compute", "apply_threshold", "largest_remainder", "divisor", "_divzero_fewerseatsthanparties", "quota", "_law_seats", "_law_changes", "law", "compute", "apply_threshold", "largest_remainder", "divisor", "_divzero_fewerseatsthanparties"].map PySem.Str.ofString
def l2_fns : List FnD := [l2_compute, l2_apply_threshold, l2_largest_remainder, l2_divisor, l2_divzero_fewerseatsthanparties, l2_quota, l2_law_seats, l2_law_changes, l2_law, l2_compute_c, l2_apply_threshold_c, l2_largest_remainder_c, l2_divisor_c, l2_divzero_fewerseatsthanparties_c]

theorem l2_good : ∀ fd ∈ l2_fns, fd.good l2_fnm true = true := by
  intro fd h
  simp only [l2_fns, List.mem_cons, List.not_mem_nil, or_false] at h
  rcases h with rfl | rfl | rfl | rfl | rfl | rfl | rfl | rfl | rfl | rfl | rfl | rfl | rfl | rfl <;> decide +kernel
theorem l2_calm : ∀ f fd, l2_fns[f]? = some fd → calmI f = true → calmT fd.tab = true := by
  intro f fd h hc
  have hlt : f < 14 := (List.getElem?_eq_some_iff.mp h).1
  have hge : 9 ≤ f := by simpa [calmI] using hc
  match f, hlt, hge with
  | 9, _, _ => cases h; decide +kernel
  | 10, _, _ => cases h; decide +kernel
  | 11, _, _ => cases h; decide +kernel
  | 12, _, _ => cases h; decide +kernel
  | 13, _, _ => cases h; decide +kernel
end Mine
end

section
open PySem PySem.W PyProof.Rows
set_option maxRecDepth 100000
set_option maxHeartbeats 8000000
namespace Mine
open_top hd for PySem.Challenge.rw_br0001_02
end Mine
end

section
open PySem PySem.W PyProof.Rows
set_option maxRecDepth 100000
set_option maxHeartbeats 8000000
namespace Mine
def l2_fa : Nat → Addr := fun f => ([35, 42, 48, 54, 61, 67, 72, 77, 82, 35, 42, 48, 54, 61][f]?).getD 0
theorem l2_at_compute {w : World} {h : Heap} (KX : (Mine.hd.heap_39 w.params).In h) : FnAt h 35 l2_compute := by
  refine ⟨⟨_, _, KX 35 _ rfl, rfl, rfl, rfl, rfl, rfl, rfl, ⟨34, _, _, _, rfl, KX 34 _ rfl, rfl, rfl⟩, rfl, rfl, fun vs s hs h1 h2 => ?_⟩⟩
  have h1 : 5 ≤ vs.length + 2 := h1
  have h2 : vs.length ≤ 5 := h2
  rcases vs with _ | ⟨a0, _ | ⟨a1, _ | ⟨a2, _ | ⟨a3, _ | ⟨a4, _ | ⟨a5, r⟩⟩⟩⟩⟩⟩
  · simp only [List.length_cons, List.length_nil] at h1 h2; exfalso; omega
  · simp only [List.length_cons, List.length_nil] at h1 h2; exfalso; omega
  · simp only [List.length_cons, List.length_nil] at h1 h2; exfalso; omega
  · exact BindsTo.of_defaults rfl (hs _ _ (KX 28 _ rfl)) rfl rfl rfl
  · exact BindsTo.of_defaults rfl (hs _ _ (KX 28 _ rfl)) rfl rfl rfl
  · exact BindsTo.of_defaults rfl (hs _ _ (KX 28 _ rfl)) rfl rfl rfl
  · simp only [List.length_cons, List.length_nil] at h1 h2; exfalso; omega
theorem l2_at_apply_threshold {w : World} {h : Heap} (KX : (Mine.hd.heap_39 w.params).In h) : FnAt h 42 l2_apply_threshold := by
  refine ⟨⟨_, _, KX 42 _ rfl, rfl, rfl, rfl, rfl, rfl, rfl, ⟨41, _, _, _, rfl, KX 41 _ rfl, rfl, rfl⟩, rfl, rfl, fun vs s hs h1 h2 => ?_⟩⟩
  have h1 : 2 ≤ vs.length + 0 := h1
  have h2 : vs.length ≤ 2 := h2
  rcases vs with _ | ⟨a0, _ | ⟨a1, _ | ⟨a2, r⟩⟩⟩
  · simp only [List.length_cons, List.length_nil] at h1 h2; exfalso; omega
  · simp only [List.length_cons, List.length_nil] at h1 h2; exfalso; omega
  · exact BindsTo.of_eq rfl
  · simp only [List.length_cons, List.length_nil] at h1 h2; exfalso; omega
theorem l2_at_largest_remainder {w : World} {h : Heap} (KX : (Mine.hd.heap_39 w.params).In h) : FnAt h 48 l2_largest_remainder := by
  refine ⟨⟨_, _, KX 48 _ rfl, rfl, rfl, rfl, rfl, rfl, rfl, ⟨47, _, _, _, rfl, KX 47 _ rfl, rfl, rfl⟩, rfl, rfl, fun vs s hs h1 h2 => ?_⟩⟩
  have h1 : 3 ≤ vs.length + 1 := h1
  have h2 : vs.length ≤ 3 := h2
  rcases vs with _ | ⟨a0, _ | ⟨a1, _ | ⟨a2, _ | ⟨a3, r⟩⟩⟩⟩
  · simp only [List.length_cons, List.length_nil] at h1 h2; exfalso; omega
  · simp only [List.length_cons, List.length_nil] at h1 h2; exfalso; omega
  · exact BindsTo.of_defaults rfl (hs _ _ (KX 43 _ rfl)) rfl rfl rfl
  · exact BindsTo.of_defaults rfl (hs _ _ (KX 43 _ rfl)) rfl rfl rfl
  · simp only [List.length_cons, List.length_nil] at h1 h2; exfalso; omega
theorem l2_at_divisor {w : World} {h : Heap} (KX : (Mine.hd.heap_39 w.params).In h) : FnAt h 54 l2_divisor := by
  refine ⟨⟨_, _, KX 54 _ rfl, rfl, rfl, rfl, rfl, rfl, rfl, ⟨53, _, _, _, rfl, KX 53 _ rfl, rfl, rfl⟩, rfl, rfl, fun vs s hs h1 h2 => ?_⟩⟩
  have h1 : 4 ≤ vs.length + 1 := h1
  have h2 : vs.length ≤ 4 := h2
  rcases vs with _ | ⟨a0, _ | ⟨a1, _ | ⟨a2, _ | ⟨a3, _ | ⟨a4, r⟩⟩⟩⟩⟩
  · simp only [List.length_cons, List.length_nil] at h1 h2; exfalso; omega
  · simp only [List.length_cons, List.length_nil] at h1 h2; exfalso; omega
  · simp only [List.length_cons, List.length_nil] at h1 h2; exfalso; omega
  · exact BindsTo.of_defaults rfl (hs _ _ (KX 49 _ rfl)) rfl rfl rfl
  · exact BindsTo.of_defaults rfl (hs _ _ (KX 49 _ rfl)) rfl rfl rfl
  · simp only [List.length_cons, List.length_nil] at h1 h2; exfalso; omega
theorem l2_at_divzero_fewerseatsthanparties {w : World} {h : Heap} (KX : (Mine.hd.heap_39 w.params).In h) : FnAt h 61 l2_divzero_fewerseatsthanparties := by
  refine ⟨⟨_, _, KX 61 _ rfl, rfl, rfl, rfl, rfl, rfl, rfl, ⟨60, _, _, _, rfl, KX 60 _ rfl, rfl, rfl⟩, rfl, rfl, fun vs s hs h1 h2 => ?_⟩⟩
  have h1 : 3 ≤ vs.length + 0 := h1
  have h2 : vs.length ≤ 3 := h2
  rcases vs with _ | ⟨a0, _ | ⟨a1, _ | ⟨a2, _ | ⟨a3, r⟩⟩⟩⟩
  · simp only [List.length_cons, List.length_nil] at h1 h2; exfalso; omega
  · simp only [List.length_cons, List.length_nil] at h1 h2; exfalso; omega
  · simp only [List.length_cons, List.length_nil] at h1 h2; exfalso; omega
  · exact BindsTo.of_eq rfl
  · simp only [List.length_cons, List.length_nil] at h1 h2; exfalso; omega
theorem l2_at_quota {w : World} {h : Heap} (KX : (Mine.hd.heap_39 w.params).In h) : FnAt h 67 l2_quota := by
  refine ⟨⟨_, _, KX 67 _ rfl, rfl, rfl, rfl, rfl, rfl, rfl, ⟨66, _, _, _, rfl, KX 66 _ rfl, rfl, rfl⟩, rfl, rfl, fun vs s hs h1 h2 => ?_⟩⟩
  have h1 : 3 ≤ vs.length + 1 := h1
  have h2 : vs.length ≤ 3 := h2
  rcases vs with _ | ⟨a0, _ | ⟨a1, _ | ⟨a2, _ | ⟨a3, r⟩⟩⟩⟩
  · simp only [List.length_cons, List.length_nil] at h1 h2; exfalso; omega
  · simp only [List.length_cons, List.length_nil] at h1 h2; exfalso; omega
  · exact BindsTo.of_defaults rfl (hs _ _ (KX 62 _ rfl)) rfl rfl rfl
  · exact BindsTo.of_defaults rfl (hs _ _ (KX 62 _ rfl)) rfl rfl rfl
  · simp only [List.length_cons, List.length_nil] at h1 h2; exfalso; omega
theorem l2_at_law_seats {w : World} {h : Heap} (KX : (Mine.hd.heap_39 w.params).In h) : FnAt h 72 l2_law_seats := by
  refine ⟨⟨_, _, KX 72 _ rfl, rfl, rfl, rfl, rfl, rfl, rfl, ⟨71, _, _, _, rfl, KX 71 _ rfl, rfl, rfl⟩, rfl, rfl, fun vs s hs h1 h2 => ?_⟩⟩
  have h1 : 4 ≤ vs.length + 0 := h1
  have h2 : vs.length ≤ 4 := h2
  rcases vs with _ | ⟨a0, _ | ⟨a1, _ | ⟨a2, _ | ⟨a3, _ | ⟨a4, r⟩⟩⟩⟩⟩
  · simp only [List.length_cons, List.length_nil] at h1 h2; exfalso; omega
  · simp only [List.length_cons, List.length_nil] at h1 h2; exfalso; omega
  · simp only [List.length_cons, List.length_nil] at h1 h2; exfalso; omega
  · simp only [List.length_cons, List.length_nil] at h1 h2; exfalso; omega
  · exact BindsTo.of_eq rfl
  · simp only [List.length_cons, List.length_nil] at h1 h2; exfalso; omega
theorem l2_at_law_changes {w : World} {h : Heap} (KX : (Mine.hd.heap_39 w.params).In h) : FnAt h 77 l2_law_changes := by
  refine ⟨⟨_, _, KX 77 _ rfl, rfl, rfl, rfl, rfl, rfl, rfl, ⟨76, _, _, _, rfl, KX 76 _ rfl, rfl, rfl⟩, rfl, rfl, fun vs s hs h1 h2 => ?_⟩⟩
  have h1 : 3 ≤ vs.length + 0 := h1
  have h2 : vs.length ≤ 3 := h2
  rcases vs with _ | ⟨a0, _ | ⟨a1, _ | ⟨a2, _ | ⟨a3, r⟩⟩⟩⟩
  · simp only [List.length_cons, List.length_nil] at h1 h2; exfalso; omega
  · simp only [List.length_cons, List.length_nil] at h1 h2; exfalso; omega
  · simp only [List.length_cons, List.length_nil] at h1 h2; exfalso; omega
  · exact BindsTo.of_eq rfl
  · simp only [List.length_cons, List.length_nil] at h1 h2; exfalso; omega
theorem l2_at_law {w : World} {h : Heap} (KX : (Mine.hd.heap_39 w.params).In h) : FnAt h 82 l2_law := by
  refine ⟨⟨_, _, KX 82 _ rfl, rfl, rfl, rfl, rfl, rfl, rfl, ⟨81, _, _, _, rfl, KX 81 _ rfl, rfl, rfl⟩, rfl, rfl, fun vs s hs h1 h2 => ?_⟩⟩
  have h1 : 1 ≤ vs.length + 0 := h1
  have h2 : vs.length ≤ 1 := h2
  rcases vs with _ | ⟨a0, _ | ⟨a1, r⟩⟩
  · simp only [List.length_cons, List.length_nil] at h1 h2; exfalso; omega
  · exact BindsTo.of_eq rfl
  · simp only [List.length_cons, List.length_nil] at h1 h2; exfalso; omega
theorem FnAt.like {base : Heap} {a : Addr} {fd fd' : FnD} (x : FnAt base a fd) (e1 : fd'.stmts = fd.stmts) (e2 : fd'.sc = fd.sc) (e3 : fd'.np = fd.np) (e4 : fd'.dfl = fd.dfl) (e5 : fd'.tab.take fd'.np = fd.tab.take fd.np) : FnAt base a fd' := by
  obtain ⟨o, FD, h1, h2, h3, h4, h5, h6, h7, h8, h9, h10, h11⟩ := x.at_
  refine ⟨o, FD, h1, h2, by rw [e1]; exact h3, by rw [e2]; exact h4, h5, h6, h7, h8, h9, h10, fun vs s hs g1 g2 => ?_⟩
  have : fd'.fullV vs = fd.fullV vs := by unfold FnD.fullV; rw [e3, e4]
  rw [this, e5]
  rw [e3, e4] at g1
  rw [e3] at g2
  exact h11 vs s hs g1 g2
end Mine
end

section
open PySem PySem.W PyProof.Rows
set_option maxRecDepth 100000
namespace Mine

/-! ## P1. Evaluating terms: no program, no heap -/
def DI (l : List Int) : D := .list (l.map .int)

section
variable {own : Nat → Bool} {F : Fn} {mu : Nat → Bool} {σ σ' : Sg} {s : TS} {l : SL} {e : T} {d : D}

theorem evSL_nxt (h : evS own F mu s σ = some (.nxt σ')) : evSL own F mu (.cons s l) σ = evSL own F mu l σ' := by simp [evSL, h]
theorem evSL_ret (h : evS own F mu s σ = some (.ret d)) : evSL own F mu (.cons s l) σ = some (.ret d) := by simp [evSL, h]
theorem e_asg {i : Nat} (h : ev own F false e σ = some d) (ho : own i = false) : evS own F mu (.asg (.v i) e) σ = some (.nxt (upd σ i d)) := by simp [evS, h, bindP, ho]
theorem e_own1 {i : Nat} {ds : List D} (h : ev own F false e σ = some (.list ds)) (ho : own i = true) (hm : mu i = true) (hf : e.fresh = true) : evS own F mu (.own1 i e) σ = some (.nxt (upd σ i (.list ds))) := by simp [evS, h, ho, hm, hf, listD]
theorem e_setI {x : Nat} {i : T} {ds : List D} {k : Int} (ho : own x = true) (hm : mu x = true) (he : ev own F false e σ = some d) (hx : σ x = some (.list ds)) (hi : ev own F false i σ = some (.int k)) (h0 : 0 ≤ k) (h1 : k.toNat < ds.length) :
    evS own F mu (.setI x i e) σ = some (.nxt (upd σ x (.list (ds.set k.toNat d)))) := by
  have hp : placeN ds.length k = some k.toNat := by unfold placeN; rw [if_pos ⟨h0, h1⟩]
  simp [evS, ho, hm, he, hx, hi, listD, intD, hp]
theorem e_augI {x : Nat} {i : T} {ds : List D} {k y b : Int} (ho : own x = true) (hm : mu x = true) (hx : σ x = some (.list ds)) (hi : ev own F false i σ = some (.int k)) (h0 : 0 ≤ k) (h1 : k.toNat < ds.length) (hy : ds[k.toNat]? = some (.int y)) (he : ev own F false e σ = some (.int b)) :
    evS own F mu (.augI x i e) σ = some (.nxt (upd σ x (.list (ds.set k.toNat (.int (y + b)))))) := by
  have hp : placeN ds.length k = some k.toNat := by unfold placeN; rw [if_pos ⟨h0, h1⟩]
  unfold evS
  simp [ho, hm, hx, hi, listD, intD, hp, hy, he]
theorem e_ite_t {c : T} {a b : SL} (h : ev own F false c σ = some (.bool true)) : evS own F mu (.ite c a b) σ = evSL own F mu a σ := by simp [evS, h, boolD]
theorem e_ite_f {c : T} {a b : SL} (h : ev own F false c σ = some (.bool false)) : evS own F mu (.ite c a b) σ = evSL own F mu b σ := by simp [evS, h, boolD]
theorem e_ret (h : ev own F false e σ = some d) : evS own F mu (.ret e) σ = some (.ret d) := by simp [evS, h]
theorem e_retO {x : Nat} {ds : List D} (ho : own x = true) (hx : σ x = some (.list ds)) : evS own F mu (.retO x) σ = some (.ret (.list ds)) := by simp [evS, ho, hx, listD]

/-! terms -/
theorem t_v {bw : Bool} {i : Nat} (h : σ i = some d) (ho : (own i && !bw) = false) : ev own F bw (.v i) σ = some d := by simp [ev, h, ho]
theorem upd_unb (i : Nat) (σ : Sg) (d : D) : upd (unb [i] σ) i d = upd σ i d := by
  funext j
  unfold upd unb
  split
  · rfl
  · rename_i h; simp [h]

theorem flatM_some {α : Type} {f : α → Option (List D)} {g : α → List D} : ∀ {l : List α}, (∀ d ∈ l, f d = some (g d)) → flatM f l = some (l.map g).flatten
  | [], _ => rfl
  | x :: r, h => by
    rw [flatM, h x List.mem_cons_self, flatM_some (g := g) fun d m => h d (List.mem_cons_of_mem _ m)]
    simp

theorem t_comp {bw : Bool} {i : Nat} {sr : Sr} {c : TL} {ds : List D} {f : D → D} {p : D → Bool} (ho : own i = false) (hs : evSr own F sr σ = some ds) (hc : ∀ d ∈ ds, evC own F c (upd σ i d) = some (p d))
    (he : ∀ d ∈ ds, p d = true → ev own F false e (upd σ i d) = some (f d)) (hl : ds.length ≤ LB) : ev own F bw (.comp e (.cons (.v i) sr c .nil)) σ = some (.list ((ds.filter p).map f)) := by
  have hfl : flatM (fun d => (bindP own (.v i) d (unb (Pat.vars (.v i) ++ GL.vars .nil) σ)).bind fun σ' => (evC own F c σ').bind fun b => if b then evG own F (fun σ => ev own F false e σ) .nil σ' else some []) ds
      = some ((ds.filter p).map f) := by
    have : (ds.filter p).map f = (ds.map fun d => if p d then [f d] else []).flatten := by
      clear hs hc he hl
      induction ds with
      | nil => rfl
      | cons x r ih =>
        rw [List.filter_cons]
        cases q : p x <;> simp [q, ih]
    rw [this]
    refine flatM_some fun d m => ?_
    have hv : (Pat.vars (.v i) ++ GL.vars .nil) = [i] := rfl
    simp only [bindP, ho, Bool.false_eq_true, if_false, Option.bind_some, hv, upd_unb, hc d m]
    cases q : p d with
    | false => simp
    | true => simp [evG, he d m q]
  unfold ev
  have hown : ((Pat.vars (.v i) ++ GL.vars .nil).any own) = false := by simp [Pat.vars, GL.vars, ho]
  simp only [hown, Bool.false_eq_true, if_false, hs, Option.bind_some, hfl]
  rw [if_pos (Nat.le_trans (by rw [List.length_map]; exact List.length_filter_le _ _) hl)]

/-- a comprehension without tests -/
theorem t_map {bw : Bool} {i : Nat} {sr : Sr} {ds : List D} {f : D → D} (ho : own i = false) (hs : evSr own F sr σ = some ds) (he : ∀ d ∈ ds, ev own F false e (upd σ i d) = some (f d)) (hl : ds.length ≤ LB) :
    ev own F bw (.comp e (.cons (.v i) sr .nil .nil)) σ = some (.list (ds.map f)) := by
  have := t_comp (bw := bw) (p := fun _ => true) (c := .nil) ho hs (fun d _ => rfl) (fun d m _ => he d m) hl
  rwa [List.filter_eq_self.mpr (fun _ _ => rfl)] at this

def rng (n : Nat) : List D := (List.range n).map fun (j : Nat) => D.int (j : Int)
theorem t_range {n : Nat} (h : ev own F false e σ = some (.int n)) (hn : n ≤ 1000) : evSr own F (.range1 e) σ = some (rng n) := by
  have h1 : tiny 0 = true := by decide
  have h2 : tiny (n : Int) = true := by simp [tiny]; omega
  have h3 : (n : Int) - 0 ≤ (LB : Int) := by simp [LB]; omega
  simp only [evSr, h, Option.bind_some, intD, rangeD, h1, h2, true_and]
  rw [if_pos h3]
  simp [rng]
theorem t_rangeMap {bw : Bool} {i n : Nat} {k : T} {f : Nat → D} (ho : own i = false) (h : ev own F false k σ = some (.int n)) (hn : n ≤ 1000) (he : ∀ j, j < n → ev own F false e (upd σ i (.int j)) = some (f j)) :
    ev own F bw (.comp e (.cons (.v i) (.range1 k) .nil .nil)) σ = some (.list ((List.range n).map f)) := by
  have hf : ∃ g : D → D, ∀ j : Nat, g (.int j) = f j := ⟨fun d => match d with | .int z => f z.toNat | d => d, fun j => by simp⟩
  obtain ⟨g, hg⟩ := hf
  have := t_map (bw := bw) (f := g) ho (t_range h hn) (fun d m => by
    simp only [rng, List.mem_map, List.mem_range] at m
    obtain ⟨j, hj, rfl⟩ := m
    rw [hg]; exact he j hj) (by simp [rng, LB]; omega)
  rw [this, rng, List.map_map]
  congr 2
  apply List.map_congr_left
  intro j _
  exact hg j
theorem t_rangeComp {bw : Bool} {i n : Nat} {k : T} {c : TL} {f : Nat → D} {p : Nat → Bool} (ho : own i = false) (h : ev own F false k σ = some (.int n)) (hn : n ≤ 1000) (hc : ∀ j, j < n → evC own F c (upd σ i (.int j)) = some (p j)) (he : ∀ j, j < n → p j = true → ev own F false e (upd σ i (.int j)) = some (f j)) :
    ev own F bw (.comp e (.cons (.v i) (.range1 k) c .nil)) σ = some (.list (((List.range n).filter p).map f)) := by
  obtain ⟨g, hg⟩ : ∃ g : D → D, ∀ j : Nat, g (.int j) = f j := ⟨fun d => match d with | .int z => f z.toNat | d => d, fun j => by simp⟩
  obtain ⟨q, hq⟩ : ∃ q : D → Bool, ∀ j : Nat, q (.int j) = p j := ⟨fun d => match d with | .int z => p z.toNat | _ => true, fun j => by simp⟩
  have := t_comp (bw := bw) (f := g) (p := q) ho (t_range h hn) (fun d m => by
    simp only [rng, List.mem_map, List.mem_range] at m
    obtain ⟨j, hj, rfl⟩ := m
    rw [hq]; exact hc j hj) (fun d m hp => by
    simp only [rng, List.mem_map, List.mem_range] at m
    obtain ⟨j, hj, rfl⟩ := m
    rw [hq] at hp
    rw [hg]; exact he j hj hp) (by simp [rng, LB]; omega)
  rw [this, rng, List.filter_map, List.map_map]
  congr 2
  have e1 : (q ∘ fun (j : Nat) => D.int (j : Int)) = p := by funext j; exact hq j
  rw [e1]
  apply List.map_congr_left
  intro j _
  exact hg j

theorem idx_DI {l : List Int} {j : Nat} (h : j < l.length) : idxD (DI l) (.int j) = some (.int (l.getD j 0)) := by
  have h0 : (0 : Int) ≤ (j : Int) := by omega
  have e : l[j]? = some (l.getD j 0) := by rw [List.getD_eq_getElem?_getD, List.getElem?_eq_getElem h]; rfl
  simp [idxD, DI, seqD, intD, place, h0, h, e]
theorem bi_sum (l : List Int) : biD .sum [DI l] = some (.int l.sum) := by simp [biD, DI, listD, intsOf_map]
theorem bi_len (l : List Int) : biD .len [DI l] = some (.int l.length) := by simp [biD, DI, seqD]
theorem bi_lenL (l : List D) : biD .len [.list l] = some (.int l.length) := by simp [biD, seqD]
theorem eq_DI (a b : List Int) : eqD (DI a) (DI b) = some (a == b) := by simp [eqD, DI, intsOf_map]
theorem op_mul {a b : Int} (h : small a = true ∨ small b = true) : op2D .mul (.int a) (.int b) = some (.int (a * b)) := by
  simp only [op2D]
  rw [if_pos (by simpa using h)]
theorem op_fdiv {a b : Int} (h : 0 < b) (hs : small b = true) : op2D .fdiv (.int a) (.int b) = some (.int (a / b)) := by
  simp only [op2D]
  rw [if_pos ⟨h, hs⟩]
theorem op_mod {a b : Int} (h : 0 < b) : op2D .mod (.int a) (.int b) = some (.int (a % b)) := by
  simp only [op2D]
  rw [if_pos h]
theorem op_add {a b : Int} : op2D .add (.int a) (.int b) = some (.int (a + b)) := rfl
theorem op_sub {a b : Int} : op2D .sub (.int a) (.int b) = some (.int (a - b)) := rfl
theorem small_of {a : Int} (h : -(2 ^ 63) < a) (h' : a < 2 ^ 63) : small a = true := by simp [small]; omega

/-- a loop that goes to its end, by an invariant -/
theorem loopF_inv {f : D → Sg → Option R} (I : Nat → Sg → Prop) : ∀ (ds : List D) (k : Nat) (σ : Sg), I k σ → (∀ i σ, (h : i < ds.length) → I (k + i) σ → ∃ σ', (f ds[i] σ = some (.nxt σ') ∨ f ds[i] σ = some (.cnt σ')) ∧ I (k + i + 1) σ') →
    ∃ σ', loopF f ds σ = some (.nxt σ') ∧ I (k + ds.length) σ'
  | [], k, σ, h, _ => ⟨σ, rfl, h⟩
  | d :: r, k, σ, h, step => by
    obtain ⟨σ1, h1, h2⟩ := step 0 σ (by simp) h
    simp only [List.getElem_cons_zero] at h1
    obtain ⟨σ2, h3, h4⟩ := loopF_inv I r (k + 1) σ1 h2 fun i σ hi hI => by
      have := step (i + 1) σ (by simpa using hi) (by rw [show k + (i + 1) = k + 1 + i from by omega]; exact hI)
      obtain ⟨σ', a, b⟩ := this
      refine ⟨σ', by simpa using a, ?_⟩
      rw [show k + 1 + i + 1 = k + (i + 1) + 1 from by omega]; exact b
    refine ⟨σ2, ?_, by rw [List.length_cons, show k + (r.length + 1) = k + 1 + r.length from by omega]; exact h4⟩
    rcases h1 with h1 | h1 <;> simp [loopF, h1, h3]
end
end Mine
end

section
open PySem PySem.W PyProof.Rows
set_option maxRecDepth 100000
namespace Mine

/-! ## P2. The quota method: what its terms mean -/
def q_body : SL :=
  (.cons (.asg (.v 4) (.k (.int 1))) (.cons (.loopB (.v 5) 3 (.cons (.asg (.v 4) (.op .mul (.v 4) (.op .add (.v 5) (.k (.int 1))))) .nil)) (.cons (.asg (.v 6) (.comp (.op .fdiv (.op .mul (.bi .int (.cons (.idx (.v 0) (.v 11)) .nil)) (.v 4)) (.op .add (.bi .int (.cons (.idx (.v 3) (.v 11)) .nil)) (.k (.int 1)))) (.cons (.v 11) (.range1 (.bi .len (.cons (.v 0) .nil))) .nil .nil))) (.cons (.ite (.cmp .ne (.bi .sum (.cons (.v 0) .nil)) (.k (.int 0))) (.cons (.asg (.v 10) (.comp (.neg (.op .fdiv (.op .mul (.neg (.v 12)) (.op .add (.bi .sum (.cons (.v 3) .nil)) (.k (.int 1)))) (.bi .sum (.cons (.v 0) .nil)))) (.cons (.v 12) (.t (.v 0)) .nil .nil))) (.cons (.asg (.v 6) (.comp (.ite (.cmp .ge (.idx (.v 3) (.v 11)) (.idx (.v 10) (.v 11))) (.k (.int 0)) (.idx (.v 6) (.v 11))) (.cons (.v 11) (.range1 (.bi .len (.cons (.v 0) .nil))) .nil .nil))) .nil)) .nil) (.cons (.asg (.v 7) (.bi .maxL (.cons (.v 6) .nil))) (.cons (.asg (.v 8) (.comp (.v 11) (.cons (.v 11) (.range1 (.bi .len (.cons (.v 0) .nil))) (.cons (.cmp .eq (.idx (.v 6) (.v 11)) (.v 7)) .nil) .nil))) (.cons (.asg (.v 9) (.idx (.v 8) (.k (.int 0)))) (.cons (.augI 3 (.v 9) (.k (.int 1))) .nil))))))))
def q_cond : T := .cmp .lt (.bi .sum (.cons (.v 3) .nil)) (.v 1)
def q_own : Nat → Bool := fun i => i == 3

def qcommon (r : List Int) : Int := r.foldl (fun c x => c * (x + 1)) 1
def qq (V r : List Int) : List Int := (List.range V.length).map fun i => V.getD i 0 * qcommon r / (r.getD i 0 + 1)
def qup (V r : List Int) : List Int := V.map fun p => -(-p * (r.sum + 1) / V.sum)
def qc (V r : List Int) : List Int := (List.range V.length).map fun i => if (qup V r).getD i 0 ≤ r.getD i 0 then 0 else (qq V r).getD i 0
def lmax : List Int → Int
  | [] => 0
  | i :: r => maxI i r
def qwho (V r : List Int) : List Nat := (List.range V.length).filter fun i => (qc V r).getD i 0 == lmax (qc V r)
def qnext (V r : List Int) : Nat := (qwho V r).headD 0
def qstep (V r : List Int) : List Int := r.set (qnext V r) (r.getD (qnext V r) 0 + 1)

theorem getD_map_range {n i : Nat} {f : Nat → Int} (h : i < n) : ((List.range n).map f).getD i 0 = f i := by
  rw [List.getD_eq_getElem?_getD, List.getElem?_map, List.getElem?_range h]; rfl
theorem getD_map {l : List Int} {i : Nat} {f : Int → Int} (h : i < l.length) : (l.map f).getD i 0 = f (l.getD i 0) := by
  rw [List.getD_eq_getElem?_getD, List.getD_eq_getElem?_getD, List.getElem?_map, List.getElem?_eq_getElem h]; rfl
theorem getD_mem {l : List Int} {i : Nat} (h : i < l.length) : l.getD i 0 ∈ l := by
  rw [List.getD_eq_getElem?_getD, List.getElem?_eq_getElem h]; exact List.getElem_mem h

theorem lmax_spec : ∀ {l : List Int}, l ≠ [] → lmax l ∈ l ∧ ∀ a ∈ l, a ≤ lmax l
  | [], h => absurd rfl h
  | i :: r, _ => maxI_spec r i

theorem sum_pos {l : List Int} (h : ∀ v ∈ l, 1 ≤ v) : (l.length : Int) ≤ l.sum := by
  induction l with
  | nil => simp
  | cons x r ih =>
    have h1 := h x List.mem_cons_self
    have h2 := ih fun v m => h v (List.mem_cons_of_mem _ m)
    simp only [List.length_cons, List.sum_cons]; omega
theorem sum_le {l : List Int} {b : Int} (h : ∀ v ∈ l, v ≤ b) : l.sum ≤ l.length * b := by
  induction l with
  | nil => simp
  | cons x r ih =>
    have h1 := h x List.mem_cons_self
    have h2 := ih fun v m => h v (List.mem_cons_of_mem _ m)
    simp only [List.length_cons, List.sum_cons]
    have : ((r.length + 1 : Nat) : Int) * b = r.length * b + b := by rw [Int.natCast_add, Int.add_mul]; simp
    omega
theorem sum_nonneg {l : List Int} (h : ∀ v ∈ l, 0 ≤ v) : 0 ≤ l.sum := by
  induction l with
  | nil => simp
  | cons x r ih =>
    have h1 := h x List.mem_cons_self
    have h2 := ih fun v m => h v (List.mem_cons_of_mem _ m)
    simp only [List.sum_cons]; omega
theorem le_sum {l : List Int} (h : ∀ v ∈ l, 0 ≤ v) : ∀ v ∈ l, v ≤ l.sum := by
  induction l with
  | nil => intro v m; cases m
  | cons x r ih =>
    intro v m
    have h1 := h x List.mem_cons_self
    have h2 := sum_nonneg fun v m => h v (List.mem_cons_of_mem _ m)
    have h3 := ih (fun v m => h v (List.mem_cons_of_mem _ m))
    simp only [List.sum_cons]
    rcases List.mem_cons.mp m with rfl | m
    · omega
    · have := h3 v m; omega

/-- votes as the laws build them -/
structure VOk (V : List Int) : Prop where
  n1 : 1 ≤ V.length
  n5 : V.length ≤ 5
  lo : ∀ v ∈ V, 1 ≤ v
  hi : ∀ v ∈ V, v ≤ 2 ^ 40
structure ROk (n : Nat) (b : Int) (r : List Int) : Prop where
  len : r.length = n
  lo : ∀ x ∈ r, 0 ≤ x
  hi : r.sum ≤ b

theorem VOk.sum {V : List Int} (h : VOk V) : 1 ≤ V.sum ∧ V.sum ≤ 5 * 2 ^ 40 := by
  have a := sum_pos h.lo
  have b := sum_le h.hi
  have c := h.n1
  have d := h.n5
  refine ⟨by omega, ?_⟩
  have : (V.length : Int) * 2 ^ 40 ≤ 5 * 2 ^ 40 := Int.mul_le_mul_of_nonneg_right (by omega) (by decide)
  omega

section
variable {F : Fn} {mu : Nat → Bool}

theorem q_turn (hm : ∀ i, mu i = true) {V r : List Int} {h : Int} (hV : VOk V) (hr : ROk V.length 1000 r) {σ : Sg} (h0 : σ 0 = some (DI V)) (h1 : σ 1 = some (.int h)) (h3 : σ 3 = some (DI r)) :
    ∃ σ', evSL q_own F mu q_body σ = some (.nxt σ') ∧ σ' 0 = some (DI V) ∧ σ' 1 = some (.int h) ∧ σ' 3 = some (DI (qstep V r)) := by
  have hs := hV.sum
  have hrs := sum_nonneg hr.lo
  have hrb : ∀ i, i < V.length → 0 ≤ r.getD i 0 ∧ r.getD i 0 ≤ 1000 := fun i hi => by
    have := getD_mem (l := r) (i := i) (by rw [hr.len]; exact hi)
    exact ⟨hr.lo _ this, Int.le_trans (le_sum hr.lo _ this) hr.hi⟩
  unfold q_body
  rw [evSL_nxt (σ' := upd σ 4 (.int 1)) (e_asg rfl rfl)]
  -- the product
  have hloop : ∃ σ2, evS q_own F mu (.loopB (.v 5) 3 (.cons (.asg (.v 4) (.op .mul (.v 4) (.op .add (.v 5) (.k (.int 1))))) .nil)) (upd σ 4 (.int 1)) = some (.nxt σ2) ∧ σ2 4 = some (.int (qcommon r)) ∧ ∀ j, j ≠ 4 → j ≠ 5 → σ2 j = σ j := by
    have inv := loopF_inv (f := fun d σ => (bindP q_own (.v 5) d σ).bind fun σ' => evSL q_own F (fun _ => false) (.cons (.asg (.v 4) (.op .mul (.v 4) (.op .add (.v 5) (.k (.int 1))))) .nil) σ')
      (fun k σ' => σ' 4 = some (.int ((r.take k).foldl (fun c x => c * (x + 1)) 1)) ∧ ∀ j, j ≠ 4 → j ≠ 5 → σ' j = σ j) (r.map .int) 0 (upd σ 4 (.int 1)) ⟨by simp [upd], fun j a b => by simp [upd, a]⟩ fun i σ' hi hI => by
        have hi' : i < r.length := by simpa using hi
        obtain ⟨e4, ej⟩ := hI
        simp only [Nat.zero_add] at e4 ⊢
        have hx : r[i] ∈ r := List.getElem_mem hi'
        have b1 := hr.lo _ hx
        have b2 := Int.le_trans (le_sum hr.lo _ hx) hr.hi
        refine ⟨upd (upd σ' 5 (.int r[i])) 4 (.int ((r.take i).foldl (fun c x => c * (x + 1)) 1 * (r[i] + 1))), .inl ?_, ?_, fun j a b => by simp [upd, a, b, ej j a b]⟩
        · simp only [bindP, List.getElem_map]
          rw [if_neg (by decide), Option.bind_some, evSL_nxt (e_asg ?_ rfl)]
          · rfl
          · simp only [ev]
            rw [if_neg (by decide), if_neg (by decide)]
            simp only [upd, K.d, e4]
            simp only [show (4 : Nat) ≠ 5 from by decide, if_false, if_true, Option.bind_some, op_add, e4]
            rw [op_mul (.inr (small_of (by omega) (by omega)))]
        · rw [List.take_succ_eq_append_getElem hi', List.foldl_append]
          simp [upd]
    obtain ⟨σ2, e, i1, i2⟩ := inv
    refine ⟨σ2, ?_, ?_, i2⟩
    · simp only [evS]
      rw [if_pos (by decide)]
      have : (upd σ 4 (.int 1)) 3 = some (DI r) := by simp [upd, h3]
      rw [this]
      simp only [Option.bind_some, DI, listD]
      exact e
    · rw [i1]; simp [qcommon]
  obtain ⟨σ2, e2, c4, cj⟩ := hloop
  rw [evSL_nxt e2]
  have g0 : σ2 0 = some (DI V) := by rw [cj 0 (by decide) (by decide), h0]
  have g1 : σ2 1 = some (.int h) := by rw [cj 1 (by decide) (by decide), h1]
  have g3 : σ2 3 = some (DI r) := by rw [cj 3 (by decide) (by decide), h3]
  have lenV : ∀ (σ : Sg), σ 0 = some (DI V) → ev q_own F false (.bi .len (.cons (.v 0) .nil)) σ = some (.int V.length) := fun σ e => by
    simp only [ev, evL]
    rw [if_neg (by decide), e]
    exact bi_len V
  have sumV : ∀ (σ : Sg), σ 0 = some (DI V) → ev q_own F false (.bi .sum (.cons (.v 0) .nil)) σ = some (.int V.sum) := fun σ e => by
    simp only [ev, evL]
    rw [if_neg (by decide), e]
    exact bi_sum V
  have sumR : ∀ (σ : Sg), σ 3 = some (DI r) → ev q_own F false (.bi .sum (.cons (.v 3) .nil)) σ = some (.int r.sum) := fun σ e => by
    simp only [ev, evL]
    rw [if_neg (by decide), e]
    exact bi_sum r
  -- quotas
  have q6 : ev q_own F false (.comp (.op .fdiv (.op .mul (.bi .int (.cons (.idx (.v 0) (.v 11)) .nil)) (.v 4)) (.op .add (.bi .int (.cons (.idx (.v 3) (.v 11)) .nil)) (.k (.int 1)))) (.cons (.v 11) (.range1 (.bi .len (.cons (.v 0) .nil))) .nil .nil)) σ2 = some (DI (qq V r)) := by
    rw [t_rangeMap (f := fun i => D.int (V.getD i 0 * qcommon r / (r.getD i 0 + 1))) rfl (lenV σ2 g0) (by have := hV.n5; omega) fun i hi => ?_]
    · simp [qq, DI]
    · have hvm := getD_mem hi
      have v1 := hV.lo _ hvm
      have v2 := hV.hi _ hvm
      obtain ⟨r1, r2⟩ := hrb i hi
      simp only [ev, evL]
      simp only [show q_own 0 = false from rfl, show q_own 11 = false from rfl, show q_own 4 = false from rfl, Bool.false_and, Bool.and_true, Bool.not_true, Bool.and_false, Bool.false_eq_true, if_false]
      simp only [upd, show (0 : Nat) ≠ 11 from by decide, show (4 : Nat) ≠ 11 from by decide, show (3 : Nat) ≠ 11 from by decide, if_false, if_true, g0, g3, c4, Option.bind_some, K.d]
      rw [idx_DI hi, idx_DI (by rw [hr.len]; exact hi)]
      simp only [Option.bind_some, biD, op_add]
      rw [op_mul (.inl (small_of (by omega) (by omega))), Option.bind_some, op_fdiv (by omega) (small_of (by omega) (by omega))]
  rw [evSL_nxt (e_asg q6 rfl)]
  generalize hσ3 : upd σ2 6 (DI (qq V r)) = σ3
  have k0 : σ3 0 = some (DI V) := by rw [← hσ3]; simp [upd, g0]
  have k1 : σ3 1 = some (.int h) := by rw [← hσ3]; simp [upd, g1]
  have k3 : σ3 3 = some (DI r) := by rw [← hσ3]; simp [upd, g3]
  have k6 : σ3 6 = some (DI (qq V r)) := by rw [← hσ3]; simp [upd]
  have c1 : ev q_own F false (.cmp .ne (.bi .sum (.cons (.v 0) .nil)) (.k (.int 0))) σ3 = some (.bool true) := by
    have := sumV σ3 k0
    simp only [ev, evL] at this ⊢
    rw [this]
    have hne : (V.sum == 0) = false := by simp; omega
    simp [K.d, cmD, hne]
  have hite : ∃ σ4, evS q_own F mu (.ite (.cmp .ne (.bi .sum (.cons (.v 0) .nil)) (.k (.int 0))) (.cons (.asg (.v 10) (.comp (.neg (.op .fdiv (.op .mul (.neg (.v 12)) (.op .add (.bi .sum (.cons (.v 3) .nil)) (.k (.int 1)))) (.bi .sum (.cons (.v 0) .nil)))) (.cons (.v 12) (.t (.v 0)) .nil .nil))) (.cons (.asg (.v 6) (.comp (.ite (.cmp .ge (.idx (.v 3) (.v 11)) (.idx (.v 10) (.v 11))) (.k (.int 0)) (.idx (.v 6) (.v 11))) (.cons (.v 11) (.range1 (.bi .len (.cons (.v 0) .nil))) .nil .nil))) .nil)) .nil) σ3 = some (.nxt σ4) ∧ σ4 0 = some (DI V) ∧ σ4 1 = some (.int h) ∧ σ4 3 = some (DI r) ∧ σ4 6 = some (DI (qc V r)) := by
    rw [e_ite_t c1]
    have q10 : ev q_own F false (.comp (.neg (.op .fdiv (.op .mul (.neg (.v 12)) (.op .add (.bi .sum (.cons (.v 3) .nil)) (.k (.int 1)))) (.bi .sum (.cons (.v 0) .nil)))) (.cons (.v 12) (.t (.v 0)) .nil .nil)) σ3 = some (DI (qup V r)) := by
      rw [t_map (ds := V.map .int) (f := fun d => match d with | .int p => .int (-(-p * (r.sum + 1) / V.sum)) | d => d) rfl ?_ (fun d hd => ?_) (by simp [LB]; have := hV.n5; omega)]
      · simp [qup, DI]
      · simp only [evSr, ev]
        rw [if_neg (by decide), k0]
        rfl
      · obtain ⟨p, hp, rfl⟩ := List.mem_map.mp hd
        have v1 := hV.lo _ hp
        have v2 := hV.hi _ hp
        have e1 := sumR (upd σ3 12 (.int p)) (by simp [upd, k3])
        have e2 := sumV (upd σ3 12 (.int p)) (by simp [upd, k0])
        simp only [ev, evL] at e1 e2 ⊢
        rw [e1, e2, if_neg (by decide)]
        simp only [upd, if_true, Option.bind_some, negD, K.d, op_add]
        rw [op_mul (.inl (small_of (by omega) (by omega))), Option.bind_some, op_fdiv (by omega) (small_of (by omega) (by omega))]
        rfl
    rw [evSL_nxt (e_asg q10 rfl)]
    have q6' : ev q_own F false (.comp (.ite (.cmp .ge (.idx (.v 3) (.v 11)) (.idx (.v 10) (.v 11))) (.k (.int 0)) (.idx (.v 6) (.v 11))) (.cons (.v 11) (.range1 (.bi .len (.cons (.v 0) .nil))) .nil .nil)) (upd σ3 10 (DI (qup V r))) = some (DI (qc V r)) := by
      rw [t_rangeMap (f := fun i => D.int (if (qup V r).getD i 0 ≤ r.getD i 0 then 0 else (qq V r).getD i 0)) rfl (lenV _ (by simp [upd, k0])) (by have := hV.n5; omega) fun i hi => ?_]
      · simp [qc, DI]
      · simp only [ev, evL]
        simp only [show q_own 6 = false from rfl, show q_own 11 = false from rfl, show q_own 10 = false from rfl, Bool.false_and, Bool.and_true, Bool.not_true, Bool.and_false, Bool.false_eq_true, if_false]
        simp only [upd, show (3 : Nat) ≠ 11 from by decide, show (3 : Nat) ≠ 10 from by decide, show (10 : Nat) ≠ 11 from by decide, show (6 : Nat) ≠ 11 from by decide, show (6 : Nat) ≠ 10 from by decide, if_false, if_true, k3, k6, Option.bind_some, K.d]
        rw [idx_DI (by rw [hr.len]; exact hi), idx_DI (l := qup V r) (by simpa [qup] using hi), idx_DI (l := qq V r) (by simpa [qq] using hi)]
        simp only [Option.bind_some, cmD, Option.map_some, boolD]
        by_cases hc : (qup V r).getD i 0 ≤ r.getD i 0
        · simp only [hc, decide_true, if_true]
        · simp only [hc, decide_false, Bool.false_eq_true, if_false]
    rw [evSL_nxt (e_asg q6' rfl)]
    exact ⟨_, rfl, by simp [upd, k0], by simp [upd, k1], by simp [upd, k3], by simp [upd]⟩
  obtain ⟨σ4, e4, l0, l1, l3, l6⟩ := hite
  rw [evSL_nxt e4]
  have hne : qc V r ≠ [] := by
    have : (qc V r).length = V.length := by simp [qc]
    intro e; rw [e] at this; have := hV.n1; simp at *; omega
  have q7 : ev q_own F false (.bi .maxL (.cons (.v 6) .nil)) σ4 = some (.int (lmax (qc V r))) := by
    simp only [ev, evL]
    rw [if_neg (by decide), l6]
    simp only [Option.bind_some, biD, DI, listD, intsOf_map]
    cases q : qc V r with
    | nil => exact absurd q hne
    | cons i t => rfl
  rw [evSL_nxt (e_asg q7 rfl)]
  have q8 : ev q_own F false (.comp (.v 11) (.cons (.v 11) (.range1 (.bi .len (.cons (.v 0) .nil))) (.cons (.cmp .eq (.idx (.v 6) (.v 11)) (.v 7)) .nil) .nil)) (upd σ4 7 (.int (lmax (qc V r)))) = some (.list ((qwho V r).map fun (i : Nat) => D.int i)) := by
    rw [t_rangeComp (p := fun i => (qc V r).getD i 0 == lmax (qc V r)) (f := fun i => D.int i) rfl (lenV _ (by simp [upd, l0])) (by have := hV.n5; omega) (fun i hi => ?_) (fun i hi _ => ?_)]
    · rfl
    · simp only [evC, ev]
      simp only [show q_own 6 = false from rfl, show q_own 11 = false from rfl, show q_own 7 = false from rfl, Bool.false_and, Bool.and_true, Bool.not_true, Bool.and_false, Bool.false_eq_true, if_false]
      simp only [upd, show (6 : Nat) ≠ 11 from by decide, show (6 : Nat) ≠ 7 from by decide, show (7 : Nat) ≠ 11 from by decide, if_false, if_true, l6, Option.bind_some]
      rw [idx_DI (l := qc V r) (by simpa [qc] using hi)]
      simp only [Option.bind_some, cmD, eqD, Option.map_some, boolD]
      cases ((qc V r).getD i 0 == lmax (qc V r)) <;> rfl
    · simp only [ev]
      rw [if_neg (by decide)]
      simp [upd]
  rw [evSL_nxt (e_asg q8 rfl)]
  have hwho : ∃ k t, qwho V r = k :: t ∧ k < V.length := by
    obtain ⟨m1, _⟩ := lmax_spec hne
    obtain ⟨i, hi, e⟩ := List.getElem_of_mem m1
    have hi' : i < V.length := by simpa [qc] using hi
    have : i ∈ qwho V r := by
      unfold qwho
      rw [List.mem_filter]
      refine ⟨List.mem_range.mpr hi', ?_⟩
      rw [List.getD_eq_getElem?_getD, List.getElem?_eq_getElem hi, ← e]; simp
    cases q : qwho V r with
    | nil => rw [q] at this; cases this
    | cons k t =>
      refine ⟨k, t, rfl, ?_⟩
      have : k ∈ qwho V r := by rw [q]; exact List.mem_cons_self
      unfold qwho at this
      exact List.mem_range.mp (List.mem_filter.mp this).1
  obtain ⟨k, t, hk, hkl⟩ := hwho
  have hkn : qnext V r = k := by unfold qnext; rw [hk]; rfl
  have q9 : ev q_own F false (.idx (.v 8) (.k (.int 0))) (upd (upd σ4 7 (.int (lmax (qc V r)))) 8 (.list ((qwho V r).map fun (i : Nat) => D.int i))) = some (.int (k : Int)) := by
    simp only [ev]
    simp only [show q_own 8 = false from rfl, Bool.false_and, Bool.false_eq_true, if_false, upd, if_true, Option.bind_some, K.d, hk]
    simp [idxD, seqD, intD, place]
  rw [evSL_nxt (e_asg q9 rfl)]
  generalize hσ5 : upd (upd (upd σ4 7 (.int (lmax (qc V r)))) 8 (.list ((qwho V r).map fun (i : Nat) => D.int i))) 9 (.int (k : Int)) = σ5
  have m0 : σ5 0 = some (DI V) := by rw [← hσ5]; simp [upd, l0]
  have m1 : σ5 1 = some (.int h) := by rw [← hσ5]; simp [upd, l1]
  have m3 : σ5 3 = some (DI r) := by rw [← hσ5]; simp [upd, l3]
  have m9 : σ5 9 = some (.int (k : Int)) := by rw [← hσ5]; simp [upd]
  have hkr : k < r.length := by rw [hr.len]; exact hkl
  rw [evSL_nxt (e_augI (ds := r.map .int) (k := (k : Int)) (y := r.getD k 0) (b := 1) rfl (hm 3) m3 (by simp only [ev]; rw [if_neg (by decide)]; exact m9) (by omega) (by simpa using hkr) ?_ rfl)]
  · refine ⟨_, rfl, by simp [upd, m0], by simp [upd, m1], ?_⟩
    simp only [upd, if_true, DI, qstep, hkn]
    congr 2
    simp
  · simp [List.getElem?_map, List.getElem?_eq_getElem hkr, List.getD_eq_getElem?_getD]
end
end Mine
end

section
open PySem PySem.W PyProof.Rows
set_option maxRecDepth 100000
namespace Mine

/-! ## P3. The quota method, whole; its steps -/
def qit (V : List Int) : Nat → List Int
  | 0 => List.replicate V.length 0
  | h + 1 => qstep V (qit V h)

theorem qnext_lt {V r : List Int} (hn : 1 ≤ V.length) : qnext V r < V.length ∧ (qc V r).getD (qnext V r) 0 = lmax (qc V r) ∧ ∀ i, i < qnext V r → (qc V r).getD i 0 ≠ lmax (qc V r) := by
  have hne : qc V r ≠ [] := by
    have : (qc V r).length = V.length := by simp [qc]
    intro e; rw [e] at this; simp at this; omega
  obtain ⟨m1, _⟩ := lmax_spec hne
  obtain ⟨i, hi, e⟩ := List.getElem_of_mem m1
  have hi' : i < V.length := by simpa [qc] using hi
  have hm : i ∈ qwho V r := by
    unfold qwho
    rw [List.mem_filter]
    refine ⟨List.mem_range.mpr hi', ?_⟩
    rw [List.getD_eq_getElem?_getD, List.getElem?_eq_getElem hi, ← e]; simp
  have hs : (qwho V r).Pairwise (· < ·) := List.Pairwise.filter _ List.pairwise_lt_range
  cases q : qwho V r with
  | nil => rw [q] at hm; cases hm
  | cons k t =>
    have hk : qnext V r = k := by unfold qnext; rw [q]; rfl
    have hkm : k ∈ qwho V r := by rw [q]; exact List.mem_cons_self
    rw [hk]
    have hkm' := List.mem_filter.mp hkm
    refine ⟨List.mem_range.mp hkm'.1, by simpa using hkm'.2, fun j hj e => ?_⟩
    have hjm : j ∈ qwho V r := by
      unfold qwho
      exact List.mem_filter.mpr ⟨List.mem_range.mpr (Nat.lt_trans hj (List.mem_range.mp hkm'.1)), by simpa using e⟩
    rw [q] at hjm hs
    rcases List.mem_cons.mp hjm with z | z
    · omega
    · have := (List.pairwise_cons.mp hs).1 j z; omega

theorem sum_set {l : List Int} : ∀ {k : Nat} {x : Int}, k < l.length → (l.set k x).sum = l.sum - l.getD k 0 + x := by
  induction l with
  | nil => intro k x h; simp at h
  | cons y r ih =>
    intro k x h
    cases k with
    | zero => simp; omega
    | succ k =>
      have := ih (k := k) (x := x) (by simpa using h)
      simp only [List.set_cons_succ, List.sum_cons, List.getD_cons_succ]
      omega

theorem qstep_ok {V r : List Int} {b : Int} (hn : 1 ≤ V.length) (hr : ROk V.length b r) : ROk V.length (b + 1) (qstep V r) ∧ (qstep V r).sum = r.sum + 1 := by
  obtain ⟨hk, _⟩ := qnext_lt (r := r) hn
  have hk' : qnext V r < r.length := by rw [hr.len]; exact hk
  have hs : (qstep V r).sum = r.sum + 1 := by unfold qstep; rw [sum_set hk']; omega
  refine ⟨⟨by simp [qstep, hr.len], fun x hx => ?_, by rw [hs]; have := hr.hi; omega⟩, hs⟩
  unfold qstep at hx
  rcases List.mem_or_eq_of_mem_set hx with h | h
  · exact hr.lo x h
  · have := hr.lo _ (getD_mem hk'); omega

theorem qit_ok {V : List Int} (hn : 1 ≤ V.length) : ∀ h : Nat, ROk V.length (h : Int) (qit V h) ∧ (qit V h).sum = (h : Int)
  | 0 => by
    have e : (List.replicate V.length (0 : Int)).sum = 0 := by
      generalize V.length = n
      induction n with
      | zero => rfl
      | succ n ih => rw [List.replicate_succ, List.sum_cons, ih]; rfl
    refine ⟨⟨by simp [qit], fun x hx => ?_, ?_⟩, e⟩
    · have := List.eq_of_mem_replicate hx; omega
    · show (List.replicate V.length (0 : Int)).sum ≤ _
      rw [e]; simp
  | h + 1 => by
    obtain ⟨a, b⟩ := qit_ok hn h
    obtain ⟨c, d⟩ := qstep_ok hn a
    exact ⟨by show ROk V.length _ (qstep V (qit V h)); simpa using c, by rw [qit, d, b]; simp⟩

section
variable {F : Fn} {mu : Nat → Bool}
theorem q_while (hm : ∀ i, mu i = true) {V : List Int} {h : Nat} (hV : VOk V) (hh : h ≤ 1000) : ∀ (m i fuel : Nat) (σ : Sg), i + m = h → m < fuel → σ 0 = some (DI V) → σ 1 = some (.int h) → σ 3 = some (DI (qit V i)) →
    ∃ σ', whileF (fun σ => (ev q_own F false q_cond σ).bind boolD) (fun σ => evSL q_own F mu q_body σ) fuel σ = some (.nxt σ') ∧ σ' 3 = some (DI (qit V h))
  | m, i, 0, σ, _, hf, _, _, _ => absurd hf (Nat.not_lt_zero _)
  | m, i, fuel + 1, σ, hi, hf, h0, h1, h3 => by
    obtain ⟨ok, hs⟩ := qit_ok hV.n1 i
    have hc : ev q_own F false q_cond σ = some (.bool (decide ((i : Int) < h))) := by
      unfold q_cond
      simp only [ev, evL]
      rw [if_neg (by decide), if_neg (by decide), h3, h1]
      simp only [Option.bind_some, bi_sum, cmD, Option.map_some]
      rw [hs]
    simp only [whileF, hc, Option.bind_some, boolD]
    cases m with
    | zero =>
      have : ¬ ((i : Int) < h) := by omega
      simp only [this, decide_false, Bool.false_eq_true, if_false]
      have e : i = h := by omega
      exact ⟨σ, rfl, by rw [← e]; exact h3⟩
    | succ m =>
      have : ((i : Int) < h) := by omega
      simp only [this, decide_true, if_true]
      obtain ⟨σ', e, a0, a1, a3⟩ := q_turn (F := F) hm hV (r := qit V i) (h := h) ⟨ok.len, ok.lo, by have := ok.hi; omega⟩ h0 h1 h3
      rw [e]
      simp only [Option.bind_some]
      exact q_while hm hV hh m (i + 1) fuel σ' (by omega) (by omega) a0 a1 a3

theorem q_all (hm : ∀ i, mu i = true) {V : List Int} {h : Nat} {fuel : Nat} (hV : VOk V) (hh : h < fuel) (hf : fuel ≤ 1000) {σ : Sg} (h0 : σ 0 = some (DI V)) (h1 : σ 1 = some (.int h)) (h2 : σ 2 = some (.bool true)) :
    evSL q_own F mu (.cons (.ite (.not (.v 2)) (.cons .dead .nil) .nil) (.cons (.own1 3 (.rep (.k (.int 0)) (.bi .len (.cons (.v 0) .nil)))) (.cons (.whil fuel q_cond q_body) (.cons (.retO 3) .nil)))) σ = some (.ret (DI (qit V h))) := by
  have e1 : evS q_own F mu (.ite (.not (.v 2)) (.cons .dead .nil) .nil) σ = some (.nxt σ) := by
    rw [e_ite_f]
    · rfl
    · simp only [ev]
      rw [if_neg (by decide), h2]; rfl
  rw [evSL_nxt e1]
  have e2 : ev q_own F false (.rep (.k (.int 0)) (.bi .len (.cons (.v 0) .nil))) σ = some (.list (List.replicate V.length (.int 0))) := by
    simp only [ev, evL]
    rw [if_neg (by decide), h0]
    simp only [Option.bind_some, bi_len, intD, K.d]
    rw [if_pos ⟨by omega, by have := hV.n5; simp [LB]; omega⟩]
    simp
  rw [evSL_nxt (e_own1 e2 rfl (hm 3) rfl)]
  obtain ⟨σ', e3, a3⟩ := q_while (F := F) (mu := mu) hm hV (h := h) (by omega) h 0 fuel (upd σ 3 (.list (List.replicate V.length (.int 0)))) (by omega) hh (by simp [upd, h0]) (by simp [upd, h1]) (by simp [upd, DI, qit])
  have e3' : evS q_own F mu (.whil fuel q_cond q_body) (upd σ 3 (.list (List.replicate V.length (.int 0)))) = some (.nxt σ') := by unfold evS; exact e3
  rw [evSL_nxt e3']
  exact evSL_ret (e_retO rfl a3)
end
end Mine
end

section
open PySem PySem.W PyProof.Rows
set_option maxRecDepth 100000
namespace Mine

/-! ## P4. The divisor methods: what their terms mean -/
def d_own : Nat → Bool := fun i => i == 4
def d_hunt : T := (.cmp .inn (.v 2) (.list (.cons (.k (.str (PySem.Str.ofString "huntington"))) (.cons (.k (.str (PySem.Str.ofString "hill"))) (.cons (.k (.str (PySem.Str.ofString "equalproportions"))) .nil)))))
def d_wexp : T := (.comp (.comp (.op .fdiv (.op .mul (.op .mul (.bi .int (.cons (.v 13) .nil)) (.idx (.v 8) (.k (.int 1)))) (.v 7)) (.idx (.v 8) (.k (.int 0)))) (.cons (.v 8) (.t (.v 6)) .nil .nil)) (.cons (.v 13) (.t (.v 0)) .nil .nil))
def d_wexp2 : T := (.comp (.comp (.op .fdiv (.op .mul (.op .mul (.op .mul (.bi .int (.cons (.v 13) .nil)) (.bi .int (.cons (.v 13) .nil))) (.idx (.v 8) (.k (.int 1)))) (.v 7)) (.idx (.v 8) (.k (.int 0)))) (.cons (.v 8) (.t (.v 6)) .nil .nil)) (.cons (.v 13) (.t (.v 0)) .nil .nil))
def d_core : SL := (.cons (.asg (.v 7) (.k (.int 1))) (.cons (.loop (.v 8) (.t (.v 6)) (.cons (.asg (.v 7) (.op .mul (.v 7) (.idx (.v 8) (.k (.int 0))))) .nil)) (.cons (.ite d_hunt (.cons (.asg (.v 12) d_wexp2) .nil) (.cons (.asg (.v 12) d_wexp) .nil)) (.cons (.asg (.v 9) (.bi .sorted (.cons (.comp (.v 15) (.cons (.v 14) (.t (.v 12)) .nil (.cons (.v 15) (.t (.v 14)) .nil .nil))) .nil))) (.cons (.asg (.v 10) (.idx (.v 9) (.op .add (.neg (.v 1)) (.bi .sum (.cons (.v 4) .nil))))) (.cons (.own1 4 (.comp (.op .add (.idx (.v 4) (.v 11)) (.bi .len (.cons (.comp (.v 15) (.cons (.v 15) (.t (.idx (.v 12) (.v 11))) (.cons (.cmp .gt (.v 15) (.v 10)) .nil) .nil)) .nil))) (.cons (.v 11) (.range1 (.bi .len (.cons (.v 0) .nil))) .nil .nil))) .nil))))))

def DT (ds : List Int) : D := .list (ds.map fun d => D.tup [.int d, .int 1])
def DI2 (W : List (List Int)) : D := .list (W.map DI)
def dcommon (ds : List Int) : Int := ds.foldl (fun c d => c * d) 1
def dwt (V ds : List Int) : List (List Int) := V.map fun p => ds.map fun d => p * 1 * dcommon ds / d
def dflat (V ds : List Int) : List Int := (dwt V ds).flatten
/-- the weight of the last seat -/
def dmin (V ds r0 : List Int) (h : Int) : Int := (isort (dflat V ds)).getD ((dflat V ds).length - (h - r0.sum).toNat) 0
def dabove (V ds r0 : List Int) (h : Int) : List Int := (List.range V.length).map fun i => r0.getD i 0 + (((dwt V ds).getD i []).filter (fun w => decide (dmin V ds r0 h < w))).length

structure DsOk (ds : List Int) : Prop where
  len : ds.length ≤ 40
  lo : ∀ d ∈ ds, 1 ≤ d
  hi : ∀ d ∈ ds, d ≤ 2 ^ 20

theorem flatten_len {V ds : List Int} : (dflat V ds).length = V.length * ds.length := by
  unfold dflat dwt
  induction V with
  | nil => simp
  | cons p r ih =>
    rw [List.map_cons, List.flatten_cons, List.length_append, ih, List.length_map, List.length_cons, Nat.add_mul]; omega

theorem isort_len (l : List Int) : (isort l).length = l.length := (isort_perm l).length_eq

section
variable {F : Fn} {mu : Nat → Bool}

theorem d_core_ev (hm : ∀ i, mu i = true) {V ds r0 : List Int} {h : Int} (hV : VOk V) (hd : DsOk ds) (hr : ROk V.length 1000 r0) {σ : Sg} {m : PySem.Str} (h0 : σ 0 = some (DI V)) (h1 : σ 1 = some (.int h)) (h2 : σ 2 = some (.str m)) (h4 : σ 4 = some (DI r0)) (h6 : σ 6 = some (DT ds))
    (hh : ∀ σ, σ 2 = some (.str m) → ev d_own F false d_hunt σ = some (.bool false)) (hs : (dflat V ds).length < 128) (hk : 1 ≤ h - r0.sum) (hk' : (h - r0.sum).toNat ≤ (dflat V ds).length) :
    ∃ σ', evSL d_own F mu d_core σ = some (.nxt σ') ∧ σ' 0 = some (DI V) ∧ σ' 1 = some (.int h) ∧ σ' 3 = σ 3 ∧ σ' 4 = some (DI (dabove V ds r0 h)) ∧ σ' 10 = some (.int (dmin V ds r0 h)) ∧ σ' 12 = some (DI2 (dwt V ds)) := by
  unfold d_core
  rw [evSL_nxt (σ' := upd σ 7 (.int 1)) (e_asg rfl rfl)]
  have hloop : ∃ σ2, evS d_own F mu (.loop (.v 8) (.t (.v 6)) (.cons (.asg (.v 7) (.op .mul (.v 7) (.idx (.v 8) (.k (.int 0))))) .nil)) (upd σ 7 (.int 1)) = some (.nxt σ2) ∧ σ2 7 = some (.int (dcommon ds)) ∧ ∀ j, j ≠ 7 → j ≠ 8 → σ2 j = σ j := by
    have inv := loopF_inv (f := fun d σ => (bindP d_own (.v 8) d σ).bind fun σ' => evSL d_own F mu (.cons (.asg (.v 7) (.op .mul (.v 7) (.idx (.v 8) (.k (.int 0))))) .nil) σ')
      (fun k σ' => σ' 7 = some (.int ((ds.take k).foldl (fun c d => c * d) 1)) ∧ ∀ j, j ≠ 7 → j ≠ 8 → σ' j = σ j) (ds.map fun d => D.tup [.int d, .int 1]) 0 (upd σ 7 (.int 1)) ⟨by simp [upd], fun j a b => by simp [upd, a]⟩ fun i σ' hi hI => by
        have hi' : i < ds.length := by simpa using hi
        obtain ⟨e4, ej⟩ := hI
        simp only [Nat.zero_add] at e4 ⊢
        have hx : ds[i] ∈ ds := List.getElem_mem hi'
        have b1 := hd.lo _ hx
        have b2 := hd.hi _ hx
        refine ⟨upd (upd σ' 8 (.tup [.int ds[i], .int 1])) 7 (.int ((ds.take i).foldl (fun c d => c * d) 1 * ds[i])), .inl ?_, ?_, fun j a b => by simp [upd, a, b, ej j a b]⟩
        · simp only [bindP, List.getElem_map]
          rw [if_neg (by decide), Option.bind_some, evSL_nxt (e_asg ?_ rfl)]
          · rfl
          · simp only [ev]
            rw [if_neg (by decide), if_neg (by decide)]
            simp only [upd, K.d, show (7 : Nat) ≠ 8 from by decide, if_false, if_true, e4, Option.bind_some]
            have : idxD (.tup [.int ds[i], .int 1]) (.int 0) = some (.int ds[i]) := by simp [idxD, seqD, intD, place]
            rw [this, Option.bind_some, op_mul (.inr (small_of (by omega) (by omega)))]
        · rw [List.take_succ_eq_append_getElem hi', List.foldl_append]
          simp [upd]
    obtain ⟨σ2, e, i1, i2⟩ := inv
    refine ⟨σ2, ?_, ?_, i2⟩
    · simp only [evS, evSr, ev]
      rw [if_neg (by decide)]
      have : (upd σ 7 (.int 1)) 6 = some (DT ds) := by simp [upd, h6]
      rw [this]
      simp only [Option.bind_some, DT, listD]
      exact e
    · rw [i1]; simp [dcommon]
  obtain ⟨σ2, e2, c7, cj⟩ := hloop
  rw [evSL_nxt e2]
  have g0 : σ2 0 = some (DI V) := by rw [cj 0 (by decide) (by decide), h0]
  have g1 : σ2 1 = some (.int h) := by rw [cj 1 (by decide) (by decide), h1]
  have g2 : σ2 2 = some (.str m) := by rw [cj 2 (by decide) (by decide), h2]
  have g3 : σ2 3 = σ 3 := cj 3 (by decide) (by decide)
  have g4 : σ2 4 = some (DI r0) := by rw [cj 4 (by decide) (by decide), h4]
  have g6 : σ2 6 = some (DT ds) := by rw [cj 6 (by decide) (by decide), h6]
  have lenV : ∀ (σ : Sg), σ 0 = some (DI V) → ev d_own F false (.bi .len (.cons (.v 0) .nil)) σ = some (.int V.length) := fun σ e => by
    simp only [ev, evL]
    rw [if_neg (by decide), e]
    exact bi_len V
  have hw : ev d_own F false d_wexp σ2 = some (DI2 (dwt V ds)) := by
    unfold d_wexp
    rw [t_map (ds := V.map .int) (f := fun d => match d with | .int p => DI (ds.map fun d => p * 1 * dcommon ds / d) | d => d) rfl ?_ (fun d hd' => ?_) (by simp [LB]; have := hV.n5; omega)]
    · simp [DI2, dwt, DI]
    · simp only [evSr, ev]
      rw [if_neg (by decide), g0]
      rfl
    · obtain ⟨p, hp, rfl⟩ := List.mem_map.mp hd'
      have v1 := hV.lo _ hp
      have v2 := hV.hi _ hp
      rw [t_map (ds := ds.map fun d => D.tup [.int d, .int 1]) (f := fun d => match d with | .tup [.int d, _] => .int (p * 1 * dcommon ds / d) | d => d) rfl ?_ (fun d hd' => ?_) (by simp [LB]; have := hd.len; omega)]
      · simp [DI]
      · simp only [evSr, ev]
        rw [if_neg (by decide)]
        simp only [upd, show (6 : Nat) ≠ 13 from by decide, if_false, g6]
        rfl
      · obtain ⟨d, hdm, rfl⟩ := List.mem_map.mp hd'
        have b1 := hd.lo _ hdm
        have b2 := hd.hi _ hdm
        simp only [ev, evL]
        simp only [show d_own 13 = false from rfl, show d_own 8 = false from rfl, show d_own 7 = false from rfl, Bool.false_and, Bool.false_eq_true, if_false]
        simp only [upd, show (13 : Nat) ≠ 8 from by decide, show (7 : Nat) ≠ 8 from by decide, show (7 : Nat) ≠ 13 from by decide, if_false, if_true, c7, Option.bind_some, K.d, biD]
        have i1 : idxD (.tup [.int d, .int 1]) (.int 1) = some (.int 1) := by simp [idxD, seqD, intD, place]
        have i0 : idxD (.tup [.int d, .int 1]) (.int 0) = some (.int d) := by simp [idxD, seqD, intD, place]
        rw [i1, i0]
        simp only [Option.bind_some]
        rw [op_mul (.inr (by decide)), Option.bind_some, op_mul (.inl (small_of (by omega) (by omega))), Option.bind_some, op_fdiv (by omega) (small_of (by omega) (by omega))]
  have e3 : evS d_own F mu (.ite d_hunt (.cons (.asg (.v 12) d_wexp2) .nil) (.cons (.asg (.v 12) d_wexp) .nil)) σ2 = some (.nxt (upd σ2 12 (DI2 (dwt V ds)))) := by
    rw [e_ite_f (hh σ2 g2), evSL_nxt (e_asg hw rfl)]; rfl
  rw [evSL_nxt e3]
  generalize hσ3 : upd σ2 12 (DI2 (dwt V ds)) = σ3
  have k0 : σ3 0 = some (DI V) := by rw [← hσ3]; simp [upd, g0]
  have k1 : σ3 1 = some (.int h) := by rw [← hσ3]; simp [upd, g1]
  have k3 : σ3 3 = σ 3 := by rw [← hσ3]; simp [upd, g3]
  have k4 : σ3 4 = some (DI r0) := by rw [← hσ3]; simp [upd, g4]
  have k12 : σ3 12 = some (DI2 (dwt V ds)) := by rw [← hσ3]; simp [upd]
  have hflen := flatten_len (V := V) (ds := ds)
  -- the flat list
  have hf : ev d_own F true (.comp (.v 15) (.cons (.v 14) (.t (.v 12)) .nil (.cons (.v 15) (.t (.v 14)) .nil .nil))) σ3 = some (DI (dflat V ds)) := by
    unfold ev
    have e0 : evSr d_own F (.t (.v 12)) σ3 = some ((dwt V ds).map DI) := by
      simp only [evSr, ev]
      rw [if_neg (by decide), k12]; rfl
    simp only [show ((Pat.vars (.v 14) ++ GL.vars (.cons (.v 15) (.t (.v 14)) .nil .nil)).any d_own) = false from rfl, Bool.false_eq_true, if_false, e0, Option.bind_some]
    rw [flatM_some (g := fun d => match d with | .list l => l | _ => []) fun d hd' => ?_]
    · have e1 : (((dwt V ds).map DI).map fun d => match d with | .list l => l | _ => []).flatten = (dflat V ds).map D.int := by
        unfold dflat
        rw [List.map_map, List.map_flatten]
        rfl
      rw [e1]
      simp only [Option.bind_some]
      rw [if_pos (by simp [LB]; omega)]
      rfl
    · obtain ⟨l, hl, rfl⟩ := List.mem_map.mp hd'
      simp only [bindP, show d_own 14 = false from rfl, Bool.false_eq_true, if_false, Option.bind_some, evC, if_true]
      unfold evG
      have e1 : evSr d_own F (.t (.v 14)) (upd (unb (Pat.vars (.v 14) ++ GL.vars (.cons (.v 15) (.t (.v 14)) .nil .nil)) σ3) 14 (DI l)) = some (l.map D.int) := by
        simp only [evSr, ev]
        rw [if_neg (by decide)]
        simp [upd, DI, listD]
      rw [e1]
      simp only [Option.bind_some]
      rw [flatM_some (g := fun d => [d]) fun d _ => ?_]
      · have : ∀ l : List D, (l.map fun d => [d]).flatten = l := fun l => by induction l with
          | nil => rfl
          | cons x r ih => simp [ih]
        rw [this]; rfl
      · simp only [bindP, show d_own 15 = false from rfl, Bool.false_eq_true, if_false, Option.bind_some, evC, if_true, evG, ev, Bool.false_and]
        simp [upd]
  have h9 : ev d_own F false (.bi .sorted (.cons (.comp (.v 15) (.cons (.v 14) (.t (.v 12)) .nil (.cons (.v 15) (.t (.v 14)) .nil .nil))) .nil)) σ3 = some (DI (isort (dflat V ds))) := by
    unfold ev evL evL
    rw [hf]
    simp only [Option.bind_some, biD, DI, listD, intsOf_map]
    rw [if_pos hs]
  rw [evSL_nxt (e_asg h9 rfl)]
  have h10 : ev d_own F false (.idx (.v 9) (.op .add (.neg (.v 1)) (.bi .sum (.cons (.v 4) .nil)))) (upd σ3 9 (DI (isort (dflat V ds)))) = some (.int (dmin V ds r0 h)) := by
    simp only [ev, evL]
    simp only [show d_own 9 = false from rfl, show d_own 1 = false from rfl, Bool.false_and, Bool.not_true, Bool.and_false, Bool.false_eq_true, if_false, upd, if_true, Option.bind_some, show (1 : Nat) ≠ 9 from by decide, show (4 : Nat) ≠ 9 from by decide, k1, k4, negD, bi_sum, op_add]
    unfold idxD
    simp only [DI, seqD, Option.bind_some, intD]
    have hp : place ((isort (dflat V ds)).map D.int).length (-h + r0.sum) = some ((dflat V ds).length - (h - r0.sum).toNat) := by
      unfold place
      rw [if_neg (by omega), if_pos (by rw [List.length_map, isort_len]; omega), List.length_map, isort_len]
      congr 2; omega
    rw [hp, Option.bind_some, List.getElem?_map]
    have hlt : (dflat V ds).length - (h - r0.sum).toNat < (isort (dflat V ds)).length := by rw [isort_len]; omega
    rw [List.getElem?_eq_getElem hlt]
    simp [dmin, List.getD_eq_getElem?_getD, List.getElem?_eq_getElem hlt]
  rw [evSL_nxt (e_asg h10 rfl)]
  generalize hσ4 : upd (upd σ3 9 (DI (isort (dflat V ds)))) 10 (.int (dmin V ds r0 h)) = σ4
  have l0 : σ4 0 = some (DI V) := by rw [← hσ4]; simp [upd, k0]
  have l1 : σ4 1 = some (.int h) := by rw [← hσ4]; simp [upd, k1]
  have l3 : σ4 3 = σ 3 := by rw [← hσ4]; simp [upd, k3]
  have l4 : σ4 4 = some (DI r0) := by rw [← hσ4]; simp [upd, k4]
  have l10 : σ4 10 = some (.int (dmin V ds r0 h)) := by rw [← hσ4]; simp [upd]
  have l12 : σ4 12 = some (DI2 (dwt V ds)) := by rw [← hσ4]; simp [upd, k12]
  have hwl : (dwt V ds).length = V.length := by simp [dwt]
  have h4' : ev d_own F false (.comp (.op .add (.idx (.v 4) (.v 11)) (.bi .len (.cons (.comp (.v 15) (.cons (.v 15) (.t (.idx (.v 12) (.v 11))) (.cons (.cmp .gt (.v 15) (.v 10)) .nil) .nil)) .nil))) (.cons (.v 11) (.range1 (.bi .len (.cons (.v 0) .nil))) .nil .nil)) σ4 = some (DI (dabove V ds r0 h)) := by
    rw [t_rangeMap (f := fun i => D.int (r0.getD i 0 + (((dwt V ds).getD i []).filter (fun w => decide (dmin V ds r0 h < w))).length)) rfl (lenV σ4 l0) (by have := hV.n5; omega) fun i hi => ?_]
    · simp [dabove, DI]
    · have hwi : ∀ σ : Sg, σ 12 = some (DI2 (dwt V ds)) → σ 11 = some (.int (i : Int)) → ev d_own F false (.idx (.v 12) (.v 11)) σ = some (DI ((dwt V ds).getD i [])) := fun σ a b => by
        simp only [ev]
        simp only [show d_own 12 = false from rfl, show d_own 11 = false from rfl, Bool.false_and, Bool.false_eq_true, if_false, a, b, Option.bind_some, idxD, DI2, seqD, intD]
        have hp : place ((dwt V ds).map DI).length (i : Int) = some i := by
          unfold place
          rw [if_pos (by omega), if_pos (by simp [hwl]; omega)]; simp
        rw [hp, Option.bind_some, List.getElem?_map, List.getElem?_eq_getElem (by rw [hwl]; exact hi)]
        simp [List.getD_eq_getElem?_getD, List.getElem?_eq_getElem (show i < (dwt V ds).length by rw [hwl]; exact hi)]
      have hlw : ((dwt V ds).getD i []).length ≤ 40 := by
        rw [List.getD_eq_getElem?_getD, List.getElem?_eq_getElem (show i < (dwt V ds).length by rw [hwl]; exact hi)]
        have := hd.len
        simp [dwt]; exact this
      have hcnt : ev d_own F true (.comp (.v 15) (.cons (.v 15) (.t (.idx (.v 12) (.v 11))) (.cons (.cmp .gt (.v 15) (.v 10)) .nil) .nil)) (upd σ4 11 (.int (i : Int))) = some (DI (((dwt V ds).getD i []).filter (fun w => decide (dmin V ds r0 h < w)))) := by
        rw [t_comp (ds := ((dwt V ds).getD i []).map .int) (f := id) (p := fun d => match d with | .int w => decide (dmin V ds r0 h < w) | _ => true) rfl ?_ (fun d hd' => ?_) (fun d hd' _ => ?_) (by simp [LB]; have := hlw; simp at this; omega)]
        · rw [List.map_id, List.filter_map]; rfl
        · simp only [evSr]
          rw [hwi _ (by simp [upd, l12]) (by simp [upd])]; rfl
        · obtain ⟨x, _, rfl⟩ := List.mem_map.mp hd'
          simp only [evC, ev]
          simp only [show d_own 15 = false from rfl, show d_own 10 = false from rfl, Bool.false_and, Bool.false_eq_true, if_false, upd, if_true, show (10 : Nat) ≠ 15 from by decide, show (10 : Nat) ≠ 11 from by decide, l10, Option.bind_some, cmD, Option.map_some, boolD]
          cases decide (dmin V ds r0 h < x) <;> rfl
        · simp only [ev]
          rw [if_neg (by decide)]
          simp [upd]
      unfold ev
      have a1 : ev d_own F false (.idx (.v 4) (.v 11)) (upd σ4 11 (.int (i : Int))) = some (.int (r0.getD i 0)) := by
        simp only [ev]
        simp only [show d_own 11 = false from rfl, Bool.false_and, Bool.not_true, Bool.and_false, Bool.false_eq_true, if_false, upd, if_true, show (4 : Nat) ≠ 11 from by decide, l4, Option.bind_some]
        exact idx_DI (by rw [hr.len]; exact hi)
      have a2 : ev d_own F false (.bi .len (.cons (.comp (.v 15) (.cons (.v 15) (.t (.idx (.v 12) (.v 11))) (.cons (.cmp .gt (.v 15) (.v 10)) .nil) .nil)) .nil)) (upd σ4 11 (.int (i : Int))) = some (.int (((dwt V ds).getD i []).filter (fun w => decide (dmin V ds r0 h < w))).length) := by
        unfold ev evL evL
        rw [hcnt]
        exact bi_len _
      rw [a1, a2]
      rfl
  rw [evSL_nxt (e_own1 h4' rfl (hm 4) rfl)]
  exact ⟨_, rfl, by simp [upd, l0], by simp [upd, l1], by simp [upd, l3], by simp [upd, DI], by simp [upd, l10], by simp [upd, l12]⟩
end
end Mine
end

section
open PySem PySem.W PyProof.Rows
set_option maxRecDepth 100000
namespace Mine

/-! ## P5. The divisor methods: the last seats -/
def d_has : T := (.cmp .inn (.v 10) (.idx (.v 12) (.v 11)))
def d_sum : T := (.bi .sum (.cons (.v 4) .nil))
def d_tie (X : TS) : SL := (.cons (.ite (.bop true (.cons (.cmp .eq d_sum (.v 1)) (.cons d_has .nil))) (.cons (.ite (.not (.v 5)) (.cons (.ite (.not (.v 3)) (.cons X .nil) .nil) (.cons (.asg (.v 5) (.k .tru)) .nil)) .nil) .nil) .nil) (.cons (.ite (.bop true (.cons (.cmp .lt d_sum (.v 1)) (.cons d_has .nil))) (.cons (.augI 4 (.v 11) (.k (.int 1))) .nil) .nil) .nil))
def d_tail (X : TS) : SL := (.cons (.ite (.cmp .gt (.v 1) d_sum) d_core .nil) (.cons (.asg (.v 5) (.k .fls)) (.cons (.ite (.cmp .gt (.v 1) d_sum) (.cons (.loop (.v 11) (.range1 (.bi .len (.cons (.v 0) .nil))) (d_tie X)) .nil) .nil) (.cons (.ite (.bop true (.cons (.v 5) (.cons (.not (.v 3)) .nil))) (.cons X .nil) .nil) (.cons (.retO 4) .nil)))))

def has (M : Int) (w : List Int) : Bool := w.any fun x => x == M
def dturn (W : List (List Int)) (M h : Int) (s : List Int × Bool) (i : Nat) : List Int × Bool :=
  (if s.1.sum < h ∧ has M (W.getD i []) = true then s.1.set i (s.1.getD i 0 + 1) else s.1, s.2 || (s.1.sum == h && has M (W.getD i [])))
def dfold (W : List (List Int)) (M h : Int) (n : Nat) (s : List Int × Bool) : List Int × Bool := (List.range n).foldl (dturn W M h) s

theorem any_DI (m : Int) : ∀ l : List Int, anyEq (.int m) (l.map .int) = some (has m l)
  | [] => rfl
  | x :: r => by
    simp only [List.map_cons, anyEq, any_DI m r, eqD, Option.bind_some, Option.map_some, has, List.any_cons]

section
variable {F : Fn} {mu : Nat → Bool}

theorem d_sum_ev {r : List Int} {σ : Sg} (h4 : σ 4 = some (DI r)) : ev d_own F false d_sum σ = some (.int r.sum) := by
  unfold d_sum
  simp only [ev, evL]
  rw [if_neg (by decide), h4]
  exact bi_sum r
theorem bop_and {own : Nat → Bool} {a b : T} {σ : Sg} {x y : Bool} (ha : ev own F false a σ = some (.bool x)) (hb : x = true → ev own F false b σ = some (.bool y)) (bw : Bool) : ev own F bw (.bop true (.cons a (.cons b .nil))) σ = some (.bool (x && y)) := by
  simp only [ev, evBop, ha, Option.bind_some, boolD]
  cases x with
  | false => rfl
  | true => rw [hb rfl]; rfl
theorem bop_or {own : Nat → Bool} {a b : T} {σ : Sg} {x y : Bool} (ha : ev own F false a σ = some (.bool x)) (hb : x = false → ev own F false b σ = some (.bool y)) (bw : Bool) : ev own F bw (.bop false (.cons a (.cons b .nil))) σ = some (.bool (x || y)) := by
  simp only [ev, evBop, ha, Option.bind_some, boolD]
  cases x with
  | true => rfl
  | false => rw [hb rfl]; rfl

theorem d_has_ev {W : List (List Int)} {M : Int} {i : Nat} {σ : Sg} (h10 : σ 10 = some (.int M)) (h11 : σ 11 = some (.int (i : Int))) (h12 : σ 12 = some (DI2 W)) (hi : i < W.length) : ev d_own F false d_has σ = some (.bool (has M (W.getD i []))) := by
  unfold d_has
  simp only [ev]
  simp only [show d_own 12 = false from rfl, show d_own 11 = false from rfl, show d_own 10 = false from rfl, Bool.false_and, Bool.false_eq_true, if_false, h10, h11, h12, Option.bind_some]
  have e : idxD (DI2 W) (.int (i : Int)) = some (DI (W.getD i [])) := by
    simp only [idxD, DI2, seqD, Option.bind_some, intD]
    have hp : place (W.map DI).length (i : Int) = some i := by
      unfold place
      rw [if_pos (by omega), if_pos (by simp; omega)]; simp
    rw [hp, Option.bind_some, List.getElem?_map, List.getElem?_eq_getElem hi]
    simp [List.getD_eq_getElem?_getD, List.getElem?_eq_getElem hi]
  rw [e]
  simp only [Option.bind_some, cmD, inD, DI, any_DI, Option.map_some]

/-- one turn of the loop of the last seats, where no raise is reached -/
theorem d_turn_ev (hm : ∀ i, mu i = true) {X : TS} {W : List (List Int)} {M h : Int} {r : List Int} {t ta : Bool} {i : Nat} {σ : Sg} (h1 : σ 1 = some (.int h)) (h3 : σ 3 = some (.bool ta)) (h4 : σ 4 = some (DI r)) (h5 : σ 5 = some (.bool t)) (h10 : σ 10 = some (.int M)) (h11 : σ 11 = some (.int (i : Int))) (h12 : σ 12 = some (DI2 W))
    (hi : i < W.length) (hr : r.length = W.length) (hno : ta = true ∨ (dturn W M h (r, t) i).2 = false) :
    ∃ σ', evSL d_own F mu (d_tie X) σ = some (.nxt σ') ∧ σ' 4 = some (DI (dturn W M h (r, t) i).1) ∧ σ' 5 = some (.bool (dturn W M h (r, t) i).2) ∧ ∀ j, j ≠ 4 → j ≠ 5 → σ' j = σ j := by
  unfold d_tie
  have hh := d_has_ev (F := F) h10 h11 h12 hi
  have v1 : ev d_own F true (.v 1) σ = some (.int h) := by simp only [ev]; rw [if_neg (by decide), h1]
  have sT : ∀ {bw : Bool}, ev d_own F bw d_sum σ = some (.int r.sum) := fun {bw} => by
    unfold d_sum
    simp only [ev, evL]
    rw [if_neg (by decide), h4]
    exact bi_sum r
  have c1 : ev d_own F false (.bop true (.cons (.cmp .eq d_sum (.v 1)) (.cons d_has .nil))) σ = some (.bool ((r.sum == h) && has M (W.getD i []))) := by
    refine bop_and ?_ (fun _ => hh) _
    unfold ev
    rw [sT, v1]; rfl
  -- the first test
  have p1 : ∃ σ1, evS d_own F mu (.ite (.bop true (.cons (.cmp .eq d_sum (.v 1)) (.cons d_has .nil))) (.cons (.ite (.not (.v 5)) (.cons (.ite (.not (.v 3)) (.cons X .nil) .nil) (.cons (.asg (.v 5) (.k .tru)) .nil)) .nil) .nil) .nil) σ = some (.nxt σ1) ∧ σ1 5 = some (.bool (dturn W M h (r, t) i).2) ∧ ∀ j, j ≠ 5 → σ1 j = σ j := by
    cases q : ((r.sum == h) && has M (W.getD i [])) with
    | false =>
      rw [q] at c1
      rw [e_ite_f c1]
      refine ⟨σ, rfl, ?_, fun _ _ => rfl⟩
      rw [show (dturn W M h (r, t) i).2 = (t || ((r.sum == h) && has M (W.getD i []))) from rfl, q, Bool.or_false]; exact h5
    | true =>
      rw [q] at c1
      rw [e_ite_t c1]
      have e5 : (dturn W M h (r, t) i).2 = true := by rw [show (dturn W M h (r, t) i).2 = (t || ((r.sum == h) && has M (W.getD i []))) from rfl, q, Bool.or_true]
      have hta : ta = true := by
        rcases hno with z | z
        · exact z
        · rw [e5] at z; cases z
      have n5 : ev d_own F false (.not (.v 5)) σ = some (.bool (!t)) := by
        simp only [ev]
        rw [if_neg (by decide), h5]; rfl
      cases t with
      | true =>
        rw [evSL_nxt (σ' := σ) (by rw [e_ite_f n5]; rfl)]
        exact ⟨σ, rfl, by rw [e5, h5], fun _ _ => rfl⟩
      | false =>
        have n3 : ev d_own F false (.not (.v 3)) σ = some (.bool false) := by
          simp only [ev]
          rw [if_neg (by decide), h3, hta]; rfl
        have inner : evS d_own F mu (.ite (.not (.v 5)) (.cons (.ite (.not (.v 3)) (.cons X .nil) .nil) (.cons (.asg (.v 5) (.k .tru)) .nil)) .nil) σ = some (.nxt (upd σ 5 (.bool true))) := by
          rw [e_ite_t n5, evSL_nxt (σ' := σ) (by rw [e_ite_f n3]; rfl), evSL_nxt (e_asg (d := .bool true) rfl rfl)]; rfl
        rw [evSL_nxt inner]
        exact ⟨_, rfl, by rw [e5]; simp [upd], fun j hj => by simp [upd, hj]⟩
  obtain ⟨σ1, e1, a5, aj⟩ := p1
  rw [evSL_nxt e1]
  have b1 : σ1 1 = some (.int h) := by rw [aj 1 (by decide), h1]
  have b4 : σ1 4 = some (DI r) := by rw [aj 4 (by decide), h4]
  have hh1 := d_has_ev (F := F) (σ := σ1) (by rw [aj 10 (by decide)]; exact h10) (by rw [aj 11 (by decide)]; exact h11) (by rw [aj 12 (by decide)]; exact h12) hi
  have c2 : ev d_own F false (.bop true (.cons (.cmp .lt d_sum (.v 1)) (.cons d_has .nil))) σ1 = some (.bool (decide (r.sum < h) && has M (W.getD i []))) := by
    refine bop_and ?_ (fun _ => hh1) _
    have sT : ev d_own F true d_sum σ1 = some (.int r.sum) := by
      unfold d_sum
      simp only [ev, evL]
      rw [if_neg (by decide), b4]
      exact bi_sum r
    have v1 : ev d_own F true (.v 1) σ1 = some (.int h) := by simp only [ev]; rw [if_neg (by decide), b1]
    unfold ev
    rw [sT, v1]; rfl
  cases q : (decide (r.sum < h) && has M (W.getD i [])) with
  | false =>
    rw [q] at c2
    rw [evSL_nxt (σ' := σ1) (by rw [e_ite_f c2]; rfl)]
    refine ⟨σ1, rfl, ?_, a5, fun j _ b => aj j b⟩
    rw [b4]
    have : ¬ (r.sum < h ∧ has M (W.getD i []) = true) := by simpa using q
    simp only [dturn]
    rw [if_neg this]
  | true =>
    rw [q] at c2
    have hi' : i < r.length := by rw [hr]; exact hi
    have hlt : r.sum < h ∧ has M (W.getD i []) = true := by simpa using q
    rw [evSL_nxt (σ' := upd σ1 4 (.list ((r.map D.int).set (i : Int).toNat (.int (r.getD i 0 + 1))))) (by
      rw [e_ite_t c2, evSL_nxt (e_augI (ds := r.map .int) (k := (i : Int)) (y := r.getD i 0) (b := 1) rfl (hm 4) b4 (by simp only [ev]; rw [if_neg (by decide), aj 11 (by decide)]; exact h11) (by omega) (by simpa using hi') (by simp [List.getElem?_eq_getElem hi', List.getD_eq_getElem?_getD]) rfl)]; rfl)]
    refine ⟨_, rfl, ?_, by simp [upd, a5], fun j a b => by simp [upd, a, aj j b]⟩
    simp only [dturn]
    rw [if_pos hlt]
    simp [upd, DI]

theorem d_loop_ev (hm : ∀ i, mu i = true) {X : TS} {V : List Int} {W : List (List Int)} {M h : Int} {r : List Int} {ta : Bool} {σ : Sg} (h0 : σ 0 = some (DI V)) (h1 : σ 1 = some (.int h)) (h3 : σ 3 = some (.bool ta)) (h4 : σ 4 = some (DI r)) (h5 : σ 5 = some (.bool false)) (h10 : σ 10 = some (.int M)) (h12 : σ 12 = some (DI2 W))
    (hV : V.length = W.length) (hn : W.length ≤ 1000) (hr : r.length = W.length) (hno : ta = true ∨ ∀ k, k ≤ W.length → (dfold W M h k (r, false)).2 = false) :
    ∃ σ', evS d_own F mu (.loop (.v 11) (.range1 (.bi .len (.cons (.v 0) .nil))) (d_tie X)) σ = some (.nxt σ') ∧ σ' 3 = some (.bool ta) ∧ σ' 4 = some (DI (dfold W M h W.length (r, false)).1) ∧ σ' 5 = some (.bool (dfold W M h W.length (r, false)).2) := by
  have hlen : ev d_own F false (.bi .len (.cons (.v 0) .nil)) σ = some (.int W.length) := by
    simp only [ev, evL]
    rw [if_neg (by decide), h0, ← hV]
    exact bi_len V
  have flen : ∀ k, (dfold W M h k (r, false)).1.length = W.length := fun k => by
    unfold dfold
    induction k with
    | zero => exact hr
    | succ k ih =>
      rw [List.range_succ, List.foldl_append]
      simp only [List.foldl_cons, List.foldl_nil, dturn]
      split
      · simp [ih]
      · exact ih
  have succ : ∀ k, dfold W M h (k + 1) (r, false) = dturn W M h (dfold W M h k (r, false)) k := fun k => by
    unfold dfold
    rw [List.range_succ, List.foldl_append]; rfl
  have inv := loopF_inv (f := fun d σ => (bindP d_own (.v 11) d σ).bind fun σ' => evSL d_own F mu (d_tie X) σ')
    (fun k σ' => σ' 1 = some (.int h) ∧ σ' 3 = some (.bool ta) ∧ σ' 4 = some (DI (dfold W M h k (r, false)).1) ∧ σ' 5 = some (.bool (dfold W M h k (r, false)).2) ∧ σ' 10 = some (.int M) ∧ σ' 12 = some (DI2 W)) (rng W.length) 0 σ ⟨h1, h3, h4, h5, h10, h12⟩ fun i σ' hi hI => by
      have hi' : i < W.length := by simpa [rng] using hi
      obtain ⟨a1, a3, a4, a5, a10, a12⟩ := hI
      simp only [Nat.zero_add] at a4 a5 ⊢
      obtain ⟨σ2, e, b4, b5, bj⟩ := d_turn_ev (F := F) hm (X := X) (σ := upd σ' 11 (.int (i : Int))) (W := W) (M := M) (h := h) (r := (dfold W M h i (r, false)).1) (t := (dfold W M h i (r, false)).2) (ta := ta) (i := i) (by simp [upd, a1]) (by simp [upd, a3]) (by simp [upd, a4]) (by simp [upd, a5]) (by simp [upd, a10]) (by simp [upd]) (by simp [upd, a12]) hi' (flen i) (by
        rcases hno with z | z
        · exact .inl z
        · right; rw [← succ]; exact z (i + 1) hi')
      refine ⟨σ2, .inl ?_, by rw [bj 1 (by decide) (by decide)]; simp [upd, a1], by rw [bj 3 (by decide) (by decide)]; simp [upd, a3], ?_, ?_, by rw [bj 10 (by decide) (by decide)]; simp [upd, a10], by rw [bj 12 (by decide) (by decide)]; simp [upd, a12]⟩
      · have : (rng W.length)[i] = D.int (i : Int) := by simp [rng]
        rw [this]
        simp only [bindP]
        rw [if_neg (by decide), Option.bind_some]
        exact e
      · rw [succ]; exact b4
      · rw [succ]; exact b5
  obtain ⟨σ', e, _, a3, a4, a5, _⟩ := inv
  have hrl : 0 + (rng W.length).length = W.length := by simp [rng]
  rw [hrl] at a4 a5
  refine ⟨σ', ?_, a3, a4, a5⟩
  simp only [evS]
  rw [t_range hlen hn]
  simp only [Option.bind_some]
  exact e

/-- what the method gives back, from the divisors on -/
def dres (V ds r0 : List Int) (h : Int) : List Int := if (dabove V ds r0 h).sum < h then (dfold (dwt V ds) (dmin V ds r0 h) h V.length (dabove V ds r0 h, false)).1 else dabove V ds r0 h

theorem d_tail_ev (hm : ∀ i, mu i = true) {X : TS} {V ds r0 : List Int} {h : Int} (hV : VOk V) (hd : DsOk ds) (hr : ROk V.length 1000 r0) {σ : Sg} {m : PySem.Str} (h0 : σ 0 = some (DI V)) (h1 : σ 1 = some (.int h)) (h2 : σ 2 = some (.str m)) (h3 : σ 3 = some (.bool true)) (h4 : σ 4 = some (DI r0)) (h6 : σ 6 = some (DT ds))
    (hh : ∀ σ, σ 2 = some (.str m) → ev d_own F false d_hunt σ = some (.bool false)) (hs : (dflat V ds).length < 128) (hk : 1 ≤ h - r0.sum) (hk' : (h - r0.sum).toNat ≤ (dflat V ds).length) :
    evSL d_own F mu (d_tail X) σ = some (.ret (DI (dres V ds r0 h))) := by
  obtain ⟨σ1, e1, a0, a1, a3, a4, a10, a12⟩ := d_core_ev (F := F) hm hV hd hr h0 h1 h2 h4 h6 hh hs hk hk'
  unfold d_tail
  have cmp : ∀ {σ : Sg} {r : List Int}, σ 1 = some (.int h) → σ 4 = some (DI r) → ev d_own F false (.cmp .gt (.v 1) d_sum) σ = some (.bool (decide (r.sum < h))) := fun {σ r} h1 h4 => by
    have sT : ev d_own F true d_sum σ = some (.int r.sum) := by
      unfold d_sum
      simp only [ev, evL]
      rw [if_neg (by decide), h4]
      exact bi_sum r
    have v1 : ev d_own F true (.v 1) σ = some (.int h) := by simp only [ev]; rw [if_neg (by decide), h1]
    unfold ev
    rw [sT, v1]; rfl
  have c1 := cmp h1 h4
  rw [show decide (r0.sum < h) = true from by simp; omega] at c1
  rw [evSL_nxt (by rw [e_ite_t c1]; exact e1), evSL_nxt (e_asg (d := .bool false) rfl rfl)]
  generalize hσ : upd σ1 5 (.bool false) = σ2
  have b0 : σ2 0 = some (DI V) := by rw [← hσ]; simp [upd, a0]
  have b1 : σ2 1 = some (.int h) := by rw [← hσ]; simp [upd, a1]
  have b3 : σ2 3 = some (.bool true) := by rw [← hσ]; simp [upd, a3, h3]
  have b4 : σ2 4 = some (DI (dabove V ds r0 h)) := by rw [← hσ]; simp [upd, a4]
  have b5 : σ2 5 = some (.bool false) := by rw [← hσ]; simp [upd]
  have b10 : σ2 10 = some (.int (dmin V ds r0 h)) := by rw [← hσ]; simp [upd, a10]
  have b12 : σ2 12 = some (DI2 (dwt V ds)) := by rw [← hσ]; simp [upd, a12]
  have hwl : (dwt V ds).length = V.length := by simp [dwt]
  have c2 := cmp b1 b4
  have fin : ∀ {σ : Sg} {t : Bool} {r : List Int}, σ 3 = some (.bool true) → σ 4 = some (DI r) → σ 5 = some (.bool t) → evSL d_own F mu (.cons (.ite (.bop true (.cons (.v 5) (.cons (.not (.v 3)) .nil))) (.cons X .nil) .nil) (.cons (.retO 4) .nil)) σ = some (.ret (DI r)) := fun {σ t r} h3 h4 h5 => by
    have c : ev d_own F false (.bop true (.cons (.v 5) (.cons (.not (.v 3)) .nil))) σ = some (.bool (t && false)) := by
      refine bop_and (by simp only [ev]; rw [if_neg (by decide), h5]) (fun _ => ?_) _
      simp only [ev]
      rw [if_neg (by decide), h3]; rfl
    rw [Bool.and_false] at c
    rw [evSL_nxt (σ' := σ) (by rw [e_ite_f c]; rfl)]
    exact evSL_ret (e_retO rfl h4)
  by_cases hlt : (dabove V ds r0 h).sum < h
  · rw [show decide ((dabove V ds r0 h).sum < h) = true from by simp [hlt]] at c2
    obtain ⟨σ3, e3, d3, d4, d5⟩ := d_loop_ev (F := F) hm (X := X) b0 b1 b3 b4 b5 b10 b12 hwl.symm (by rw [hwl]; have := hV.n5; omega) (by simp [dabove, hwl]) (.inl rfl)
    rw [evSL_nxt (σ' := σ3) (by rw [e_ite_t c2, evSL_nxt e3]; rfl), fin d3 d4 d5]
    unfold dres
    rw [if_pos hlt, hwl]
  · rw [show decide ((dabove V ds r0 h).sum < h) = false from by simp; omega] at c2
    rw [evSL_nxt (σ' := σ2) (by rw [e_ite_f c2]; rfl), fin b3 b4 b5]
    unfold dres
    rw [if_neg hlt]
end
end Mine
end

section
open PySem PySem.W PyProof.Rows
set_option maxRecDepth 100000
namespace Mine

/-! ## P6. The divisor methods: which seats are dealt -/
theorem map_range_getD {α β : Type} (l : List α) (d : α) (f : α → β) : (List.range l.length).map (fun i => f (l.getD i d)) = l.map f := by
  apply List.ext_getElem
  · simp
  · intro i h1 h2
    have hi : i < l.length := by simpa using h1
    simp [List.getD_eq_getElem?_getD, List.getElem?_eq_getElem hi]
theorem sum_map_add {α : Type} (f g : α → Int) : ∀ l : List α, (l.map fun x => f x + g x).sum = (l.map f).sum + (l.map g).sum
  | [] => rfl
  | x :: r => by simp only [List.map_cons, List.sum_cons, sum_map_add f g r]; omega
theorem sum_cast (l : List Nat) : (l.map fun (x : Nat) => (x : Int)).sum = ((l.sum : Nat) : Int) := by
  induction l with
  | nil => rfl
  | cons x r ih => simp only [List.map_cons, List.sum_cons, ih]; omega

/-- what the k-th greatest leaves above and at least -/
theorem kth {l : List Int} {k : Nat} (h1 : 1 ≤ k) (h2 : k ≤ l.length) : let M := (isort l).getD (l.length - k) 0
    l.countP (fun w => decide (M < w)) ≤ k - 1 ∧ k ≤ l.countP (fun w => decide (M ≤ w)) := by
  intro M
  have hs := isort_sorted l
  have hp := isort_perm l
  have hlen := isort_len l
  have hlt : l.length - k < (isort l).length := by omega
  have hM : M = (isort l)[l.length - k] := by
    show (isort l).getD (l.length - k) 0 = _
    rw [List.getD_eq_getElem?_getD, List.getElem?_eq_getElem hlt]; rfl
  rw [List.pairwise_iff_getElem] at hs
  rw [← hp.countP_eq, ← hp.countP_eq]
  constructor
  · rw [← List.take_append_drop (l.length - k + 1) (isort l), List.countP_append]
    have e1 : ((isort l).take (l.length - k + 1)).countP (fun w => decide (M < w)) = 0 := by
      rw [List.countP_eq_zero]
      intro w hw
      obtain ⟨i, hi, e⟩ := List.getElem_of_mem hw
      rw [List.length_take] at hi
      rw [List.getElem_take] at e
      have : w ≤ M := by
        rw [hM, ← e]
        by_cases h : i = l.length - k
        · subst h; exact Int.le_refl _
        · exact hs i (l.length - k) (by omega) hlt (by omega)
      simp; omega
    have e2 : ((isort l).drop (l.length - k + 1)).countP (fun w => decide (M < w)) ≤ ((isort l).drop (l.length - k + 1)).length := List.countP_le_length
    rw [List.length_drop] at e2
    omega
  · rw [← List.take_append_drop (l.length - k) (isort l), List.countP_append]
    have e1 : ((isort l).drop (l.length - k)).countP (fun w => decide (M ≤ w)) = ((isort l).drop (l.length - k)).length := by
      rw [List.countP_eq_length]
      intro w hw
      obtain ⟨i, hi, e⟩ := List.getElem_of_mem hw
      rw [List.length_drop] at hi
      rw [List.getElem_drop] at e
      have : M ≤ w := by
        rw [hM, ← e]
        by_cases h : i = 0
        · subst h; exact Int.le_refl _
        · exact hs (l.length - k) (l.length - k + i) hlt (by omega) (by omega)
      simpa using this
    rw [e1, List.length_drop]
    omega

/-- a row: strictly falling -/
theorem row_above {M : Int} : ∀ {w : List Int}, w.Pairwise (fun a b => b < a) → ∀ t, (h : t < w.length) → (t < w.countP (fun x => decide (M < x)) ↔ M < w[t])
  | [], _, t, h => by simp at h
  | x :: r, hp, t, h => by
    obtain ⟨h1, h2⟩ := List.pairwise_cons.mp hp
    by_cases hx : M < x
    · rw [List.countP_cons_of_pos (by simpa using hx)]
      cases t with
      | zero => simp [hx]
      | succ t =>
        have := row_above (M := M) h2 t (by simpa using h)
        simp only [List.getElem_cons_succ]
        omega
    · rw [List.countP_cons_of_neg (by simpa using hx)]
      have hz : r.countP (fun x => decide (M < x)) = 0 := by
        rw [List.countP_eq_zero]
        intro y hy
        have := h1 y hy
        simp; omega
      rw [hz]
      cases t with
      | zero => simp; omega
      | succ t =>
        simp only [List.getElem_cons_succ]
        have := h1 _ (List.getElem_mem (show t < r.length by simpa using h))
        omega
theorem row_has {M : Int} : ∀ {w : List Int}, w.Pairwise (fun a b => b < a) → (has M w = true ↔ ∃ h : w.countP (fun x => decide (M < x)) < w.length, w[w.countP (fun x => decide (M < x))] = M) := fun {w} hp => by
  constructor
  · intro h
    unfold has at h
    rw [List.any_eq_true] at h
    obtain ⟨x, hx, e⟩ := h
    have e : x = M := by simpa using e
    obtain ⟨t, ht, e2⟩ := List.getElem_of_mem hx
    have h1 := row_above (M := M) hp t ht
    rw [e2, e] at h1
    have ht' : ¬ t < w.countP (fun x => decide (M < x)) := fun z => by have := h1.mp z; omega
    have hle : w.countP (fun x => decide (M < x)) ≤ t := by omega
    by_cases hq : w.countP (fun x => decide (M < x)) = t
    · exact ⟨by omega, by simp only [hq]; rw [e2, e]⟩
    · exfalso
      have hlt : w.countP (fun x => decide (M < x)) < t := by omega
      have h2 := row_above (M := M) hp (w.countP (fun x => decide (M < x))) (by omega)
      have h3 : ¬ M < w[w.countP (fun x => decide (M < x))] := fun z => by have := h2.mpr z; omega
      have h4 := (List.pairwise_iff_getElem.mp hp) _ t (by omega) ht hlt
      rw [e2, e] at h4
      exact h3 h4
  · rintro ⟨h, e⟩
    unfold has
    rw [List.any_eq_true]
    exact ⟨_, List.getElem_mem h, by rw [e]; simp⟩
theorem row_ge {M : Int} {w : List Int} (hp : w.Pairwise (fun a b => b < a)) : w.countP (fun x => decide (M ≤ x)) = w.countP (fun x => decide (M < x)) + if has M w = true then 1 else 0 := by
  induction w with
  | nil => rfl
  | cons x r ih =>
    obtain ⟨h1, h2⟩ := List.pairwise_cons.mp hp
    have ih := ih h2
    have hcons : has M (x :: r) = ((x == M) || has M r) := by simp [has]
    by_cases hx : M < x
    · rw [List.countP_cons_of_pos (by simp; omega), List.countP_cons_of_pos (by simpa using hx), ih, hcons]
      have : (x == M) = false := by simp; omega
      rw [this, Bool.false_or]; omega
    · have hz : r.countP (fun x => decide (M < x)) = 0 := by
        rw [List.countP_eq_zero]; intro y hy; have := h1 y hy; simp; omega
      have hz' : r.countP (fun x => decide (M ≤ x)) = 0 := by
        rw [List.countP_eq_zero]; intro y hy; have := h1 y hy; simp; omega
      have hno : has M r = false := by
        rw [Bool.eq_false_iff]
        intro z
        unfold has at z
        rw [List.any_eq_true] at z
        obtain ⟨y, hy, e⟩ := z
        have := h1 y hy
        have e : y = M := by simpa using e
        omega
      rw [List.countP_cons_of_neg (p := fun x => decide (M < x)) (by simpa using hx), hz, hcons, hno, Bool.or_false]
      by_cases he : x = M
      · subst he
        rw [List.countP_cons_of_pos (by simp), hz']; simp
      · rw [List.countP_cons_of_neg (p := fun x => decide (M ≤ x)) (by simp; omega), hz']
        simp [he]

/-! the loop of the last seats -/
section
variable {W : List (List Int)} {M h : Int}
/-- how many of the first rows bear M -/
def bsum (W : List (List Int)) (M : Int) (k : Nat) : Nat := ((List.range k).filter fun i => has M (W.getD i [])).length
theorem bsum_succ (k : Nat) : bsum W M (k + 1) = bsum W M k + if has M (W.getD k []) = true then 1 else 0 := by
  unfold bsum
  rw [List.range_succ, List.filter_append, List.length_append]
  cases q : has M (W.getD k []) with
  | true => simp only [List.filter, q]; rfl
  | false => simp only [List.filter, q]; rfl
theorem bsum_mono {i j : Nat} (hij : i ≤ j) : bsum W M i ≤ bsum W M j := by
  induction j with
  | zero => have : i = 0 := by omega
            subst this; exact Nat.le_refl _
  | succ j ih =>
    by_cases q : i = j + 1
    · subst q; exact Nat.le_refl _
    · have := ih (by omega); rw [bsum_succ]; omega
def got (W : List (List Int)) (M h S : Int) (i : Nat) : Bool := has M (W.getD i []) && decide (S + bsum W M i < h)

theorem dfold_spec {r : List Int} (hS : r.sum < h) : ∀ k, k ≤ r.length → (dfold W M h k (r, false)).1.length = r.length ∧ (dfold W M h k (r, false)).1.sum = min h (r.sum + bsum W M k) ∧
    (∀ i, i < r.length → (dfold W M h k (r, false)).1.getD i 0 = r.getD i 0 + if (decide (i < k) && got W M h r.sum i) = true then 1 else 0) ∧
    ((dfold W M h k (r, false)).2 = true ↔ ∃ i, i < k ∧ has M (W.getD i []) = true ∧ ¬ (r.sum + bsum W M i < h))
  | 0, _ => ⟨rfl, by show r.sum = _; simp [bsum]; omega, fun i hi => by simp [dfold], by simp [dfold]⟩
  | k + 1, hk => by
    obtain ⟨i1, i2, i3, i4⟩ := dfold_spec hS k (by omega)
    have e : dfold W M h (k + 1) (r, false) = dturn W M h (dfold W M h k (r, false)) k := by unfold dfold; rw [List.range_succ, List.foldl_append]; rfl
    generalize hD : dfold W M h k (r, false) = Dk at i1 i2 i3 i4 e
    rw [e]
    have hb := bsum_succ (W := W) (M := M) k
    by_cases c : Dk.1.sum < h ∧ has M (W.getD k []) = true
    · have hlt : r.sum + bsum W M k < h := by clear i4; have := c.1; rw [i2] at this; omega
      have hs : Dk.1.sum = r.sum + bsum W M k := by clear i4; rw [i2]; omega
      have e1 : (dturn W M h Dk k).1 = Dk.1.set k (Dk.1.getD k 0 + 1) := by unfold dturn; rw [if_pos c]
      have e2 : (dturn W M h Dk k).2 = (Dk.2 || (Dk.1.sum == h && has M (W.getD k []))) := rfl
      have hkl : k < Dk.1.length := by clear i4; rw [i1]; omega
      refine ⟨by rw [e1]; simp [i1], ?_, fun i hi => ?_, ?_⟩
      · clear i4; rw [e1, sum_set hkl, hb, if_pos c.2]; omega
      · rw [e1]
        by_cases hik : i = k
        · subst hik
          have : (Dk.1.set i (Dk.1.getD i 0 + 1)).getD i 0 = Dk.1.getD i 0 + 1 := by simp [List.getD_eq_getElem?_getD, hkl]
          rw [this, i3 i hi]
          have hg : got W M h r.sum i = true := by unfold got; rw [c.2]; simpa using hlt
          rw [hg]
          simp
        · have : (Dk.1.set k (Dk.1.getD k 0 + 1)).getD i 0 = Dk.1.getD i 0 := by simp [List.getD_eq_getElem?_getD, List.getElem?_set, Ne.symm hik]
          rw [this, i3 i hi]
          have : decide (i < k + 1) = decide (i < k) := by clear i4; by_cases z : i < k <;> simp [z] <;> omega
          rw [this]
      · rw [e2]
        have : (Dk.1.sum == h) = false := by clear i4; simp; omega
        rw [this, Bool.false_and, Bool.or_false, i4]
        constructor
        · rintro ⟨i, a, b, d⟩; exact ⟨i, by omega, b, d⟩
        · rintro ⟨i, a, b, d⟩
          by_cases hik : i = k
          · subst hik; exact absurd hlt d
          · exact ⟨i, by omega, b, d⟩
    · have e1 : (dturn W M h Dk k).1 = Dk.1 := by unfold dturn; rw [if_neg c]
      have e2 : (dturn W M h Dk k).2 = (Dk.2 || (Dk.1.sum == h && has M (W.getD k []))) := rfl
      cases q : has M (W.getD k []) with
      | false =>
        refine ⟨by rw [e1, i1], ?_, fun i hi => ?_, ?_⟩
        · rw [e1, i2, hb, q]; simp
        · rw [e1, i3 i hi]
          by_cases hik : i = k
          · subst hik
            have hg : got W M h r.sum i = false := by unfold got; rw [q]; rfl
            rw [hg]; simp
          · have : decide (i < k + 1) = decide (i < k) := by clear i4; by_cases z : i < k <;> simp [z] <;> omega
            rw [this]
        · rw [e2, q, Bool.and_false, Bool.or_false, i4]
          constructor
          · rintro ⟨i, a, b, d⟩; exact ⟨i, by omega, b, d⟩
          · rintro ⟨i, a, b, d⟩
            by_cases hik : i = k
            · subst hik; rw [q] at b; cases b
            · exact ⟨i, by omega, b, d⟩
      | true =>
        have hge : ¬ Dk.1.sum < h := fun z => c ⟨z, q⟩
        have hge' : ¬ (r.sum + bsum W M k < h) := by clear i4; rw [i2] at hge; omega
        have hs : Dk.1.sum = h := by clear i4; rw [i2]; omega
        refine ⟨by rw [e1, i1], ?_, fun i hi => ?_, ?_⟩
        · rw [e1, i2, hb, q]; clear i4; simp only [if_true]; omega
        · rw [e1, i3 i hi]
          by_cases hik : i = k
          · subst hik
            have hg : got W M h r.sum i = false := by unfold got; rw [q]; simpa using hge'
            rw [hg]; simp
          · have : decide (i < k + 1) = decide (i < k) := by clear i4; by_cases z : i < k <;> simp [z] <;> omega
            rw [this]
        · rw [e2, q, hs]
          simp only [beq_self_eq_true, Bool.and_true, Bool.or_true, true_iff]
          exact ⟨k, by omega, q, hge'⟩
end
end Mine
end

section
open PySem PySem.W PyProof.Rows
set_option maxRecDepth 100000
namespace Mine

/-! ## Q1. Largest remainders: what the terms mean -/
def h_own : Nat → Bool := fun i => i == 4
def h_sum : T := (.bi .sum (.cons (.v 4) .nil))
def h_quo : T := (.comp (.tup (.cons (.op .mul (.bi .int (.cons (.v 9) .nil)) (.v 1)) (.cons (.bi .int (.cons (.bi .sum (.cons (.v 0) .nil)) .nil)) .nil))) (.cons (.v 9) (.t (.v 0)) .nil .nil))
def h_rep : T := (.comp (.op .fdiv (.idx (.v 10) (.k (.int 0))) (.idx (.v 10) (.k (.int 1)))) (.cons (.v 10) (.t (.v 3)) .nil .nil))
def h_rem : T := (.comp (.op .sub (.idx (.idx (.v 3) (.v 8)) (.k (.int 0))) (.op .mul (.idx (.v 4) (.v 8)) (.idx (.idx (.v 3) (.v 8)) (.k (.int 1))))) (.cons (.v 8) (.range1 (.bi .len (.cons (.v 0) .nil))) .nil .nil))
def h_cut : T := (.idx (.bi .sorted (.cons (.v 6) .nil)) (.op .sub (.bi .sum (.cons (.v 4) .nil)) (.v 1)))
def h_turn : SL := (.cons (.asg (.v 11) (.bi .sum (.cons (.v 4) .nil))) (.cons (.ite (.bop true (.cons (.cmp .eq (.v 11) (.v 1)) (.cons (.cmp .ge (.idx (.v 6) (.v 8)) (.v 7)) .nil))) (.cons (.ite (.not (.v 5)) (.cons (.asg (.v 5) (.k .tru)) .nil) .nil) .nil) (.cons (.ite (.bop true (.cons (.cmp .lt (.v 11) (.v 1)) (.cons (.cmp .gt (.idx (.v 6) (.v 8)) (.v 7)) .nil))) (.cons (.augI 4 (.v 8) (.k (.int 1))) .nil) (.cons (.ite (.bop true (.cons (.cmp .lt (.v 11) (.v 1)) (.cons (.cmp .eq (.idx (.v 6) (.v 8)) (.v 7)) .nil))) (.cons (.augI 4 (.v 8) (.k (.int 1))) .nil) .nil) .nil)) .nil)) .nil))
def h_core : SL := (.cons (.asg (.v 6) h_rem) (.cons (.asg (.v 7) h_cut) (.cons (.loop (.v 8) (.range1 (.bi .len (.cons (.v 0) .nil))) h_turn) .nil)))
def h_bodyX (X : TS) : SL := .cons (.ite (.cmp .eq (.v 1) (.k (.int 0))) (.cons .dead .nil) .nil) (.cons (.asg (.v 3) h_quo) (.cons (.own1 4 h_rep) (.cons (.asg (.v 5) (.k .fls)) (.cons (.ite (.cmp .lt h_sum (.v 1)) h_core .nil) (.cons (.ite (.bop true (.cons (.v 5) (.cons (.not (.v 2)) .nil))) (.cons X .nil) .nil) (.cons (.retO 4) .nil))))))
def h_body : SL := h_bodyX .raise

def hq (V : List Int) (h : Int) : List Int := V.map fun v => v * h / V.sum
def hr (V : List Int) (h : Int) : List Int := V.map fun v => v * h % V.sum
def hleft (V : List Int) (h : Int) : Int := h - (hq V h).sum
def hcut (V : List Int) (h : Int) : Int := (isort (hr V h)).getD (V.length - (hleft V h).toNat) 0
def hW (V : List Int) (h : Int) : List (List Int) := (hr V h).map fun r => if hcut V h ≤ r then [hcut V h] else []
def hD (V : List Int) (h : Int) : List Int × Bool := if (hq V h).sum < h then dfold (hW V h) (hcut V h) h V.length (hq V h, false) else (hq V h, false)

/-- votes as the laws build them -/
structure VOk' (V : List Int) : Prop where
  n1 : 1 ≤ V.length
  n40 : V.length ≤ 40
  lo : ∀ v ∈ V, 1 ≤ v
  hi : ∀ v ∈ V, v ≤ 2 ^ 50
theorem VOk'.sum {V : List Int} (h : VOk' V) : 1 ≤ V.sum ∧ V.sum ≤ 40 * 2 ^ 50 := by
  have a := sum_pos h.lo
  have b := sum_le h.hi
  have c := h.n1
  have d := h.n40
  refine ⟨by omega, ?_⟩
  have : (V.length : Int) * 2 ^ 50 ≤ 40 * 2 ^ 50 := Int.mul_le_mul_of_nonneg_right (by omega) (by decide)
  omega

theorem hW_has {V : List Int} {h : Int} {i : Nat} (hi : i < V.length) : has (hcut V h) ((hW V h).getD i []) = decide (hcut V h ≤ (hr V h).getD i 0) := by
  have hl : (hr V h).length = V.length := by simp [hr]
  have e : (hW V h).getD i [] = if hcut V h ≤ (hr V h).getD i 0 then [hcut V h] else [] := by
    unfold hW
    rw [List.getD_eq_getElem?_getD, List.getElem?_map, List.getElem?_eq_getElem (by rw [hl]; exact hi)]
    simp [List.getD_eq_getElem?_getD, List.getElem?_eq_getElem (show i < (hr V h).length by rw [hl]; exact hi)]
  rw [e]
  split
  · rename_i q; rw [decide_eq_true q]; simp [has]
  · rename_i q; rw [decide_eq_false q]; rfl

theorem hq_hr (V : List Int) (h : Int) (s : Int) : (V.map fun v => v * h / s).sum * s + (V.map fun v => v * h % s).sum = V.sum * h := by
  induction V with
  | nil => simp
  | cons v r ih =>
    simp only [List.map_cons, List.sum_cons]
    have e1 := Int.mul_ediv_add_emod (v * h) s
    rw [Int.mul_comm s] at e1
    rw [Int.add_mul, Int.add_mul]
    omega
theorem hleft_eq {V : List Int} {h : Int} : hleft V h * V.sum = (hr V h).sum := by
  have := hq_hr V h V.sum
  unfold hleft
  rw [Int.sub_mul]
  have e : V.sum * h = h * V.sum := Int.mul_comm _ _
  unfold hq hr
  omega
theorem hr_bd {V : List Int} {h : Int} (hV : 1 ≤ V.sum) : ∀ r ∈ hr V h, 0 ≤ r ∧ r < V.sum := fun r hr' => by
  obtain ⟨v, _, rfl⟩ := List.mem_map.mp hr'
  exact ⟨Int.emod_nonneg _ (by omega), Int.emod_lt_of_pos _ (by omega)⟩
theorem sum_lt_mul {l : List Int} {b : Int} (h : ∀ r ∈ l, r < b) (hn : l ≠ []) : l.sum < l.length * b := by
  induction l with
  | nil => exact absurd rfl hn
  | cons x r ih =>
    have h1 := h x List.mem_cons_self
    simp only [List.length_cons, List.sum_cons]
    have e : ((r.length + 1 : Nat) : Int) * b = r.length * b + b := by rw [Int.natCast_add, Int.add_mul]; simp
    by_cases hr : r = []
    · subst hr; simp; omega
    · have := ih (fun y m => h y (List.mem_cons_of_mem _ m)) hr; omega
theorem hleft_bd {V : List Int} {h : Int} (hV : 1 ≤ V.sum) : 0 ≤ hleft V h ∧ hleft V h < V.length := by
  have e := hleft_eq (V := V) (h := h)
  have b := hr_bd (h := h) hV
  have nn : 0 ≤ (hr V h).sum := sum_nonneg fun r m => (b r m).1
  have hne : hr V h ≠ [] := by
    intro z
    have : V = [] := by simpa [hr] using z
    rw [this] at hV; simp at hV
  have lt := sum_lt_mul (fun r m => (b r m).2) hne
  have hl : (hr V h).length = V.length := by simp [hr]
  rw [hl, ← e] at lt
  rw [← e] at nn
  constructor
  · by_cases z : hleft V h < 0
    · have := Int.mul_neg_of_neg_of_pos z (show (0 : Int) < V.sum by omega); omega
    · omega
  · exact Int.lt_of_mul_lt_mul_right lt (by omega)

section
variable {F : Fn} {mu : Nat → Bool}

theorem ev_v {own : Nat → Bool} {σ : Sg} {i : Nat} {d : D} {bw : Bool} (h : σ i = some d) (ho : own i = false) : ev own F bw (.v i) σ = some d := by
  unfold ev; rw [ho, Bool.false_and, if_neg (by decide), h]
theorem ev_vb {own : Nat → Bool} {σ : Sg} {i : Nat} {d : D} (h : σ i = some d) : ev own F true (.v i) σ = some d := by
  unfold ev; rw [Bool.not_true, Bool.and_false, if_neg (by decide), h]
theorem ev_cmp {own : Nat → Bool} {σ : Sg} {o : Cm} {a b : T} {x y : D} {c : Bool} {bw : Bool} (ha : ev own F true a σ = some x) (hb : ev own F true b σ = some y) (hc : cmD o x y = some c) : ev own F bw (.cmp o a b) σ = some (.bool c) := by
  unfold ev; rw [ha, hb]; simp only [Option.bind_some, hc, Option.map_some]
theorem ev_op {own : Nat → Bool} {σ : Sg} {o : Op2} {a b : T} {x y z : D} {bw : Bool} (ha : ev own F false a σ = some x) (hb : ev own F false b σ = some y) (hc : op2D o x y = some z) : ev own F bw (.op o a b) σ = some z := by
  unfold ev; rw [ha, hb]; simp only [Option.bind_some, hc]
theorem ev_idx {own : Nat → Bool} {σ : Sg} {a b : T} {x y z : D} {bw : Bool} (ha : ev own F true a σ = some x) (hb : ev own F false b σ = some y) (hc : idxD x y = some z) : ev own F bw (.idx a b) σ = some z := by
  unfold ev; rw [ha, hb]; simp only [Option.bind_some, hc]
theorem ev_bi1 {own : Nat → Bool} {σ : Sg} {o : Bi} {a : T} {x z : D} {bw : Bool} (ha : ev own F true a σ = some x) (hc : biD o [x] = some z) : ev own F bw (.bi o (.cons a .nil)) σ = some z := by
  unfold ev evL evL; rw [ha]; simp only [Option.bind_some, hc]
theorem ev_bi2 {own : Nat → Bool} {σ : Sg} {o : Bi} {a b : T} {x y z : D} {bw : Bool} (ha : ev own F true a σ = some x) (hb : ev own F true b σ = some y) (hc : biD o [x, y] = some z) : ev own F bw (.bi o (.cons a (.cons b .nil))) σ = some z := by
  unfold ev evL evL evL; rw [ha, hb]; simp only [Option.bind_some, hc]
theorem ev_k {own : Nat → Bool} {σ : Sg} {c : K} {bw : Bool} : ev own F bw (.k c) σ = some c.d := by unfold ev; rfl
theorem ev_tup2 {own : Nat → Bool} {σ : Sg} {a b : T} {x y : D} {bw : Bool} (ha : ev own F false a σ = some x) (hb : ev own F false b σ = some y) : ev own F bw (.tup (.cons a (.cons b .nil))) σ = some (.tup [x, y]) := by
  unfold ev evL evL evL; rw [ha, hb]; rfl
theorem ev_not {own : Nat → Bool} {σ : Sg} {a : T} {b : Bool} {bw : Bool} (ha : ev own F false a σ = some (.bool b)) : ev own F bw (.not a) σ = some (.bool !b) := by
  unfold ev; rw [ha]; rfl
theorem band {own : Nat → Bool} {a b : T} {σ : Sg} {x y : Bool} {bw : Bool} (ha : ev own F false a σ = some (.bool x)) (hb : x = true → ev own F false b σ = some (.bool y)) : ev own F bw (.bop true (.cons a (.cons b .nil))) σ = some (.bool (x && y)) := bop_and ha hb bw
theorem bor {own : Nat → Bool} {a b : T} {σ : Sg} {x y : Bool} {bw : Bool} (ha : ev own F false a σ = some (.bool x)) (hb : x = false → ev own F false b σ = some (.bool y)) : ev own F bw (.bop false (.cons a (.cons b .nil))) σ = some (.bool (x || y)) := bop_or ha hb bw

theorem h_turn_ev (hm : ∀ i, mu i = true) {W : List (List Int)} {R : List Int} {c h : Int} {r : List Int} {t : Bool} {i : Nat} {σ : Sg} (h1 : σ 1 = some (.int h)) (h4 : σ 4 = some (DI r)) (h5 : σ 5 = some (.bool t)) (h6 : σ 6 = some (DI R)) (h7 : σ 7 = some (.int c)) (h8 : σ 8 = some (.int (i : Int)))
    (hR : i < R.length) (hr : i < r.length) (hw : has c (W.getD i []) = decide (c ≤ R.getD i 0)) :
    ∃ σ', evSL h_own F mu h_turn σ = some (.nxt σ') ∧ σ' 4 = some (DI (dturn W c h (r, t) i).1) ∧ σ' 5 = some (.bool (dturn W c h (r, t) i).2) ∧ ∀ j, j ≠ 4 → j ≠ 5 → j ≠ 11 → σ' j = σ j := by
  unfold h_turn
  rw [evSL_nxt (e_asg (ev_bi1 (ev_vb h4) (bi_sum r)) rfl)]
  generalize hσ : upd σ 11 (.int r.sum) = σ1
  have sj : ∀ j, j ≠ 11 → σ1 j = σ j := fun j hj => by rw [← hσ]; simp [upd, hj]
  have a1 : σ1 1 = some (.int h) := by rw [sj 1 (by decide), h1]
  have a4 : σ1 4 = some (DI r) := by rw [sj 4 (by decide), h4]
  have a5 : σ1 5 = some (.bool t) := by rw [sj 5 (by decide), h5]
  have a6 : σ1 6 = some (DI R) := by rw [sj 6 (by decide), h6]
  have a7 : σ1 7 = some (.int c) := by rw [sj 7 (by decide), h7]
  have a8 : σ1 8 = some (.int (i : Int)) := by rw [sj 8 (by decide), h8]
  have a11 : σ1 11 = some (.int r.sum) := by rw [← hσ]; simp [upd]
  have ri : ∀ {bw}, ev h_own F bw (.idx (.v 6) (.v 8)) σ1 = some (.int (R.getD i 0)) := fun {bw} => ev_idx (ev_vb a6) (ev_v a8 rfl) (idx_DI hR)
  have c1 : ev h_own F false (.bop true (.cons (.cmp .eq (.v 11) (.v 1)) (.cons (.cmp .ge (.idx (.v 6) (.v 8)) (.v 7)) .nil))) σ1 = some (.bool ((r.sum == h) && decide (c ≤ R.getD i 0))) :=
    band (ev_cmp (ev_vb a11) (ev_vb a1) rfl) (fun _ => ev_cmp ri (ev_vb a7) rfl)
  have c2 : ev h_own F false (.bop true (.cons (.cmp .lt (.v 11) (.v 1)) (.cons (.cmp .gt (.idx (.v 6) (.v 8)) (.v 7)) .nil))) σ1 = some (.bool (decide (r.sum < h) && decide (c < R.getD i 0))) :=
    band (ev_cmp (ev_vb a11) (ev_vb a1) rfl) (fun _ => ev_cmp ri (ev_vb a7) rfl)
  have c3 : ev h_own F false (.bop true (.cons (.cmp .lt (.v 11) (.v 1)) (.cons (.cmp .eq (.idx (.v 6) (.v 8)) (.v 7)) .nil))) σ1 = some (.bool (decide (r.sum < h) && (R.getD i 0 == c))) :=
    band (ev_cmp (ev_vb a11) (ev_vb a1) rfl) (fun _ => ev_cmp ri (ev_vb a7) rfl)
  have aug : evS h_own F mu (.augI 4 (.v 8) (.k (.int 1))) σ1 = some (.nxt (upd σ1 4 (DI (r.set i (r.getD i 0 + 1))))) := by
    rw [e_augI (ds := r.map .int) (k := (i : Int)) (y := r.getD i 0) (b := 1) rfl (hm 4) a4 (ev_v a8 rfl) (by omega) (by simpa using hr) (by simp [List.getElem?_eq_getElem hr, List.getD_eq_getElem?_getD]) rfl]
    simp [DI]
  simp only [dturn, hw]
  by_cases g : c ≤ R.getD i 0
  · rw [decide_eq_true g] at c1 ⊢
    simp only [Bool.and_true, and_true] at c1 ⊢
    by_cases e : r.sum = h
    · have nlt : ¬ r.sum < h := by omega
      rw [if_neg nlt, show (r.sum == h) = true from by simpa using e] at *
      rw [evSL_nxt (σ' := upd σ1 5 (.bool true)) (by
        rw [e_ite_t c1]
        cases t with
        | true =>
          rw [evSL_nxt (σ' := σ1) (by rw [e_ite_f (ev_not (ev_v a5 rfl))]; rfl)]
          have : upd σ1 5 (.bool true) = σ1 := by funext j; simp only [upd]; split; { rename_i z; rw [z, a5] }; rfl
          rw [this]; rfl
        | false =>
          rw [evSL_nxt (σ' := upd σ1 5 (.bool true)) (by rw [e_ite_t (ev_not (ev_v a5 rfl)), evSL_nxt (e_asg ev_k rfl)]; rfl)]; rfl)]
      exact ⟨_, rfl, by simp [upd, a4], by simp [upd], fun j z1 z2 z3 => by simp [upd, z2, sj j z3]⟩
    · rw [show (r.sum == h) = false from by simpa using e] at *
      have e1 : evS h_own F mu (.ite (.bop true (.cons (.cmp .eq (.v 11) (.v 1)) (.cons (.cmp .ge (.idx (.v 6) (.v 8)) (.v 7)) .nil))) (.cons (.ite (.not (.v 5)) (.cons (.asg (.v 5) (.k .tru)) .nil) .nil) .nil) (.cons (.ite (.bop true (.cons (.cmp .lt (.v 11) (.v 1)) (.cons (.cmp .gt (.idx (.v 6) (.v 8)) (.v 7)) .nil))) (.cons (.augI 4 (.v 8) (.k (.int 1))) .nil) (.cons (.ite (.bop true (.cons (.cmp .lt (.v 11) (.v 1)) (.cons (.cmp .eq (.idx (.v 6) (.v 8)) (.v 7)) .nil))) (.cons (.augI 4 (.v 8) (.k (.int 1))) .nil) .nil) .nil)) .nil)) σ1
          = some (.nxt (if r.sum < h then upd σ1 4 (DI (r.set i (r.getD i 0 + 1))) else σ1)) := by
        rw [e_ite_f c1]
        by_cases lt : r.sum < h
        · rw [decide_eq_true lt, Bool.true_and] at c2 c3
          rw [if_pos lt]
          by_cases gt : c < R.getD i 0
          · rw [decide_eq_true gt] at c2
            rw [evSL_nxt (σ' := upd σ1 4 (DI (r.set i (r.getD i 0 + 1)))) (by rw [e_ite_t c2, evSL_nxt aug]; rfl)]; rfl
          · rw [decide_eq_false gt] at c2
            rw [show (R.getD i 0 == c) = true from beq_iff_eq.mpr (by omega)] at c3
            rw [evSL_nxt (σ' := upd σ1 4 (DI (r.set i (r.getD i 0 + 1)))) (by rw [e_ite_f c2, evSL_nxt (σ' := upd σ1 4 (DI (r.set i (r.getD i 0 + 1)))) (by rw [e_ite_t c3, evSL_nxt aug]; rfl)]; rfl)]; rfl
        · rw [decide_eq_false lt, Bool.false_and] at c2 c3
          rw [if_neg lt, evSL_nxt (σ' := σ1) (by rw [e_ite_f c2, evSL_nxt (σ' := σ1) (by rw [e_ite_f c3]; rfl)]; rfl)]; rfl
      rw [evSL_nxt e1]
      refine ⟨_, rfl, ?_, ?_, fun j z1 z2 z3 => ?_⟩
      · split <;> simp [upd, a4]
      · rw [Bool.or_false]; split <;> simp [upd, a5]
      · split <;> simp [upd, z1, sj j z3]
  · rw [decide_eq_false g] at c1 ⊢
    rw [decide_eq_false (show ¬ c < R.getD i 0 by omega)] at c2
    rw [show (R.getD i 0 == c) = false from beq_eq_false_iff_ne.mpr (by omega)] at c3
    simp only [Bool.and_false, and_false, Bool.false_eq_true, if_false, Bool.or_false] at c1 c2 c3 ⊢
    rw [evSL_nxt (σ' := σ1) (by rw [e_ite_f c1, evSL_nxt (σ' := σ1) (by rw [e_ite_f c2, evSL_nxt (σ' := σ1) (by rw [e_ite_f c3]; rfl)]; rfl)]; rfl)]
    exact ⟨σ1, rfl, by simp [a4], a5, fun j z1 z2 z3 => sj j z3⟩
end
end Mine
end

section
open PySem PySem.W PyProof.Rows
set_option maxRecDepth 100000
namespace Mine

/-! ## P7. The divisor methods: the outcome -/
theorem foldl_mul (l : List Int) : ∀ c : Int, l.foldl (fun c d => c * d) c = c * l.foldl (fun c d => c * d) 1 := by
  induction l with
  | nil => intro c; simp
  | cons x r ih => intro c; rw [List.foldl_cons, List.foldl_cons, ih (c * x), ih (1 * x)]; rw [Int.one_mul, Int.mul_assoc]
theorem dcommon_cons (x : Int) (r : List Int) : dcommon (x :: r) = x * dcommon r := by
  unfold dcommon; rw [List.foldl_cons, foldl_mul, Int.one_mul]
theorem dcommon_pos {l : List Int} (h : ∀ d ∈ l, 1 ≤ d) : 1 ≤ dcommon l := by
  induction l with
  | nil => decide
  | cons x r ih =>
    rw [dcommon_cons]
    have h1 := h x List.mem_cons_self
    have h2 := ih fun d m => h d (List.mem_cons_of_mem _ m)
    have : 1 * 1 ≤ x * dcommon r := Int.mul_le_mul h1 h2 (by decide) (by omega)
    simpa using this
theorem dcommon_dvd {l : List Int} : ∀ d ∈ l, d ∣ dcommon l := by
  induction l with
  | nil => intro d m; cases m
  | cons x r ih =>
    intro d m
    rw [dcommon_cons]
    rcases List.mem_cons.mp m with rfl | m
    · exact Int.dvd_mul_right _ _
    · exact Int.dvd_trans (ih d m) (Int.dvd_mul_left _ _)

def wgt (V ds : List Int) (i t : Nat) : Int := V.getD i 0 * 1 * dcommon ds / ds.getD t 0
theorem wgt_exact {V ds : List Int} (hd : ∀ d ∈ ds, 1 ≤ d) {i t : Nat} (ht : t < ds.length) : wgt V ds i t * ds.getD t 0 = V.getD i 0 * dcommon ds := by
  unfold wgt
  have hm := getD_mem ht
  rw [Int.mul_one]
  exact Int.ediv_mul_cancel (Int.dvd_trans (dcommon_dvd _ hm) (Int.dvd_mul_left _ _))
theorem cross_lt {x y d e p q C : Int} (h1 : x * d = p * C) (h2 : y * e = q * C) (hd : 0 < d) (he : 0 < e) (hC : 0 < C) : x < y ↔ p * e < q * d := by
  have hde : 0 < d * e := Int.mul_pos hd he
  have a : x * (d * e) = p * e * C := by rw [← Int.mul_assoc, h1, Int.mul_right_comm]
  have b : y * (d * e) = q * d * C := by rw [Int.mul_comm d e, ← Int.mul_assoc, h2, Int.mul_right_comm]
  constructor
  · intro h
    have := Int.mul_lt_mul_of_pos_right h hde
    rw [a, b] at this
    exact Int.lt_of_mul_lt_mul_right this (Int.le_of_lt hC)
  · intro h
    have := Int.mul_lt_mul_of_pos_right h hC
    rw [← a, ← b] at this
    exact Int.lt_of_mul_lt_mul_right this (Int.le_of_lt hde)
theorem cross_eq {x y d e p q C : Int} (h1 : x * d = p * C) (h2 : y * e = q * C) (hd : 0 < d) (he : 0 < e) (hC : 0 < C) : x = y ↔ p * e = q * d := by
  have a := cross_lt h1 h2 hd he hC
  have b := cross_lt h2 h1 he hd hC
  constructor
  · intro h
    have n1 : ¬ p * e < q * d := fun z => by have := a.mpr z; omega
    have n2 : ¬ q * d < p * e := fun z => by have := b.mpr z; omega
    omega
  · intro h
    have n1 : ¬ x < y := fun z => by have := a.mp z; omega
    have n2 : ¬ y < x := fun z => by have := b.mp z; omega
    omega

theorem dwt_row {V ds : List Int} {i : Nat} (hi : i < V.length) : (dwt V ds).getD i [] = ds.map fun d => V.getD i 0 * 1 * dcommon ds / d := by
  unfold dwt
  rw [List.getD_eq_getElem?_getD, List.getElem?_map, List.getElem?_eq_getElem hi]
  simp [List.getD_eq_getElem?_getD, List.getElem?_eq_getElem hi]
theorem dwt_get {V ds : List Int} {i t : Nat} (hi : i < V.length) (ht : t < ((dwt V ds).getD i []).length) : ((dwt V ds).getD i [])[t] = wgt V ds i t := by
  have hr := dwt_row (ds := ds) hi
  have ht' : t < ds.length := by rw [hr] at ht; simpa using ht
  have : ((dwt V ds).getD i [])[t]? = some (wgt V ds i t) := by
    rw [hr, List.getElem?_map, List.getElem?_eq_getElem ht']
    simp [wgt, List.getD_eq_getElem?_getD, List.getElem?_eq_getElem ht']
  rw [List.getElem?_eq_getElem ht] at this
  exact Option.some.inj this
theorem dwt_fall {V ds : List Int} (hV : ∀ v ∈ V, 1 ≤ v) (hd : ∀ d ∈ ds, 1 ≤ d) (hinc : ds.Pairwise (· < ·)) {i : Nat} (hi : i < V.length) : ((dwt V ds).getD i []).Pairwise (fun a b => b < a) := by
  rw [List.pairwise_iff_getElem]
  intro s t hs ht hst
  rw [dwt_get hi hs, dwt_get hi ht]
  have hr := dwt_row (ds := ds) hi
  have hs' : s < ds.length := by rw [hr] at hs; simpa using hs
  have ht' : t < ds.length := by rw [hr] at ht; simpa using ht
  have hv := hV _ (getD_mem hi)
  have d1 := hd _ (getD_mem hs')
  have d2 := hd _ (getD_mem ht')
  have hlt : ds.getD s 0 < ds.getD t 0 := by
    have := List.pairwise_iff_getElem.mp hinc s t hs' ht' hst
    simpa [List.getD_eq_getElem?_getD, List.getElem?_eq_getElem hs', List.getElem?_eq_getElem ht'] using this
  refine (cross_lt (wgt_exact hd ht') (wgt_exact hd hs') (by omega) (by omega) (by have := dcommon_pos hd; omega)).mpr ?_
  exact Int.mul_lt_mul_of_pos_left hlt (by omega)

theorem filter_len_sum {α : Type} (p : α → Bool) : ∀ l : List α, (l.filter p).length = (l.map fun x => if p x = true then 1 else 0).sum
  | [] => rfl
  | x :: r => by
    rw [List.filter_cons, List.map_cons, List.sum_cons, ← filter_len_sum p r]
    split <;> simp <;> omega
theorem sum_add_nat {α : Type} (f g : α → Nat) : ∀ l : List α, (l.map fun x => f x + g x).sum = (l.map f).sum + (l.map g).sum
  | [] => rfl
  | x :: r => by simp only [List.map_cons, List.sum_cons, sum_add_nat f g r]; omega
theorem sum_congr_nat {α : Type} {f g : α → Nat} : ∀ {l : List α}, (∀ x ∈ l, f x = g x) → (l.map f).sum = (l.map g).sum
  | [], _ => rfl
  | x :: r, h => by simp only [List.map_cons, List.sum_cons]; rw [h x List.mem_cons_self, sum_congr_nat fun y m => h y (List.mem_cons_of_mem _ m)]

/-- what a divisor method gives -/
structure DSpec (V ds r0 : List Int) (h : Int) (J : List Int) (tie : Bool) (c : Nat → Nat) : Prop where
  len : J.length = V.length
  sum : J.sum = h
  val : ∀ i, i < V.length → J.getD i 0 = r0.getD i 0 + c i ∧ c i ≤ ds.length
  ord : ∀ i j, i < V.length → j < V.length → 1 ≤ c i → c j < ds.length → V.getD j 0 * ds.getD (c i - 1) 0 < V.getD i 0 * ds.getD (c j) 0 ∨ (V.getD j 0 * ds.getD (c i - 1) 0 = V.getD i 0 * ds.getD (c j) 0 ∧ i < j ∧ tie = true)
  tied : tie = true → ∃ i j, i < j ∧ j < V.length ∧ 1 ≤ c i ∧ c j < ds.length ∧ V.getD j 0 * ds.getD (c i - 1) 0 = V.getD i 0 * ds.getD (c j) 0

theorem d_spec {V ds r0 : List Int} {h : Int} (hV : ∀ v ∈ V, 1 ≤ v) (hd : ∀ d ∈ ds, 1 ≤ d) (hinc : ds.Pairwise (· < ·)) (hr0 : r0.length = V.length) (hk : 1 ≤ h - r0.sum) (hk' : (h - r0.sum).toNat ≤ (dflat V ds).length) :
    (dabove V ds r0 h).sum < h ∧ ∃ c, DSpec V ds r0 h (dres V ds r0 h) (dfold (dwt V ds) (dmin V ds r0 h) h V.length (dabove V ds r0 h, false)).2 c := by
  have hwl : (dwt V ds).length = V.length := by simp [dwt]
  generalize hM : dmin V ds r0 h = M
  have hkth := kth (l := dflat V ds) (k := (h - r0.sum).toNat) (by omega) hk'
  have hM' : (isort (dflat V ds)).getD ((dflat V ds).length - (h - r0.sum).toNat) 0 = M := hM
  simp only [hM'] at hkth
  obtain ⟨q1, q2⟩ := hkth
  generalize hW : dwt V ds = W at hwl
  have hflat : dflat V ds = W.flatten := by rw [← hW]; rfl
  rw [hflat, List.countP_flatten] at q1 q2
  have q1 : (W.map fun w => w.countP (fun x => decide (M < x))).sum ≤ (h - r0.sum).toNat - 1 := q1
  have q2 : (h - r0.sum).toNat ≤ (W.map fun w => w.countP (fun x => decide (M ≤ x))).sum := q2
  have hfall : ∀ w ∈ W, w.Pairwise (fun a b => b < a) := fun w hw => by
    obtain ⟨i, hi, e⟩ := List.getElem_of_mem hw
    have hi' : i < V.length := by rw [← hwl]; exact hi
    have := dwt_fall hV hd hinc hi'
    rw [hW] at this
    simpa [List.getD_eq_getElem?_getD, List.getElem?_eq_getElem hi, e] using this
  have hge : (W.map fun w => w.countP (fun x => decide (M ≤ x))).sum = (W.map fun w => w.countP (fun x => decide (M < x))).sum + bsum W M V.length := by
    rw [sum_congr_nat fun w hw => row_ge (M := M) (hfall w hw), sum_add_nat]
    congr 1
    unfold bsum
    rw [filter_len_sum, ← hwl, map_range_getD W [] fun w => if has M w = true then 1 else 0]
  have hab : dabove V ds r0 h = (List.range V.length).map fun i => r0.getD i 0 + ((W.getD i []).countP (fun w => decide (M < w)) : Int) := by
    unfold dabove
    rw [hM, hW]
    apply List.map_congr_left
    intro i _
    rw [List.countP_eq_length_filter]
  generalize hR : dabove V ds r0 h = r at hab
  have hrlen : r.length = V.length := by rw [hab]; simp
  have hrsum : r.sum = r0.sum + ((W.map fun w => w.countP (fun x => decide (M < x))).sum : Nat) := by
    rw [hab, sum_map_add]
    congr 1
    · have := map_range_getD r0 0 (fun x : Int => x)
      rw [hr0] at this
      rw [this, List.map_id']
    · rw [← hwl, map_range_getD W [] fun w => ((w.countP (fun x => decide (M < x)) : Nat) : Int), ← sum_cast, List.map_map]
      rfl
  have hS : r.sum < h := by rw [hrsum]; omega
  obtain ⟨f1, f2, f3, f4⟩ := dfold_spec (W := W) (M := M) (h := h) (r := r) hS V.length (by rw [hrlen]; exact Nat.le_refl _)
  have hJ : dres V ds r0 h = (dfold W M h V.length (r, false)).1 := by
    unfold dres
    rw [hR, hM, hW, if_pos hS]
  refine ⟨hS, fun i => (W.getD i []).countP (fun w => decide (M < w)) + if got W M h r.sum i = true then 1 else 0, ?_⟩
  rw [hJ]
  generalize hD : dfold W M h V.length (r, false) = DD at f1 f2 f3 f4 ⊢
  have full : h ≤ r.sum + bsum W M V.length := by
    clear f4
    rw [hge] at q2; rw [hrsum]; omega
  have rowlen : ∀ i, i < V.length → (W.getD i []).length = ds.length := fun i hi => by rw [← hW, dwt_row hi]; simp
  have rowf : ∀ i, i < V.length → (W.getD i []).Pairwise (fun a b => b < a) := fun i hi => by rw [← hW]; exact dwt_fall hV hd hinc hi
  have rowget : ∀ i t, i < V.length → (ht : t < (W.getD i []).length) → (W.getD i [])[t] = wgt V ds i t := fun i t hi ht => by
    subst hW; exact dwt_get hi ht
  have cle : ∀ i, i < V.length → (W.getD i []).countP (fun w => decide (M < w)) + (if got W M h r.sum i = true then 1 else 0) ≤ ds.length := fun i hi => by
    have h1 : (W.getD i []).countP (fun w => decide (M < w)) ≤ (W.getD i []).length := List.countP_le_length
    rw [rowlen i hi] at h1
    split
    · rename_i hg
      unfold got at hg
      simp only [Bool.and_eq_true] at hg
      obtain ⟨h2, _⟩ := (row_has (rowf i hi)).mp hg.1
      rw [rowlen i hi] at h2; omega
    · omega
  -- the weight of the last seat dealt, of the next one
  have last : ∀ i, i < V.length → 1 ≤ (W.getD i []).countP (fun w => decide (M < w)) + (if got W M h r.sum i = true then 1 else 0) →
      (M < wgt V ds i ((W.getD i []).countP (fun w => decide (M < w)) + (if got W M h r.sum i = true then 1 else 0) - 1) ∨ (M = wgt V ds i ((W.getD i []).countP (fun w => decide (M < w)) + (if got W M h r.sum i = true then 1 else 0) - 1) ∧ got W M h r.sum i = true)) := fun i hi hc => by
    by_cases hg : got W M h r.sum i = true
    · right
      simp only [hg, if_true, Nat.add_sub_cancel] at hc ⊢
      refine ⟨?_, trivial⟩
      have hg' := hg
      unfold got at hg'
      simp only [Bool.and_eq_true] at hg'
      obtain ⟨h2, h3⟩ := (row_has (rowf i hi)).mp hg'.1
      rw [rowget i _ hi h2] at h3
      exact h3.symm
    · left
      have hg : got W M h r.sum i = false := by simpa using hg
      simp only [hg, Bool.false_eq_true, if_false, Nat.add_zero] at hc ⊢
      have hlt : (W.getD i []).countP (fun w => decide (M < w)) - 1 < (W.getD i []).length := by
        have : (W.getD i []).countP (fun w => decide (M < w)) ≤ (W.getD i []).length := List.countP_le_length
        clear f4; omega
      have := (row_above (M := M) (rowf i hi) _ hlt).mp (by clear f4; omega)
      rw [rowget i _ hi hlt] at this
      exact this
  have next : ∀ j, j < V.length → (W.getD j []).countP (fun w => decide (M < w)) + (if got W M h r.sum j = true then 1 else 0) < ds.length →
      (wgt V ds j ((W.getD j []).countP (fun w => decide (M < w)) + (if got W M h r.sum j = true then 1 else 0)) < M ∨ (wgt V ds j ((W.getD j []).countP (fun w => decide (M < w)) + (if got W M h r.sum j = true then 1 else 0)) = M ∧ has M (W.getD j []) = true ∧ ¬ (r.sum + bsum W M j < h))) := fun j hj hc => by
    have hl := rowlen j hj
    by_cases hg : got W M h r.sum j = true
    · left
      simp only [hg, if_true] at hc ⊢
      have hg' := hg
      unfold got at hg'
      simp only [Bool.and_eq_true] at hg'
      obtain ⟨h2, h3⟩ := (row_has (rowf j hj)).mp hg'.1
      have h4 : (W.getD j []).countP (fun w => decide (M < w)) + 1 < (W.getD j []).length := by rw [hl]; exact hc
      have := (List.pairwise_iff_getElem.mp (rowf j hj)) _ _ h2 h4 (Nat.lt_succ_self _)
      rw [h3, rowget j _ hj h4] at this
      exact this
    · have hg : got W M h r.sum j = false := by simpa using hg
      simp only [hg, Bool.false_eq_true, if_false, Nat.add_zero] at hc ⊢
      have h4 : (W.getD j []).countP (fun w => decide (M < w)) < (W.getD j []).length := by rw [hl]; exact hc
      have hn : ¬ M < (W.getD j [])[(W.getD j []).countP (fun w => decide (M < w))] := fun z => by
        have := (row_above (M := M) (rowf j hj) _ h4).mpr z
        exact Nat.lt_irrefl _ this
      rw [rowget j _ hj h4] at hn
      by_cases he : wgt V ds j ((W.getD j []).countP (fun w => decide (M < w))) = M
      · right
        have hh : has M (W.getD j []) = true := (row_has (rowf j hj)).mpr ⟨h4, by rw [rowget j _ hj h4]; exact he⟩
        refine ⟨he, hh, fun z => ?_⟩
        unfold got at hg
        rw [hh] at hg
        simp at hg
        clear f4; omega
      · left; clear f4; omega
  have Cpos := dcommon_pos hd
  refine ⟨by rw [f1, hrlen], ?_, fun i hi => ⟨?_, cle i hi⟩, fun i j hi hj ci cj => ?_, fun ht => ?_⟩
  · rw [f2]; clear f4; omega
  · rw [f3 i (by rw [hrlen]; exact hi)]
    have e1 : r.getD i 0 = r0.getD i 0 + ((W.getD i []).countP (fun w => decide (M < w)) : Int) := by rw [hab, getD_map_range hi]
    rw [e1]
    have : decide (i < V.length) = true := by simpa using hi
    rw [this, Bool.true_and]
    split <;> simp <;> (clear f4; omega)
  · have hci := cle i hi
    have t1 : (W.getD i []).countP (fun w => decide (M < w)) + (if got W M h r.sum i = true then 1 else 0) - 1 < ds.length := by clear f4; omega
    have x1 := wgt_exact (V := V) hd (i := j) cj
    have x2 := wgt_exact (V := V) hd (i := i) t1
    have p1 := hd _ (getD_mem cj)
    have p2 := hd _ (getD_mem t1)
    have key : wgt V ds j ((W.getD j []).countP (fun w => decide (M < w)) + (if got W M h r.sum j = true then 1 else 0)) < wgt V ds i ((W.getD i []).countP (fun w => decide (M < w)) + (if got W M h r.sum i = true then 1 else 0) - 1) ∨
        (wgt V ds j ((W.getD j []).countP (fun w => decide (M < w)) + (if got W M h r.sum j = true then 1 else 0)) = wgt V ds i ((W.getD i []).countP (fun w => decide (M < w)) + (if got W M h r.sum i = true then 1 else 0) - 1) ∧ i < j ∧ DD.2 = true) := by
      rcases last i hi ci with a | ⟨a, ga⟩ <;> rcases next j hj cj with b | ⟨b, hb, nb⟩
      · left; clear f4; omega
      · left; clear f4; omega
      · left; clear f4; omega
      · right
        refine ⟨b.trans a, ?_, f4.mpr ⟨j, hj, hb, nb⟩⟩
        unfold got at ga
        simp only [Bool.and_eq_true, decide_eq_true_eq] at ga
        have hlt : bsum W M i < bsum W M j := by clear f4; omega
        by_cases hij : i < j
        · exact hij
        · have := bsum_mono (W := W) (M := M) (show j ≤ i by clear f4; omega)
          clear f4; omega
    rcases key with a | ⟨a, b, t⟩
    · left; exact (cross_lt x1 x2 (by omega) (by omega) (by omega)).mp a
    · right; exact ⟨(cross_eq x1 x2 (by omega) (by omega) (by omega)).mp a, b, t⟩
  · obtain ⟨j, hj, hb, nb⟩ := f4.mp ht
    -- the first row that bears M got a seat
    have hbj : 0 < bsum W M j := by clear f4; omega
    have hex : ∃ i, i < j ∧ has M (W.getD i []) = true ∧ bsum W M i = 0 := by
      clear nb hb f4 hj
      induction j with
      | zero => simp [bsum] at hbj
      | succ j ih =>
        by_cases z : 0 < bsum W M j
        · obtain ⟨i, a, b⟩ := ih z; exact ⟨i, by omega, b⟩
        · rw [bsum_succ] at hbj
          have : has M (W.getD j []) = true := by
            by_cases q : has M (W.getD j []) = true
            · exact q
            · rw [if_neg q] at hbj; omega
          exact ⟨j, by omega, this, by omega⟩
    obtain ⟨i, hij, hi1, hi2⟩ := hex
    have hi : i < V.length := Nat.lt_trans hij hj
    have gi : got W M h r.sum i = true := by unfold got; rw [hi1, hi2]; simpa using hS
    have gj : got W M h r.sum j = false := by unfold got; rw [hb]; simp; clear f4; omega
    obtain ⟨u1, u2⟩ := (row_has (rowf i hi)).mp hi1
    obtain ⟨w1, w2⟩ := (row_has (rowf j hj)).mp hb
    rw [rowget i _ hi u1] at u2
    rw [rowget j _ hj w1] at w2
    rw [rowlen i hi] at u1
    rw [rowlen j hj] at w1
    refine ⟨i, j, hij, hj, by show 1 ≤ _ + (if got W M h r.sum i = true then 1 else 0); rw [if_pos gi]; clear f4; omega, by simp only [gj, Bool.false_eq_true, if_false, Nat.add_zero]; exact w1, ?_⟩
    simp only [gi, gj, if_true, Bool.false_eq_true, if_false, Nat.add_zero, Nat.add_sub_cancel]
    have x1 := wgt_exact (V := V) hd (i := j) w1
    have x2 := wgt_exact (V := V) hd (i := i) u1
    have p1 := hd _ (getD_mem w1)
    have p2 := hd _ (getD_mem u1)
    exact (cross_eq x1 x2 (by omega) (by omega) (by omega)).mp (by rw [w2, u2])
end Mine
end

section
open PySem PySem.W PyProof.Rows
set_option maxRecDepth 100000
namespace Mine

/-! ## Q2. Largest remainders, whole -/
section
variable {F : Fn} {mu : Nat → Bool}

theorem ev_lenV {own : Nat → Bool} {σ : Sg} {i : Nat} {V : List Int} {bw : Bool} (h : σ i = some (DI V)) : ev own F bw (.bi .len (.cons (.v i) .nil)) σ = some (.int V.length) := ev_bi1 (ev_vb h) (bi_len V)
theorem ev_sumV {own : Nat → Bool} {σ : Sg} {i : Nat} {V : List Int} {bw : Bool} (h : σ i = some (DI V)) : ev own F bw (.bi .sum (.cons (.v i) .nil)) σ = some (.int V.sum) := ev_bi1 (ev_vb h) (bi_sum V)
theorem sr_v {own : Nat → Bool} {σ : Sg} {i : Nat} {ds : List D} (h : σ i = some (.list ds)) (ho : own i = false) : evSr own F (.t (.v i)) σ = some ds := by
  unfold evSr; rw [ev_v h ho]; rfl

theorem h_loop_ev (hm : ∀ i, mu i = true) {V R : List Int} {W : List (List Int)} {c h : Int} {r : List Int} {ta : Bool} {σ : Sg} (h0 : σ 0 = some (DI V)) (h1 : σ 1 = some (.int h)) (h2 : σ 2 = some (.bool ta)) (h4 : σ 4 = some (DI r)) (h5 : σ 5 = some (.bool false)) (h6 : σ 6 = some (DI R)) (h7 : σ 7 = some (.int c))
    (hn : V.length ≤ 1000) (hR : R.length = V.length) (hr : r.length = V.length) (hw : ∀ i, i < V.length → has c (W.getD i []) = decide (c ≤ R.getD i 0)) :
    ∃ σ', evS h_own F mu (.loop (.v 8) (.range1 (.bi .len (.cons (.v 0) .nil))) h_turn) σ = some (.nxt σ') ∧ σ' 2 = some (.bool ta) ∧ σ' 4 = some (DI (dfold W c h V.length (r, false)).1) ∧ σ' 5 = some (.bool (dfold W c h V.length (r, false)).2) := by
  have flen : ∀ k, (dfold W c h k (r, false)).1.length = V.length := fun k => by
    unfold dfold
    induction k with
    | zero => exact hr
    | succ k ih =>
      rw [List.range_succ, List.foldl_append]
      simp only [List.foldl_cons, List.foldl_nil, dturn]
      split
      · simp [ih]
      · exact ih
  have succ : ∀ k, dfold W c h (k + 1) (r, false) = dturn W c h (dfold W c h k (r, false)) k := fun k => by
    unfold dfold
    rw [List.range_succ, List.foldl_append]; rfl
  have inv := loopF_inv (f := fun d σ => (bindP h_own (.v 8) d σ).bind fun σ' => evSL h_own F mu h_turn σ')
    (fun k σ' => σ' 1 = some (.int h) ∧ σ' 2 = some (.bool ta) ∧ σ' 4 = some (DI (dfold W c h k (r, false)).1) ∧ σ' 5 = some (.bool (dfold W c h k (r, false)).2) ∧ σ' 6 = some (DI R) ∧ σ' 7 = some (.int c)) (rng V.length) 0 σ ⟨h1, h2, h4, h5, h6, h7⟩ fun i σ' hi hI => by
      have hi' : i < V.length := by simpa [rng] using hi
      obtain ⟨a1, a2, a4, a5, a6, a7⟩ := hI
      simp only [Nat.zero_add] at a4 a5 ⊢
      obtain ⟨σ2, e, b4, b5, bj⟩ := h_turn_ev (F := F) hm (σ := upd σ' 8 (.int (i : Int))) (W := W) (R := R) (c := c) (h := h) (r := (dfold W c h i (r, false)).1) (t := (dfold W c h i (r, false)).2) (i := i) (by simp [upd, a1]) (by simp [upd, a4]) (by simp [upd, a5]) (by simp [upd, a6]) (by simp [upd, a7]) (by simp [upd]) (by omega) (by rw [flen]; exact hi') (hw i hi')
      refine ⟨σ2, .inl ?_, by rw [bj 1 (by decide) (by decide) (by decide)]; simp [upd, a1], by rw [bj 2 (by decide) (by decide) (by decide)]; simp [upd, a2], ?_, ?_, by rw [bj 6 (by decide) (by decide) (by decide)]; simp [upd, a6], by rw [bj 7 (by decide) (by decide) (by decide)]; simp [upd, a7]⟩
      · have : (rng V.length)[i] = D.int (i : Int) := by simp [rng]
        rw [this]
        simp only [bindP]
        rw [if_neg (by decide), Option.bind_some]
        exact e
      · rw [succ]; exact b4
      · rw [succ]; exact b5
  obtain ⟨σ', e, _, a2, a4, a5, _⟩ := inv
  have hrl : 0 + (rng V.length).length = V.length := by simp [rng]
  rw [hrl] at a4 a5
  refine ⟨σ', ?_, a2, a4, a5⟩
  simp only [evS]
  rw [t_range (ev_lenV h0) hn]
  simp only [Option.bind_some]
  exact e

def DQ (V : List Int) (h : Int) : D := .list (V.map fun v => D.tup [.int (v * h), .int V.sum])

theorem h_body_ev (hm : ∀ i, mu i = true) {X : TS} {V : List Int} {h : Int} {ta : Bool} (hV : VOk' V) (hh : 1 ≤ h) (hh' : h ≤ 1000) {σ : Sg} (h0 : σ 0 = some (DI V)) (h1 : σ 1 = some (.int h)) (h2 : σ 2 = some (.bool ta)) (hX : ta = true ∨ X = .raise) :
    evSL h_own F mu (h_bodyX X) σ = some (if (hD V h).2 && !ta then .ties else .ret (DI (hD V h).1)) := by
  have hs := hV.sum
  have n40 := hV.n40
  have n1 := hV.n1
  obtain ⟨lb1, lb2⟩ := hleft_bd (V := V) (h := h) hs.1
  unfold h_bodyX
  have c0 : ev h_own F false (.cmp .eq (.v 1) (.k (.int 0))) σ = some (.bool false) := by
    refine ev_cmp (ev_vb h1) ev_k ?_
    show some (h == 0) = some false
    rw [beq_eq_false_iff_ne.mpr (by omega)]
  rw [evSL_nxt (σ' := σ) (by rw [e_ite_f c0]; rfl)]
  have e3 : ev h_own F false h_quo σ = some (DQ V h) := by
    unfold h_quo
    rw [t_map (ds := V.map .int) (f := fun d => match d with | .int p => .tup [.int (p * h), .int V.sum] | d => d) rfl (sr_v h0 rfl) (fun d hd => ?_) (by simp [LB]; omega)]
    · simp [DQ]
    · obtain ⟨p, hp, rfl⟩ := List.mem_map.mp hd
      have v1 := hV.lo _ hp
      have v2 := hV.hi _ hp
      refine ev_tup2 (ev_op (x := .int p) (y := .int h) (ev_bi1 (x := .int p) (ev_vb (by simp [upd])) rfl) (ev_v (by simp [upd, h1]) rfl) (op_mul (.inr (small_of (by omega) (by omega))))) (ev_bi1 (x := .int V.sum) (ev_sumV (by simp [upd, h0])) rfl)
  rw [evSL_nxt (e_asg e3 rfl)]
  have e4 : ev h_own F false h_rep (upd σ 3 (DQ V h)) = some (DI (hq V h)) := by
    unfold h_rep
    rw [t_map (ds := V.map fun v => D.tup [.int (v * h), .int V.sum]) (f := fun d => match d with | .tup [.int a, .int b] => .int (a / b) | d => d) rfl (sr_v (by simp [upd, DQ]) rfl) (fun d hd => ?_) (by simp [LB]; omega)]
    · simp [DI, hq]
    · obtain ⟨p, hp, rfl⟩ := List.mem_map.mp hd
      refine ev_op (x := .int (p * h)) (y := .int V.sum) (ev_idx (x := .tup [.int (p * h), .int V.sum]) (ev_vb (by simp [upd])) ev_k (by simp [idxD, seqD, intD, place, K.d])) (ev_idx (x := .tup [.int (p * h), .int V.sum]) (ev_vb (by simp [upd])) ev_k (by simp [idxD, seqD, intD, place, K.d])) (op_fdiv (by omega) (small_of (by omega) (by omega)))
  rw [evSL_nxt (e_own1 e4 rfl (hm 4) rfl), evSL_nxt (e_asg (d := .bool false) ev_k rfl)]
  generalize hσ : upd (upd (upd σ 3 (DQ V h)) 4 (.list ((hq V h).map .int))) 5 (.bool false) = σ1
  have a0 : σ1 0 = some (DI V) := by rw [← hσ]; simp [upd, h0]
  have a1 : σ1 1 = some (.int h) := by rw [← hσ]; simp [upd, h1]
  have a2 : σ1 2 = some (.bool ta) := by rw [← hσ]; simp [upd, h2]
  have a3 : σ1 3 = some (DQ V h) := by rw [← hσ]; simp [upd]
  have a4 : σ1 4 = some (DI (hq V h)) := by rw [← hσ]; simp [upd, DI]
  have a5 : σ1 5 = some (.bool false) := by rw [← hσ]; simp [upd]
  have hql : (hq V h).length = V.length := by simp [hq]
  have hrl : (hr V h).length = V.length := by simp [hr]
  have fin : ∀ {σ : Sg} {t : Bool} {r : List Int}, σ 2 = some (.bool ta) → σ 4 = some (DI r) → σ 5 = some (.bool t) → evSL h_own F mu (.cons (.ite (.bop true (.cons (.v 5) (.cons (.not (.v 2)) .nil))) (.cons X .nil) .nil) (.cons (.retO 4) .nil)) σ = some (if t && !ta then .ties else .ret (DI r)) := fun {σ t r} h2 h4 h5 => by
    have c : ev h_own F false (.bop true (.cons (.v 5) (.cons (.not (.v 2)) .nil))) σ = some (.bool (t && !ta)) := band (ev_v h5 rfl) fun _ => ev_not (ev_v h2 rfl)
    cases q : (t && !ta) with
    | true =>
      rw [q] at c
      have hX : X = .raise := by
        rcases hX with z | z
        · rw [z] at q; simp at q
        · exact z
      subst hX
      unfold evSL
      rw [e_ite_t c]; rfl
    | false =>
      rw [q] at c
      rw [evSL_nxt (σ' := σ) (by rw [e_ite_f c]; rfl)]
      exact evSL_ret (e_retO rfl h4)
  have c1 : ev h_own F false (.cmp .lt h_sum (.v 1)) σ1 = some (.bool (decide ((hq V h).sum < h))) := ev_cmp (ev_sumV a4) (ev_vb a1) rfl
  unfold hD
  by_cases lt : (hq V h).sum < h
  · rw [decide_eq_true lt] at c1
    rw [if_pos lt]
    have e6 : ev h_own F false h_rem σ1 = some (DI (hr V h)) := by
      unfold h_rem
      rw [t_rangeMap (f := fun i => D.int ((hr V h).getD i 0)) rfl (ev_lenV a0) (by omega) fun i hi => ?_]
      · have := map_range_getD (hr V h) 0 D.int
        rw [hrl] at this
        rw [this]; rfl
      · have q0 : ∀ {bw}, ev h_own F bw (.idx (.v 3) (.v 8)) (upd σ1 8 (.int (i : Int))) = some (.tup [.int (V.getD i 0 * h), .int V.sum]) := fun {bw} => by
          refine ev_idx (ev_vb (d := DQ V h) (by simp [upd, a3])) (ev_v (d := .int (i : Int)) (by simp [upd]) rfl) ?_
          simp only [idxD, DQ, seqD, Option.bind_some, intD]
          have hp : place (V.map fun v => D.tup [.int (v * h), .int V.sum]).length (i : Int) = some i := by
            unfold place
            rw [if_pos (by omega), if_pos (by simp; omega)]; simp
          rw [hp, Option.bind_some, List.getElem?_map, List.getElem?_eq_getElem hi]
          simp [List.getD_eq_getElem?_getD, List.getElem?_eq_getElem hi]
        have vm := getD_mem hi
        have hx : (hr V h).getD i 0 = V.getD i 0 * h - V.getD i 0 * h / V.sum * V.sum := by
          unfold hr
          rw [getD_map hi, Int.emod_def, Int.mul_comm V.sum]
        rw [hx]
        refine ev_op (x := .int (V.getD i 0 * h)) (y := .int (V.getD i 0 * h / V.sum * V.sum)) (ev_idx q0 ev_k (by simp [idxD, seqD, intD, place, K.d])) (ev_op (x := .int (V.getD i 0 * h / V.sum)) (y := .int V.sum) (ev_idx (ev_vb (d := DI (hq V h)) (by simp [upd, a4])) (ev_v (d := .int (i : Int)) (by simp [upd]) rfl) ?_) (ev_idx q0 ev_k (by simp [idxD, seqD, intD, place, K.d])) (op_mul (.inr (small_of (by omega) (by omega))))) rfl
        rw [idx_DI (by rw [hql]; exact hi)]
        unfold hq
        rw [getD_map hi]
    have e7 : ev h_own F false h_cut (upd σ1 6 (DI (hr V h))) = some (.int (hcut V h)) := by
      unfold h_cut
      refine ev_idx (x := DI (isort (hr V h))) (y := .int ((hq V h).sum - h)) (ev_bi1 (x := DI (hr V h)) (ev_vb (by simp [upd])) ?_) (ev_op (x := .int (hq V h).sum) (y := .int h) (ev_sumV (by simp [upd, a4])) (ev_v (by simp [upd, a1]) rfl) rfl) ?_
      · simp only [biD, DI, listD, Option.bind_some, intsOf_map]
        rw [if_pos (by omega)]
      · unfold idxD
        simp only [DI, seqD, Option.bind_some, intD]
        unfold hleft at lb1 lb2
        have hp : place ((isort (hr V h)).map D.int).length ((hq V h).sum - h) = some (V.length - (h - (hq V h).sum).toNat) := by
          unfold place
          rw [if_neg (by omega), if_pos (by rw [List.length_map, isort_len]; omega), List.length_map, isort_len, hrl]
          congr 2; omega
        rw [hp, Option.bind_some, List.getElem?_map]
        have hlt : V.length - (h - (hq V h).sum).toNat < (isort (hr V h)).length := by rw [isort_len]; omega
        rw [List.getElem?_eq_getElem hlt]
        simp [hcut, hleft, List.getD_eq_getElem?_getD, List.getElem?_eq_getElem hlt]
    generalize hσ2 : upd (upd σ1 6 (DI (hr V h))) 7 (.int (hcut V h)) = σ2
    obtain ⟨σ3, e8, b2, b4, b5⟩ := h_loop_ev (F := F) (mu := mu) hm (V := V) (R := hr V h) (W := hW V h) (c := hcut V h) (h := h) (r := hq V h) (ta := ta) (σ := σ2) (by rw [← hσ2]; simp [upd, a0]) (by rw [← hσ2]; simp [upd, a1]) (by rw [← hσ2]; simp [upd, a2]) (by rw [← hσ2]; simp [upd, a4]) (by rw [← hσ2]; simp [upd, a5]) (by rw [← hσ2]; simp [upd]) (by rw [← hσ2]; simp [upd]) (by omega) hrl hql fun i hi => hW_has hi
    have core : evS h_own F mu (.ite (.cmp .lt h_sum (.v 1)) h_core .nil) σ1 = some (.nxt σ3) := by
      rw [e_ite_t c1]
      unfold h_core
      rw [evSL_nxt (e_asg e6 rfl), evSL_nxt (e_asg e7 rfl), hσ2, evSL_nxt e8]; rfl
    rw [evSL_nxt core, fin b2 b4 b5]
  · rw [decide_eq_false lt] at c1
    rw [if_neg lt, evSL_nxt (σ' := σ1) (by rw [e_ite_f c1]; rfl), fin a2 a4 a5]
end

/-- what largest remainders gives: one and the same round for all -/
structure HSpec (V : List Int) (h : Int) (S : List Int) (d : Int) : Prop where
  len : S.length = V.length
  sum : S.sum = h
  d0 : 0 ≤ d
  d1 : d ≤ V.sum
  val : ∀ i, i < V.length → S.getD i 0 = (V.getD i 0 * h + d) / V.sum

theorem h_spec {V : List Int} {h : Int} (hs : 1 ≤ V.sum) : if (hD V h).2 = true then 0 < hleft V h ∧ (isort (hr V h)).getD (V.length - (hleft V h).toNat) 0 = (isort (hr V h)).getD (V.length - 1 - (hleft V h).toNat) 0 else ∃ d, HSpec V h (hD V h).1 d := by
  obtain ⟨lb1, lb2⟩ := hleft_bd (V := V) (h := h) hs
  have hql : (hq V h).length = V.length := by simp [hq]
  have hrl : (hr V h).length = V.length := by simp [hr]
  unfold hD
  by_cases lt : (hq V h).sum < h
  · rw [if_pos lt]
    have hl : hleft V h = h - (hq V h).sum := rfl
    have hwl : (hW V h).length = V.length := by simp [hW, hr]
    obtain ⟨f1, f2, f3, f4⟩ := dfold_spec (W := hW V h) (M := hcut V h) (h := h) (r := hq V h) lt V.length (by rw [hql]; exact Nat.le_refl _)
    have hb : bsum (hW V h) (hcut V h) V.length = (hr V h).countP (fun w => decide (hcut V h ≤ w)) := by
      unfold bsum
      rw [filter_len_sum, sum_congr_nat (g := fun i => if decide (hcut V h ≤ (hr V h).getD i 0) = true then 1 else 0) fun i hi => by rw [hW_has (List.mem_range.mp hi)]]
      have := map_range_getD (hr V h) 0 fun w => if decide (hcut V h ≤ w) = true then 1 else 0
      rw [hrl] at this
      rw [this, List.countP_eq_length_filter, filter_len_sum]
    have hk := kth (l := hr V h) (k := (hleft V h).toNat) (by omega) (by omega)
    have hc : (isort (hr V h)).getD ((hr V h).length - (hleft V h).toNat) 0 = hcut V h := by rw [hrl]; rfl
    simp only [hc] at hk
    obtain ⟨k1, k2⟩ := hk
    by_cases ht : (dfold (hW V h) (hcut V h) h V.length (hq V h, false)).2 = true
    · rw [if_pos ht]
      refine ⟨by omega, ?_⟩
      obtain ⟨i, hi, hh, hn⟩ := f4.mp ht
      have hm := bsum_mono (W := hW V h) (M := hcut V h) (show i + 1 ≤ V.length by omega)
      rw [bsum_succ, if_pos hh, hb] at hm
      have hlen := isort_len (hr V h)
      have hlt1 : V.length - 1 - (hleft V h).toNat < (isort (hr V h)).length := by omega
      have hlt2 : V.length - (hleft V h).toNat < (isort (hr V h)).length := by omega
      have hso := List.pairwise_iff_getElem.mp (isort_sorted (hr V h))
      have hle := hso _ _ hlt1 hlt2 (by omega)
      have hc2 : hcut V h = (isort (hr V h))[V.length - (hleft V h).toNat] := by
        show (isort (hr V h)).getD (V.length - (hleft V h).toNat) 0 = _
        rw [List.getD_eq_getElem?_getD, List.getElem?_eq_getElem hlt2]; rfl
      rw [List.getD_eq_getElem?_getD, List.getD_eq_getElem?_getD, List.getElem?_eq_getElem hlt1, List.getElem?_eq_getElem hlt2]
      simp only [Option.getD_some]
      by_cases e : (isort (hr V h))[V.length - (hleft V h).toNat] = (isort (hr V h))[V.length - 1 - (hleft V h).toNat]
      · exact e
      · exfalso
        have hlt : (isort (hr V h))[V.length - 1 - (hleft V h).toNat] < hcut V h := by rw [hc2]; clear f4; omega
        have hcnt : (hr V h).countP (fun w => decide (hcut V h ≤ w)) ≤ (hleft V h).toNat := by
          rw [← (isort_perm (hr V h)).countP_eq, ← List.take_append_drop (V.length - (hleft V h).toNat) (isort (hr V h)), List.countP_append]
          have z1 : ((isort (hr V h)).take (V.length - (hleft V h).toNat)).countP (fun w => decide (hcut V h ≤ w)) = 0 := by
            rw [List.countP_eq_zero]
            intro w hw
            obtain ⟨j, hj, e⟩ := List.getElem_of_mem hw
            rw [List.length_take] at hj
            rw [List.getElem_take] at e
            have : w ≤ (isort (hr V h))[V.length - 1 - (hleft V h).toNat] := by
              rw [← e]
              by_cases z : j = V.length - 1 - (hleft V h).toNat
              · subst z; exact Int.le_refl _
              · exact hso j _ (by clear f4; omega) hlt1 (by clear f4; omega)
            simp; clear f4; omega
          have z2 : ((isort (hr V h)).drop (V.length - (hleft V h).toNat)).countP (fun w => decide (hcut V h ≤ w)) ≤ ((isort (hr V h)).drop (V.length - (hleft V h).toNat)).length := List.countP_le_length
          rw [List.length_drop] at z2
          clear f4; omega
        clear f4
        omega
    · rw [if_neg ht]
      have hno : ∀ i, i < V.length → has (hcut V h) ((hW V h).getD i []) = true → (hq V h).sum + bsum (hW V h) (hcut V h) i < h := fun i hi hh => by
        by_cases z : (hq V h).sum + bsum (hW V h) (hcut V h) i < h
        · exact z
        · exact absurd (f4.mpr ⟨i, hi, hh, z⟩) ht
      -- the cutoff
      have hr0 := hr_bd (V := V) (h := h) hs
      have cm : hcut V h ∈ hr V h := by
        have hlt : V.length - (hleft V h).toNat < (isort (hr V h)).length := by rw [isort_len]; clear f4; omega
        rw [← (isort_perm (hr V h)).mem_iff]
        unfold hcut
        exact getD_mem hlt
      have hcb := hr0 _ cm
      refine ⟨V.sum - hcut V h, ⟨by rw [f1, hql], ?_, by omega, by omega, fun i hi => ?_⟩⟩
      · rw [f2, hb]; clear f4; omega
      · rw [f3 i (by rw [hql]; exact hi)]
        have eg : got (hW V h) (hcut V h) h (hq V h).sum i = decide (hcut V h ≤ (hr V h).getD i 0) := by
          unfold got
          rw [hW_has hi]
          by_cases z : hcut V h ≤ (hr V h).getD i 0
          · rw [decide_eq_true z, Bool.true_and]
            exact decide_eq_true (hno i hi (by rw [hW_has hi]; exact decide_eq_true z))
          · rw [decide_eq_false z]; rfl
        rw [eg, decide_eq_true hi, Bool.true_and]
        have hx : (hr V h).getD i 0 = V.getD i 0 * h % V.sum := by unfold hr; rw [getD_map hi]
        have hy : (hq V h).getD i 0 = V.getD i 0 * h / V.sum := by unfold hq; rw [getD_map hi]
        have hb2 := hr0 _ (getD_mem (show i < (hr V h).length by rw [hrl]; exact hi))
        rw [hx] at hb2 ⊢
        rw [hy]
        generalize V.getD i 0 * h = a at hb2 ⊢
        generalize hcut V h = c at hcb ⊢
        have e1 := Int.mul_ediv_add_emod a V.sum
        clear f4
        have : a + (V.sum - c) = (a % V.sum + (V.sum - c)) + a / V.sum * V.sum := by rw [Int.mul_comm] at e1; omega
        rw [this, Int.add_mul_ediv_right _ _ (by omega)]
        split
        · rename_i q
          have q : c ≤ a % V.sum := by simpa using q
          have : (a % V.sum + (V.sum - c)) / V.sum = 1 := by
            have := Int.ediv_emod_unique (a := a % V.sum + (V.sum - c)) (b := V.sum) (r := a % V.sum - c) (q := 1) (by omega)
            exact (this.mpr ⟨by omega, by omega, by omega⟩).1
          omega
        · rename_i q
          have q : ¬ c ≤ a % V.sum := by simpa using q
          have : (a % V.sum + (V.sum - c)) / V.sum = 0 := Int.ediv_eq_zero_of_lt (by omega) (by omega)
          omega
  · rw [if_neg lt, if_neg (by simp)]
    unfold hleft at lb1
    refine ⟨0, hql, by show (hq V h).sum = h; omega, Int.le_refl _, by omega, fun i hi => ?_⟩
    show (hq V h).getD i 0 = _
    unfold hq
    rw [getD_map hi, Int.add_zero]
end Mine
end

section
open PySem PySem.W PyProof.Rows
set_option maxRecDepth 100000
namespace Mine

/-! ## Q3. Two elections by largest remainders -/
theorem div_lt_cross {a b V W : Int} (hV : 0 < V) (hW : 0 < W) (h : a / V < b / W) : a * W < b * V := by
  have e1 := Int.mul_ediv_add_emod a V
  have e2 := Int.mul_ediv_add_emod b W
  have r1 := Int.emod_lt_of_pos a hV
  have r2 := Int.emod_nonneg b (Int.ne_of_gt hW)
  have s1 : a < V * (a / V + 1) := by rw [Int.mul_add]; omega
  have s2 : W * (b / W) ≤ b := by omega
  have s3 : a * W < V * (a / V + 1) * W := Int.mul_lt_mul_of_pos_right s1 hW
  have s4 : W * (b / W) * V ≤ b * V := Int.mul_le_mul_of_nonneg_right s2 (by omega)
  have s5 : V * (a / V + 1) * W ≤ W * (b / W) * V := by
    have : V * (a / V + 1) * W = V * W * (a / V + 1) := by rw [Int.mul_right_comm]
    rw [this]
    have : W * (b / W) * V = V * W * (b / W) := by rw [Int.mul_right_comm, Int.mul_comm W V]
    rw [this]
    exact Int.mul_le_mul_of_nonneg_left (by omega) (Int.le_of_lt (Int.mul_pos hV hW))
  omega

section
variable {v t h h' V V' d d' : Int} (hV : 0 < V) (hV' : 0 < V')
include hV hV'
theorem hw_gain (hg : (v * h + d) / V < (t * v * h' + d') / V') : d * V' - d' * V < v * (t * h' * V - h * V') := by
  have := div_lt_cross hV hV' hg
  grind
theorem hw_loss (hg : (t * v * h' + d') / V' < (v * h + d) / V) : v * (t * h' * V - h * V') < d * V' - d' * V := by
  have := div_lt_cross hV' hV hg
  grind
theorem hw_least (v0 : 0 ≤ v) (g0 : 0 ≤ t * h' * V - h * V') (hd : d ≤ V) (hd' : 0 ≤ d') : -1 ≤ (t * v * h' + d') / V' - (v * h + d) / V := by
  refine Int.not_lt.mp fun z => ?_
  have e : (t * v * h' + d' + 1 * V') / V' = (t * v * h' + d') / V' + 1 := by rw [Int.add_mul_ediv_right _ _ (by omega)]
  have := div_lt_cross hV' hV (a := t * v * h' + d' + 1 * V') (b := v * h + d) (by rw [e]; omega)
  have p1 := Int.mul_nonneg v0 g0
  have p2 := Int.mul_nonneg hd' (Int.le_of_lt hV)
  have p3 := Int.mul_le_mul_of_nonneg_right hd (Int.le_of_lt hV')
  grind
theorem hw_most (v0 : 0 ≤ v) (g0 : t * h' * V - h * V' ≤ 0) (hd : 0 ≤ d) (hd' : d' ≤ V') : (t * v * h' + d') / V' - (v * h + d) / V ≤ 1 := by
  refine Int.not_lt.mp fun z => ?_
  have e : (v * h + d + 1 * V) / V = (v * h + d) / V + 1 := by rw [Int.add_mul_ediv_right _ _ (by omega)]
  have := div_lt_cross hV hV' (a := v * h + d + 1 * V) (b := t * v * h' + d') (by rw [e]; omega)
  have p1 := Int.mul_nonneg v0 (show 0 ≤ -(t * h' * V - h * V') by omega)
  have p2 := Int.mul_nonneg hd (Int.le_of_lt hV')
  have p3 := Int.mul_le_mul_of_nonneg_right hd' (Int.le_of_lt hV)
  grind
end

/-- told anew: who has more votes than before has no fewer seats -/
theorem hw_told_core {h V d d' v w u g : Int} (hh : 0 ≤ h) (hg : 0 ≤ g) (hu : 0 ≤ u) (hv : v ≤ V) (hw : w = v + g)
    (hl : (w * h + d') * V < (v * h + d) * (V + g)) (hi : (u * h + d) * (V + g) < (u * h + d') * V) : False := by
  have p : 0 ≤ h * (g * (V - v + u)) := Int.mul_nonneg hh (Int.mul_nonneg hg (by omega))
  subst hw
  grind

theorem sum_le_sum {l m : List Int} (hl : l.length = m.length) (h : ∀ i, i < l.length → l.getD i 0 ≤ m.getD i 0) : l.sum ≤ m.sum := by
  induction l generalizing m with
  | nil => cases m with
    | nil => exact Int.le_refl _
    | cons y q => simp at hl
  | cons x r ih =>
    cases m with
    | nil => simp at hl
    | cons y q =>
      have h0 := h 0 (by simp)
      simp only [List.getD_cons_zero] at h0
      have := ih (m := q) (by simpa using hl) fun i hi => by
        have := h (i + 1) (by simpa using hi)
        simpa using this
      simp only [List.sum_cons]; omega
theorem some_more {l m : List Int} (hl : l.length = m.length) (hs : l.sum = m.sum) {k : Nat} (hk : k < l.length) (h : m.getD k 0 < l.getD k 0) : ∃ i, i < l.length ∧ i ≠ k ∧ l.getD i 0 < m.getD i 0 := by
  refine Classical.byContradiction fun z => ?_
  have key : ∀ i, i < m.length → m.getD i 0 ≤ l.getD i 0 := fun i hi => by
    by_cases e : i = k
    · subst e; omega
    · refine Int.not_lt.mp fun q => z ⟨i, by omega, e, q⟩
  have s1 := sum_set (l := m) (k := k) (x := l.getD k 0) (by omega)
  have s2 := sum_le_sum (l := m.set k (l.getD k 0)) (m := l) (by simp [hl]) fun i hi => by
    have hi' : i < m.length := by simpa using hi
    by_cases e : i = k
    · subst e
      simp [List.getD_eq_getElem?_getD, hi']
    · have : (m.set k (l.getD k 0)).getD i 0 = m.getD i 0 := by simp [List.getD_eq_getElem?_getD, List.getElem?_set, Ne.symm e]
      rw [this]; exact key i hi'
  omega

theorem hw_told {V W S S' : List Int} {h d d' : Int} {k : Nat} (hh : 0 ≤ h) (s : HSpec V h S d) (s' : HSpec W h S' d') (hk : k < V.length) (hlen : W.length = V.length) (hoth : ∀ i, i < V.length → i ≠ k → W.getD i 0 = V.getD i 0)
    (hVp : ∀ v ∈ V, 1 ≤ v) (hWp : ∀ v ∈ W, 1 ≤ v) : 0 ≤ (S'.getD k 0 - S.getD k 0) * (W.getD k 0 - V.getD k 0) := by
  have sW : W.sum = V.sum + (W.getD k 0 - V.getD k 0) := by
    have e : W = V.set k (W.getD k 0) := by
      apply List.ext_getElem
      · simp [hlen]
      · intro i h1 h2
        have hi : i < V.length := by omega
        by_cases q : i = k
        · subst q
          simp [List.getD_eq_getElem?_getD, h1]
        · have := hoth i hi q
          simp only [List.getD_eq_getElem?_getD, List.getElem?_eq_getElem h1, List.getElem?_eq_getElem hi, Option.getD_some] at this
          rw [List.getElem_set_ne (Ne.symm q)]
          exact this
    have := sum_set (l := V) (k := k) (x := W.getD k 0) hk
    rw [← e] at this; omega
  have vp := hVp _ (getD_mem hk)
  have wp := hWp _ (getD_mem (show k < W.length by omega))
  have vle := le_sum (fun v m => by have := hVp v m; omega) _ (getD_mem hk)
  have wle := le_sum (fun v m => by have := hWp v m; omega) _ (getD_mem (show k < W.length by omega))
  have Vpos : 0 < V.sum := by omega
  have Wpos : 0 < W.sum := by omega
  have lS : S.length = S'.length := by rw [s.len, s'.len, hlen]
  by_cases hg : 0 ≤ W.getD k 0 - V.getD k 0
  · by_cases hx : S'.getD k 0 < S.getD k 0
    · exfalso
      obtain ⟨i, hi, ne, lt⟩ := some_more lS (by rw [s.sum, s'.sum]) (k := k) (by rw [s.len]; exact hk) hx
      have hi' : i < V.length := by rw [← s.len]; exact hi
      rw [s.val k hk, s'.val k (by omega)] at hx
      rw [s.val i hi', s'.val i (by omega), hoth i hi' ne] at lt
      have c1 := div_lt_cross Wpos Vpos hx
      have c2 := div_lt_cross Vpos Wpos lt
      have up := hVp _ (getD_mem hi')
      rw [sW] at c1 c2
      exact hw_told_core hh hg (by omega) vle (by omega) c1 c2
    · exact Int.mul_nonneg (by omega) hg
  · by_cases hx : S.getD k 0 < S'.getD k 0
    · exfalso
      obtain ⟨i, hi, ne, lt⟩ := some_more lS.symm (by rw [s.sum, s'.sum]) (k := k) (by rw [s'.len]; omega) hx
      have hi' : i < V.length := by rw [s'.len] at hi; omega
      rw [s.val k hk, s'.val k (by omega)] at hx
      rw [s.val i hi', s'.val i (by omega), hoth i hi' ne] at lt
      have c1 := div_lt_cross Vpos Wpos hx
      have c2 := div_lt_cross Wpos Vpos lt
      have up := hVp _ (getD_mem hi')
      have sV : V.sum = W.sum + (V.getD k 0 - W.getD k 0) := by omega
      rw [sV] at c1 c2
      exact hw_told_core hh (show 0 ≤ V.getD k 0 - W.getD k 0 by omega) (by omega) wle (by omega) c1 c2
    · have h1 : 0 ≤ S.getD k 0 - S'.getD k 0 := by omega
      have h2 : 0 ≤ V.getD k 0 - W.getD k 0 := by omega
      have := Int.mul_nonneg h1 h2
      have e : (S'.getD k 0 - S.getD k 0) * (W.getD k 0 - V.getD k 0) = (S.getD k 0 - S'.getD k 0) * (V.getD k 0 - W.getD k 0) := by grind
      omega
end Mine
end

section
open PySem PySem.W PyProof.Rows
set_option maxRecDepth 100000
namespace Mine

/-! ## Q4. All transfers go one way: the law's own check -/
def DP (P : List (Int × Int)) : D := .list (P.map fun p => D.tup [.int p.1, .int p.2])
def DSo (so : Option (List Int)) : D := match so with | none => .non | some S => DI S
def DE (P : List (Int × Int)) (h : Int) (so : Option (List Int)) : D := .tup [DP P, .int h, DSo so]
abbrev vts (P : List (Int × Int)) : List Int := P.map (·.2)

structure Elec (P : List (Int × Int)) (h : Int) (so : Option (List Int)) : Prop where
  ok : VOk' (vts P)
  n20 : P.length ≤ 20
  h1 : 1 ≤ h
  h2 : h ≤ 1000
  spec : ∀ S, so = some S → ∃ d, HSpec (vts P) h S d

def w_own : Nat → Bool := fun i => i == 4 || i == 5
def w_pat : PatL := (.cons (.tup (.cons (.v 9) (.cons (.v 10) (.cons (.v 11) .nil)))) (.cons (.tup (.cons (.v 12) (.cons (.v 13) (.cons (.v 14) .nil)))) .nil))
def w_sumP : T := (.bi .sum (.cons (.comp (.v 16) (.cons (.tup (.cons (.v 15) (.cons (.v 16) .nil))) (.t (.v 9)) .nil .nil)) .nil))
def w_sumO : T := (.bi .sum (.cons (.comp (.v 16) (.cons (.tup (.cons (.v 15) (.cons (.v 16) .nil))) (.t (.v 12)) .nil .nil)) .nil))
def w_app : SL := (.cons (.ownN [6, 7] (.cons (.bi .max2 (.cons (.v 6) (.cons (.op .sub (.v 17) (.v 8)) .nil))) (.cons (.bi .min2 (.cons (.v 7) (.cons (.op .sub (.v 17) (.v 8)) .nil))) .nil))) (.cons (.ite (.cmp .gt (.v 17) (.v 8)) (.cons (.app 4 (.v 16)) .nil) .nil) (.cons (.ite (.cmp .lt (.v 17) (.v 8)) (.cons (.app 5 (.v 16)) .nil) .nil) .nil)))
def w_in : SL := (.cons (.ite (.bop true (.cons (.cmp .eq (.v 18) (.v 15)) (.cons (.cmp .eq (.v 19) (.op .mul (.v 2) (.v 16))) .nil))) w_app .nil) .nil)
def w_out : SL := (.cons (.loop (.tup (.cons (.tup (.cons (.v 18) (.cons (.v 19) .nil))) (.cons (.v 17) .nil))) (.zip (.v 12) (.v 14)) w_in) .nil)
def w_bad : T := (.bop false (.cons (.bop true (.cons (.cmp .ge (.v 3) (.k (.int 0))) (.cons (.cmp .lt (.v 7) (.neg (.k (.int 1)))) .nil))) (.cons (.bop true (.cons (.cmp .le (.v 3) (.k (.int 0))) (.cons (.cmp .gt (.v 6) (.k (.int 1))) .nil))) .nil)))
def w_none : T := (.bop false (.cons (.cmp .eq (.v 4) (.list .nil)) (.cons (.cmp .eq (.v 5) (.list .nil)) .nil)))
def w_ans : T := (.bop false (.cons (.bop true (.cons (.cmp .gt (.v 3) (.k (.int 0))) (.cons (.cmp .gt (.bi .minL (.cons (.v 4) .nil)) (.bi .maxL (.cons (.v 5) .nil))) .nil))) (.cons (.bop true (.cons (.cmp .lt (.v 3) (.k (.int 0))) (.cons (.cmp .lt (.bi .maxL (.cons (.v 4) .nil)) (.bi .minL (.cons (.v 5) .nil))) .nil))) .nil)))
def w_body : SL := .cons (.asg (.tup w_pat) (.tup (.cons (.v 0) (.cons (.v 1) .nil)))) (.cons (.ite (.bop false (.cons (.isn true (.v 11)) (.cons (.isn true (.v 14)) .nil))) (.cons (.ret (.k .tru)) .nil) .nil) (.cons (.asg (.v 3) (.op .sub (.op .mul (.op .mul (.v 2) (.v 13)) w_sumP) (.op .mul (.v 10) w_sumO))) (.cons (.ownN [4, 5, 6, 7] (.cons (.list .nil) (.cons (.list .nil) (.cons (.k (.int 0)) (.cons (.k (.int 0)) .nil))))) (.cons (.loop (.tup (.cons (.tup (.cons (.v 15) (.cons (.v 16) .nil))) (.cons (.v 8) .nil))) (.zip (.v 9) (.v 11)) w_out) (.cons (.ite w_bad (.cons (.ret (.k .fls)) .nil) .nil) (.cons (.ite w_none (.cons (.ret (.k .tru)) .nil) .nil) (.cons (.ret w_ans) .nil)))))))

theorem zipD_len : ∀ (xs ys : List D), (zipD xs ys).length = min xs.length ys.length
  | x :: r, y :: q => by simp only [zipD, List.length_cons, zipD_len r q]; omega
  | [], _ => by simp [zipD]
  | _ :: _, [] => by simp [zipD]
theorem zipD_at : ∀ (xs ys : List D) (i : Nat) (h : i < (zipD xs ys).length) (h1 : i < xs.length) (h2 : i < ys.length), (zipD xs ys)[i] = .tup [xs[i], ys[i]]
  | x :: r, y :: q, 0, _, _, _ => rfl
  | x :: r, y :: q, i + 1, h, h1, h2 => zipD_at r q i (by simpa [zipD] using h) (by simpa using h1) (by simpa using h2)

section
variable {F : Fn}

theorem e_appI {own mu : Nat → Bool} {σ : Sg} {x : Nat} {e : T} {l : List Int} {i : Int} (ho : own x = true) (hm : mu x = true) (hx : σ x = some (DI l)) (he : ev own F false e σ = some (.int i)) (hl : l.length + 1 ≤ 1000) : evS own F mu (.app x e) σ = some (.nxt (upd σ x (DI (l ++ [i])))) := by
  have : (l.map D.int).length + 1 ≤ LB := by rw [List.length_map]; exact hl
  unfold evS
  rw [ho, hm, hx, he]
  simp only [Bool.and_true, if_true, Option.bind_some, DI, listD]
  rw [if_pos this]
  simp

/-- what the law keeps of the transfers -/
structure WI (σ : Sg) (g e : Int) (b : Nat) : Prop where
  ex : ∃ (gs ls : List Int) (mo le : Int), σ 4 = some (DI gs) ∧ σ 5 = some (DI ls) ∧ σ 6 = some (.int mo) ∧ σ 7 = some (.int le) ∧ gs.length ≤ b ∧ ls.length ≤ b ∧ (∀ v ∈ gs, e < v * g) ∧ (∀ v ∈ ls, v * g < e) ∧ (g ≤ 0 → mo ≤ 1) ∧ (0 ≤ g → -1 ≤ le)

theorem w_in_ev {σ : Sg} {g e : Int} {b : Nat} {who v had name num hs t : Int} (I : WI σ g e b) (hb : b + 1 ≤ 1000) (h2 : σ 2 = some (.int t)) (h8 : σ 8 = some (.int had)) (h15 : σ 15 = some (.int who)) (h16 : σ 16 = some (.int v)) (h17 : σ 17 = some (.int hs)) (h18 : σ 18 = some (.int name)) (h19 : σ 19 = some (.int num)) (ht : small t = true)
    (mg : num = t * v → had < hs → e < v * g) (ml : num = t * v → hs < had → v * g < e) (mm : num = t * v → g ≤ 0 → hs - had ≤ 1) (mn : num = t * v → 0 ≤ g → -1 ≤ hs - had) :
    ∃ σ', evSL w_own F (fun _ => true) w_in σ = some (.nxt σ') ∧ WI σ' g e (b + 1) ∧ ∀ j, j ≠ 4 → j ≠ 5 → j ≠ 6 → j ≠ 7 → σ' j = σ j := by
  obtain ⟨gs, ls, mo, le, a4, a5, a6, a7, b1, b2, b3, b4, b5, b6⟩ := I.ex
  unfold w_in
  have c : ev w_own F false (.bop true (.cons (.cmp .eq (.v 18) (.v 15)) (.cons (.cmp .eq (.v 19) (.op .mul (.v 2) (.v 16))) .nil))) σ = some (.bool ((name == who) && (num == t * v))) :=
    band (ev_cmp (ev_vb h18) (ev_vb h15) rfl) fun _ => ev_cmp (y := .int (t * v)) (ev_vb h19) (ev_op (ev_v h2 rfl) (ev_v h16 rfl) (op_mul (.inl ht))) rfl
  cases q : ((name == who) && (num == t * v)) with
  | false =>
    rw [q] at c
    rw [evSL_nxt (σ' := σ) (by rw [e_ite_f c]; rfl)]
    exact ⟨σ, rfl, ⟨gs, ls, mo, le, a4, a5, a6, a7, by omega, by omega, b3, b4, b5, b6⟩, fun _ _ _ _ _ => rfl⟩
  | true =>
    rw [q] at c
    have hnum : num = t * v := by
      rw [Bool.and_eq_true] at q
      exact beq_iff_eq.mp q.2
    have mg := mg hnum
    have ml := ml hnum
    have mm := mm hnum
    have mn := mn hnum
    have sub : ∀ {bw}, ev w_own F bw (.op .sub (.v 17) (.v 8)) σ = some (.int (hs - had)) := ev_op (ev_v h17 rfl) (ev_v h8 rfl) rfl
    have e1 : evS w_own F (fun _ => true) (.ownN [6, 7] (.cons (.bi .max2 (.cons (.v 6) (.cons (.op .sub (.v 17) (.v 8)) .nil))) (.cons (.bi .min2 (.cons (.v 7) (.cons (.op .sub (.v 17) (.v 8)) .nil))) .nil))) σ = some (.nxt (upd (upd σ 6 (.int (if hs - had > mo then hs - had else mo))) 7 (.int (if hs - had < le then hs - had else le)))) := by
      have x1 : ev w_own F false (.bi .max2 (.cons (.v 6) (.cons (.op .sub (.v 17) (.v 8)) .nil))) σ = some (.int (if hs - had > mo then hs - had else mo)) := ev_bi2 (ev_vb a6) sub rfl
      have x2 : ev w_own F false (.bi .min2 (.cons (.v 7) (.cons (.op .sub (.v 17) (.v 8)) .nil))) σ = some (.int (if hs - had < le then hs - had else le)) := ev_bi2 (ev_vb a7) sub rfl
      unfold evS
      rw [if_pos (by rfl)]
      simp only [evL, x1, x2, Option.bind_some]
      rfl
    generalize hσ : upd (upd σ 6 (.int (if hs - had > mo then hs - had else mo))) 7 (.int (if hs - had < le then hs - had else le)) = σ1 at e1
    have sj : ∀ j, j ≠ 6 → j ≠ 7 → σ1 j = σ j := fun j p1 p2 => by rw [← hσ]; simp [upd, p1, p2]
    have k6 : σ1 6 = some (.int (if hs - had > mo then hs - had else mo)) := by rw [← hσ]; simp [upd]
    have k7 : σ1 7 = some (.int (if hs - had < le then hs - had else le)) := by rw [← hσ]; simp [upd]
    have k4 : σ1 4 = some (DI gs) := by rw [sj 4 (by decide) (by decide), a4]
    have k5 : σ1 5 = some (DI ls) := by rw [sj 5 (by decide) (by decide), a5]
    have k8 : σ1 8 = some (.int had) := by rw [sj 8 (by decide) (by decide), h8]
    have k16 : σ1 16 = some (.int v) := by rw [sj 16 (by decide) (by decide), h16]
    have k17 : σ1 17 = some (.int hs) := by rw [sj 17 (by decide) (by decide), h17]
    have c1 : ev w_own F false (.cmp .gt (.v 17) (.v 8)) σ1 = some (.bool (decide (had < hs))) := ev_cmp (ev_vb k17) (ev_vb k8) rfl
    have s1 : ∃ σ2 gs', evS w_own F (fun _ => true) (.ite (.cmp .gt (.v 17) (.v 8)) (.cons (.app 4 (.v 16)) .nil) .nil) σ1 = some (.nxt σ2) ∧ σ2 4 = some (DI gs') ∧ gs'.length ≤ b + 1 ∧ (∀ v ∈ gs', e < v * g) ∧ ∀ j, j ≠ 4 → σ2 j = σ1 j := by
      by_cases p : had < hs
      · rw [decide_eq_true p] at c1
        refine ⟨upd σ1 4 (DI (gs ++ [v])), gs ++ [v], by rw [e_ite_t c1, evSL_nxt (e_appI rfl rfl k4 (ev_v k16 rfl) (by omega))]; rfl, by simp [upd], by simp; omega, fun x hx => ?_, fun j hj => by simp [upd, hj]⟩
        rcases List.mem_append.mp hx with m | m
        · exact b3 x m
        · rw [List.mem_singleton] at m; subst m; exact mg p
      · rw [decide_eq_false p] at c1
        exact ⟨σ1, gs, by rw [e_ite_f c1]; rfl, k4, by omega, b3, fun _ _ => rfl⟩
    obtain ⟨σ2, gs', e2, m4, mb, mgs, mj⟩ := s1
    have c2 : ev w_own F false (.cmp .lt (.v 17) (.v 8)) σ2 = some (.bool (decide (hs < had))) := ev_cmp (ev_vb (by rw [mj 17 (by decide)]; exact k17)) (ev_vb (by rw [mj 8 (by decide)]; exact k8)) rfl
    have s2 : ∃ σ3 ls', evS w_own F (fun _ => true) (.ite (.cmp .lt (.v 17) (.v 8)) (.cons (.app 5 (.v 16)) .nil) .nil) σ2 = some (.nxt σ3) ∧ σ3 5 = some (DI ls') ∧ ls'.length ≤ b + 1 ∧ (∀ v ∈ ls', v * g < e) ∧ ∀ j, j ≠ 5 → σ3 j = σ2 j := by
      by_cases p : hs < had
      · rw [decide_eq_true p] at c2
        refine ⟨upd σ2 5 (DI (ls ++ [v])), ls ++ [v], by rw [e_ite_t c2, evSL_nxt (e_appI rfl rfl (by rw [mj 5 (by decide)]; exact k5) (ev_v (by rw [mj 16 (by decide)]; exact k16) rfl) (by omega))]; rfl, by simp [upd], by simp; omega, fun x hx => ?_, fun j hj => by simp [upd, hj]⟩
        rcases List.mem_append.mp hx with m | m
        · exact b4 x m
        · rw [List.mem_singleton] at m; subst m; exact ml p
      · rw [decide_eq_false p] at c2
        exact ⟨σ2, ls, by rw [e_ite_f c2]; rfl, by rw [mj 5 (by decide)]; exact k5, by omega, b4, fun _ _ => rfl⟩
    obtain ⟨σ3, ls', e3, n5, nb, nls, nj⟩ := s2
    have e4 : evS w_own F (fun _ => true) (.ite (.bop true (.cons (.cmp .eq (.v 18) (.v 15)) (.cons (.cmp .eq (.v 19) (.op .mul (.v 2) (.v 16))) .nil))) w_app .nil) σ = some (.nxt σ3) := by
      rw [e_ite_t c]
      unfold w_app
      rw [evSL_nxt e1, evSL_nxt e2, evSL_nxt e3]; rfl
    rw [evSL_nxt e4]
    refine ⟨σ3, rfl, ⟨gs', ls', _, _, by rw [nj 4 (by decide)]; exact m4, n5, by rw [nj 6 (by decide), mj 6 (by decide)]; exact k6, by rw [nj 7 (by decide), mj 7 (by decide)]; exact k7, mb, nb, mgs, nls, fun z => ?_, fun z => ?_⟩, fun j p4 p5 p6 p7 => by rw [nj j p5, mj j p4, sj j p6 p7]⟩
    · have := mm z; have := b5 z; split <;> omega
    · have := mn z; have := b6 z; split <;> omega

theorem DP_len (P : List (Int × Int)) : (P.map fun p => D.tup [.int p.1, .int p.2]).length = P.length := by simp
theorem w_loop_out {P Q : List (Int × Int)} {S S' : List Int} {g e t : Int} {σ : Sg} (hS : S.length = P.length) (hS' : S'.length = Q.length) (hP : P.length ≤ 20) (hQ : Q.length ≤ 20) (ht : small t = true) (I : WI σ g e 0) (h2 : σ 2 = some (.int t))
    (h9 : σ 9 = some (DP P)) (h11 : σ 11 = some (DI S)) (h12 : σ 12 = some (DP Q)) (h14 : σ 14 = some (DI S'))
    (M : ∀ i j, (hi : i < P.length) → (hj : j < Q.length) → (Q[j]).2 = t * (P[i]).2 → (S.getD i 0 < S'.getD j 0 → e < (P[i]).2 * g) ∧ (S'.getD j 0 < S.getD i 0 → (P[i]).2 * g < e) ∧ (g ≤ 0 → S'.getD j 0 - S.getD i 0 ≤ 1) ∧ (0 ≤ g → -1 ≤ S'.getD j 0 - S.getD i 0)) :
    ∃ σ', evS w_own F (fun _ => true) (.loop (.tup (.cons (.tup (.cons (.v 15) (.cons (.v 16) .nil))) (.cons (.v 8) .nil))) (.zip (.v 9) (.v 11)) w_out) σ = some (.nxt σ') ∧ WI σ' g e 400 ∧ σ' 3 = σ 3 := by
  have zl : (zipD (P.map fun p => D.tup [.int p.1, .int p.2]) (S.map .int)).length = P.length := by rw [zipD_len]; simp [hS]
  have zl' : (zipD (Q.map fun p => D.tup [.int p.1, .int p.2]) (S'.map .int)).length = Q.length := by rw [zipD_len]; simp [hS']
  have inv := loopF_inv (f := fun d σ => (bindP w_own (.tup (.cons (.tup (.cons (.v 15) (.cons (.v 16) .nil))) (.cons (.v 8) .nil))) d σ).bind fun σ' => evSL w_own F (fun _ => true) w_out σ')
    (fun k σ' => WI σ' g e (20 * k) ∧ σ' 2 = some (.int t) ∧ σ' 3 = σ 3 ∧ σ' 12 = some (DP Q) ∧ σ' 14 = some (DI S')) (zipD (P.map fun p => D.tup [.int p.1, .int p.2]) (S.map .int)) 0 σ ⟨I, h2, rfl, h12, h14⟩ fun i σ' hi hI => by
      have hi' : i < P.length := by rw [← zl]; exact hi
      obtain ⟨J, j2, j3, j12, j14⟩ := hI
      simp only [Nat.zero_add] at J ⊢
      have hget : (zipD (P.map fun p => D.tup [.int p.1, .int p.2]) (S.map .int))[i] = .tup [.tup [.int (P[i]).1, .int (P[i]).2], .int (S.getD i 0)] := by
        rw [zipD_at _ _ i hi (by simpa using hi') (by simpa [hS] using hi')]
        simp [List.getD_eq_getElem?_getD, List.getElem?_eq_getElem (show i < S.length by omega)]
      rw [hget]
      have hb : bindP w_own (.tup (.cons (.tup (.cons (.v 15) (.cons (.v 16) .nil))) (.cons (.v 8) .nil))) (.tup [.tup [.int (P[i]).1, .int (P[i]).2], .int (S.getD i 0)]) σ' = some (upd (upd (upd σ' 15 (.int (P[i]).1)) 16 (.int (P[i]).2)) 8 (.int (S.getD i 0))) := rfl
      rw [hb, Option.bind_some]
      generalize hσ : upd (upd (upd σ' 15 (.int (P[i]).1)) 16 (.int (P[i]).2)) 8 (.int (S.getD i 0)) = σ1
      have sj : ∀ j, j ≠ 15 → j ≠ 16 → j ≠ 8 → σ1 j = σ' j := fun j a b c => by rw [← hσ]; simp [upd, a, b, c]
      have J1 : WI σ1 g e (20 * i) := by
        obtain ⟨gs, ls, mo, le, a4, a5, a6, a7, r⟩ := J.ex
        exact ⟨gs, ls, mo, le, by rw [sj 4 (by decide) (by decide) (by decide)]; exact a4, by rw [sj 5 (by decide) (by decide) (by decide)]; exact a5, by rw [sj 6 (by decide) (by decide) (by decide)]; exact a6, by rw [sj 7 (by decide) (by decide) (by decide)]; exact a7, r⟩
      have s15 : σ1 15 = some (.int (P[i]).1) := by rw [← hσ]; simp [upd]
      have s16 : σ1 16 = some (.int (P[i]).2) := by rw [← hσ]; simp [upd]
      have s8 : σ1 8 = some (.int (S.getD i 0)) := by rw [← hσ]; simp [upd]
      have inv2 := loopF_inv (f := fun d σ => (bindP w_own (.tup (.cons (.tup (.cons (.v 18) (.cons (.v 19) .nil))) (.cons (.v 17) .nil))) d σ).bind fun σ' => evSL w_own F (fun _ => true) w_in σ')
        (fun k σ'' => WI σ'' g e (20 * i + k) ∧ ∀ j, j ≠ 4 → j ≠ 5 → j ≠ 6 → j ≠ 7 → j ≠ 17 → j ≠ 18 → j ≠ 19 → σ'' j = σ1 j) (zipD (Q.map fun p => D.tup [.int p.1, .int p.2]) (S'.map .int)) 0 σ1 ⟨J1, fun _ _ _ _ _ _ _ _ => rfl⟩ fun j σ2 hj hI => by
          have hj' : j < Q.length := by rw [← zl']; exact hj
          obtain ⟨J2, fr⟩ := hI
          simp only [Nat.zero_add] at J2 ⊢
          have hget : (zipD (Q.map fun p => D.tup [.int p.1, .int p.2]) (S'.map .int))[j] = .tup [.tup [.int (Q[j]).1, .int (Q[j]).2], .int (S'.getD j 0)] := by
            rw [zipD_at _ _ j hj (by simpa using hj') (by simpa [hS'] using hj')]
            simp [List.getD_eq_getElem?_getD, List.getElem?_eq_getElem (show j < S'.length by omega)]
          rw [hget]
          have hb : bindP w_own (.tup (.cons (.tup (.cons (.v 18) (.cons (.v 19) .nil))) (.cons (.v 17) .nil))) (.tup [.tup [.int (Q[j]).1, .int (Q[j]).2], .int (S'.getD j 0)]) σ2 = some (upd (upd (upd σ2 18 (.int (Q[j]).1)) 19 (.int (Q[j]).2)) 17 (.int (S'.getD j 0))) := rfl
          rw [hb, Option.bind_some]
          generalize hσ3 : upd (upd (upd σ2 18 (.int (Q[j]).1)) 19 (.int (Q[j]).2)) 17 (.int (S'.getD j 0)) = σ3
          have tj : ∀ j, j ≠ 18 → j ≠ 19 → j ≠ 17 → σ3 j = σ2 j := fun j a b c => by rw [← hσ3]; simp [upd, a, b, c]
          have J3 : WI σ3 g e (20 * i + j) := by
            obtain ⟨gs, ls, mo, le, a4, a5, a6, a7, r⟩ := J2.ex
            exact ⟨gs, ls, mo, le, by rw [tj 4 (by decide) (by decide) (by decide)]; exact a4, by rw [tj 5 (by decide) (by decide) (by decide)]; exact a5, by rw [tj 6 (by decide) (by decide) (by decide)]; exact a6, by rw [tj 7 (by decide) (by decide) (by decide)]; exact a7, r⟩
          obtain ⟨σ4, e4, J4, f4⟩ := w_in_ev (F := F) (t := t) (who := (P[i]).1) (v := (P[i]).2) (had := S.getD i 0) (name := (Q[j]).1) (num := (Q[j]).2) (hs := S'.getD j 0) J3 (by omega)
            (by rw [tj 2 (by decide) (by decide) (by decide), fr 2 (by decide) (by decide) (by decide) (by decide) (by decide) (by decide) (by decide), sj 2 (by decide) (by decide) (by decide)]; exact j2)
            (by rw [tj 8 (by decide) (by decide) (by decide), fr 8 (by decide) (by decide) (by decide) (by decide) (by decide) (by decide) (by decide)]; exact s8)
            (by rw [tj 15 (by decide) (by decide) (by decide), fr 15 (by decide) (by decide) (by decide) (by decide) (by decide) (by decide) (by decide)]; exact s15)
            (by rw [tj 16 (by decide) (by decide) (by decide), fr 16 (by decide) (by decide) (by decide) (by decide) (by decide) (by decide) (by decide)]; exact s16)
            (by rw [← hσ3]; simp [upd]) (by rw [← hσ3]; simp [upd]) (by rw [← hσ3]; simp [upd]) ht (fun z => (M i j hi' hj' z).1) (fun z => (M i j hi' hj' z).2.1) (fun z => (M i j hi' hj' z).2.2.1) (fun z => (M i j hi' hj' z).2.2.2)
          exact ⟨σ4, .inl e4, J4, fun q q4 q5 q6 q7 q17 q18 q19 => by rw [f4 q q4 q5 q6 q7, tj q q18 q19 q17, fr q q4 q5 q6 q7 q17 q18 q19]⟩
      obtain ⟨σ5, e5, J5, f5⟩ := inv2
      rw [zl'] at J5
      refine ⟨σ5, .inl ?_, ?_, ?_, ?_, ?_, ?_⟩
      · unfold w_out
        have : evS w_own F (fun _ => true) (.loop (.tup (.cons (.tup (.cons (.v 18) (.cons (.v 19) .nil))) (.cons (.v 17) .nil))) (.zip (.v 12) (.v 14)) w_in) σ1 = some (.nxt σ5) := by
          unfold evS
          have : evSr w_own F (.zip (.v 12) (.v 14)) σ1 = some (zipD (Q.map fun p => D.tup [.int p.1, .int p.2]) (S'.map .int)) := by
            unfold evSr
            rw [ev_v (show σ1 12 = some (DP Q) by rw [sj 12 (by decide) (by decide) (by decide)]; exact j12) rfl, ev_v (show σ1 14 = some (DI S') by rw [sj 14 (by decide) (by decide) (by decide)]; exact j14) rfl]
            rfl
          rw [this, Option.bind_some]
          exact e5
        rw [evSL_nxt this]; rfl
      · obtain ⟨gs, ls, mo, le, a4, a5, a6, a7, r1, r2, r3⟩ := J5.ex
        exact ⟨gs, ls, mo, le, a4, a5, a6, a7, by omega, by omega, r3⟩
      · rw [f5 2 (by decide) (by decide) (by decide) (by decide) (by decide) (by decide) (by decide), sj 2 (by decide) (by decide) (by decide)]; exact j2
      · rw [f5 3 (by decide) (by decide) (by decide) (by decide) (by decide) (by decide) (by decide), sj 3 (by decide) (by decide) (by decide)]; exact j3
      · rw [f5 12 (by decide) (by decide) (by decide) (by decide) (by decide) (by decide) (by decide), sj 12 (by decide) (by decide) (by decide)]; exact j12
      · rw [f5 14 (by decide) (by decide) (by decide) (by decide) (by decide) (by decide) (by decide), sj 14 (by decide) (by decide) (by decide)]; exact j14
  obtain ⟨σ5, e5, J5, _, f3, _⟩ := inv
  rw [zl] at J5
  refine ⟨σ5, ?_, ?_, f3⟩
  · unfold evS
    have : evSr w_own F (.zip (.v 9) (.v 11)) σ = some (zipD (P.map fun p => D.tup [.int p.1, .int p.2]) (S.map .int)) := by
      unfold evSr
      rw [ev_v h9 rfl, ev_v h11 rfl]; rfl
    rw [this, Option.bind_some]
    exact e5
  · obtain ⟨gs, ls, mo, le, a4, a5, a6, a7, r1, r2, r3⟩ := J5.ex
    exact ⟨gs, ls, mo, le, a4, a5, a6, a7, by omega, by omega, r3⟩
end
end Mine
end

section
open PySem PySem.W PyProof.Rows
set_option maxRecDepth 100000
namespace Mine

/-! ## Q5. The law's own check, whole -/
section
variable {F : Fn}

/-- the sum of the votes of a list of parties, by a comprehension with a tuple target -/
theorem t_pairs {own : Nat → Bool} {bw : Bool} {a b s : Nat} {P : List (Int × Int)} {σ : Sg} (oa : own a = false) (ob : own b = false) (os : own s = false) (hab : b ≠ a) (hs : σ s = some (DP P)) (hl : P.length ≤ 1000) :
    ev own F bw (.comp (.v b) (.cons (.tup (.cons (.v a) (.cons (.v b) .nil))) (.t (.v s)) .nil .nil)) σ = some (DI (vts P)) := by
  unfold ev
  have hv : (Pat.vars (.tup (.cons (.v a) (.cons (.v b) .nil))) ++ GL.vars .nil) = [a, b] := rfl
  simp only [hv]
  rw [if_neg (by simp [oa, ob]), sr_v (show σ s = some (.list (P.map fun p => D.tup [.int p.1, .int p.2])) from hs) os, Option.bind_some]
  rw [flatM_some (g := fun d => match d with | .tup [_, x] => [x] | _ => []) fun d hd => ?_]
  · have e1 : ((P.map fun p => D.tup [.int p.1, .int p.2]).map fun d => match d with | .tup [_, x] => [x] | _ => []).flatten = (vts P).map D.int := by
      rw [List.map_map]
      clear hs hl
      induction P with
      | nil => rfl
      | cons p r ih => rw [List.map_cons, List.flatten_cons, ih]; rfl
    rw [e1, Option.bind_some, if_pos (by simpa [LB] using hl)]
    rfl
  · obtain ⟨p, _, rfl⟩ := List.mem_map.mp hd
    simp only [bindP, tupD, Option.bind_some, bindPL, oa, ob, Bool.false_eq_true, if_false, evC, if_true, evG]
    have : ev own F false (.v b) (upd (upd (unb [a, b] σ) a (.int p.1)) b (.int p.2)) = some (.int p.2) := ev_v (by simp [upd]) ob
    rw [this]; rfl

theorem w_body_ev {P Q : List (Int × Int)} {h h' t : Int} {so so' : Option (List Int)} (E : Elec P h so) (E' : Elec Q h' so') (ht : 1 ≤ t) (ht' : t ≤ 100) {σ : Sg} (h0 : σ 0 = some (DE P h so)) (h1 : σ 1 = some (DE Q h' so')) (h2 : σ 2 = some (.int t)) :
    evSL w_own F (fun _ => true) w_body σ = some (.ret (.bool true)) := by
  have sm : small t = true := small_of (by omega) (by omega)
  unfold w_body
  have e1 : evS w_own F (fun _ => true) (.asg (.tup w_pat) (.tup (.cons (.v 0) (.cons (.v 1) .nil)))) σ = some (.nxt (upd (upd (upd (upd (upd (upd σ 9 (DP P)) 10 (.int h)) 11 (DSo so)) 12 (DP Q)) 13 (.int h')) 14 (DSo so'))) := by
    unfold evS
    rw [ev_tup2 (ev_v h0 rfl) (ev_v h1 rfl), Option.bind_some]
    rfl
  rw [evSL_nxt e1]
  generalize hσ : upd (upd (upd (upd (upd (upd σ 9 (DP P)) 10 (.int h)) 11 (DSo so)) 12 (DP Q)) 13 (.int h')) 14 (DSo so') = σ1
  have a2 : σ1 2 = some (.int t) := by rw [← hσ]; simp [upd, h2]
  have a9 : σ1 9 = some (DP P) := by rw [← hσ]; simp [upd]
  have a10 : σ1 10 = some (.int h) := by rw [← hσ]; simp [upd]
  have a11 : σ1 11 = some (DSo so) := by rw [← hσ]; simp [upd]
  have a12 : σ1 12 = some (DP Q) := by rw [← hσ]; simp [upd]
  have a13 : σ1 13 = some (.int h') := by rw [← hσ]; simp [upd]
  have a14 : σ1 14 = some (DSo so') := by rw [← hσ]; simp [upd]
  have isn : ∀ (i : Nat) (o : Option (List Int)), w_own i = false → σ1 i = some (DSo o) → ev w_own F false (.isn true (.v i)) σ1 = some (.bool o.isNone) := fun i o ho hi => by
    unfold ev
    rw [ev_v hi ho]
    cases o <;> rfl
  have c1 : ev w_own F false (.bop false (.cons (.isn true (.v 11)) (.cons (.isn true (.v 14)) .nil))) σ1 = some (.bool (so.isNone || so'.isNone)) := bor (isn 11 so rfl a11) fun _ => isn 14 so' rfl a14
  cases hso : so with
  | none =>
    rw [hso] at c1
    exact evSL_ret (by rw [e_ite_t c1]; exact evSL_ret (e_ret ev_k))
  | some S =>
  cases hso' : so' with
  | none =>
    rw [hso, hso'] at c1
    exact evSL_ret (by rw [e_ite_t c1]; exact evSL_ret (e_ret ev_k))
  | some S' =>
  rw [hso, hso'] at c1
  rw [evSL_nxt (σ' := σ1) (by rw [e_ite_f c1]; rfl)]
  have n1 := E.n20
  have n2 := E'.n20
  have hs := E.ok.sum
  have hs' := E'.ok.sum
  have b1 := E.h1
  have b2 := E.h2
  have b1' := E'.h1
  have b2' := E'.h2
  obtain ⟨d, sp⟩ := E.spec S hso
  obtain ⟨d', sp'⟩ := E'.spec S' hso'
  have lS : S.length = P.length := by rw [sp.len]; simp
  have lS' : S'.length = Q.length := by rw [sp'.len]; simp
  obtain ⟨g, hg⟩ : ∃ g, g = t * h' * (vts P).sum - h * (vts Q).sum := ⟨_, rfl⟩
  obtain ⟨e, he⟩ : ∃ e, e = d * (vts Q).sum - d' * (vts P).sum := ⟨_, rfl⟩
  have mth : t * h' ≤ 100 * 1000 := Int.mul_le_mul ht' b2' (by omega) (by decide)
  have mth0 : 0 ≤ t * h' := Int.mul_nonneg (by omega) (by omega)
  have e3 : ev w_own F false (.op .sub (.op .mul (.op .mul (.v 2) (.v 13)) w_sumP) (.op .mul (.v 10) w_sumO)) σ1 = some (.int g) := by
    unfold w_sumP w_sumO
    rw [hg]
    refine ev_op (ev_op (ev_op (ev_v a2 rfl) (ev_v a13 rfl) (op_mul (.inl sm))) (ev_bi1 (t_pairs rfl rfl rfl (by decide) a9 (by omega)) (bi_sum _)) (op_mul (.inl (small_of (by omega) (by omega))))) (ev_op (ev_v a10 rfl) (ev_bi1 (t_pairs rfl rfl rfl (by decide) a12 (by omega)) (bi_sum _)) (op_mul (.inl (small_of (by omega) (by omega))))) rfl
  rw [evSL_nxt (e_asg e3 rfl)]
  have e4 : evS w_own F (fun _ => true) (.ownN [4, 5, 6, 7] (.cons (.list .nil) (.cons (.list .nil) (.cons (.k (.int 0)) (.cons (.k (.int 0)) .nil))))) (upd σ1 3 (.int g)) = some (.nxt (upd (upd (upd (upd (upd σ1 3 (.int g)) 4 (.list [])) 5 (.list [])) 6 (.int 0)) 7 (.int 0))) := by
    unfold evS
    rw [if_pos (by rfl)]
    rfl
  rw [evSL_nxt e4]
  generalize hσ2 : upd (upd (upd (upd (upd σ1 3 (.int g)) 4 (.list [])) 5 (.list [])) 6 (.int 0)) 7 (.int 0) = σ2
  have I : WI σ2 g e 0 := ⟨[], [], 0, 0, by rw [← hσ2]; simp [upd, DI], by rw [← hσ2]; simp [upd, DI], by rw [← hσ2]; simp [upd], by rw [← hσ2]; simp [upd], by simp, by simp, by simp, by simp, fun _ => by omega, fun _ => by omega⟩
  have hw : ∀ i, (hi : i < P.length) → (vts P).getD i 0 = (P[i]).2 := fun i hi => by simp [List.getD_eq_getElem?_getD, hi]
  have hw' : ∀ j, (hj : j < Q.length) → (vts Q).getD j 0 = (Q[j]).2 := fun j hj => by simp [List.getD_eq_getElem?_getD, hj]
  obtain ⟨σ3, e5, J, f3⟩ := w_loop_out (F := F) (P := P) (Q := Q) (S := S) (S' := S') (t := t) (σ := σ2) lS lS' n1 n2 sm I (by rw [← hσ2]; simp [upd, a2]) (by rw [← hσ2]; simp [upd, a9]) (by rw [← hσ2]; simp [upd, a11, hso, DSo]) (by rw [← hσ2]; simp [upd, a12]) (by rw [← hσ2]; simp [upd, a14, hso', DSo]) (fun i j hi hj q => by
    have v1 := sp.val i (by simpa using hi)
    have v2 := sp'.val j (by simpa using hj)
    rw [hw i hi] at v1
    rw [hw' j hj, q] at v2
    have vp := E.ok.lo _ (List.mem_map.mpr ⟨P[i], List.getElem_mem hi, rfl⟩)
    rw [v1, v2, hg, he]
    refine ⟨fun z => hw_gain (by omega) (by omega) z, fun z => hw_loss (by omega) (by omega) z, fun z => hw_most (by omega) (by omega) (by omega) z sp.d0 sp'.d1, fun z => hw_least (by omega) (by omega) (by omega) z sp.d1 sp'.d0⟩)
  rw [evSL_nxt e5]
  obtain ⟨gs, ls, mo, le, k4, k5, k6, k7, _, _, kg, kl, km, kn⟩ := J.ex
  have k3 : σ3 3 = some (.int g) := by rw [f3, ← hσ2]; simp [upd]
  have cb : ev w_own F false w_bad σ3 = some (.bool ((decide (0 ≤ g) && decide (le < -1)) || (decide (g ≤ 0) && decide (1 < mo)))) := by
    unfold w_bad
    refine bor (band (ev_cmp (ev_vb k3) ev_k rfl) fun _ => ev_cmp (ev_vb k7) (y := .int (-1)) ?_ rfl) fun _ => band (ev_cmp (ev_vb k3) ev_k rfl) fun _ => ev_cmp (ev_vb k6) ev_k rfl
    unfold ev
    rw [ev_k]; rfl
  have nb : ((decide (0 ≤ g) && decide (le < -1)) || (decide (g ≤ 0) && decide (1 < mo))) = false := by
    rw [Bool.or_eq_false_iff, Bool.and_eq_false_iff, Bool.and_eq_false_iff]
    constructor
    · by_cases z : 0 ≤ g
      · right; have := kn z; exact decide_eq_false (by omega)
      · left; exact decide_eq_false z
    · by_cases z : g ≤ 0
      · right; have := km z; exact decide_eq_false (by omega)
      · left; exact decide_eq_false z
  rw [nb] at cb
  rw [evSL_nxt (σ' := σ3) (by rw [e_ite_f cb]; rfl)]
  have nl : ∀ {bw}, ev w_own F bw (.list .nil) σ3 = some (DI []) := fun {bw} => by unfold ev; rfl
  have cn : ev w_own F false w_none σ3 = some (.bool ((gs == []) || (ls == []))) := by
    unfold w_none
    exact bor (ev_cmp (ev_vb k4) nl (eq_DI _ _)) fun _ => ev_cmp (ev_vb k5) nl (eq_DI _ _)
  cases gs with
  | nil => exact evSL_ret (by rw [e_ite_t cn]; exact evSL_ret (e_ret ev_k))
  | cons x r =>
  cases ls with
  | nil => exact evSL_ret (by rw [e_ite_t cn]; exact evSL_ret (e_ret ev_k))
  | cons y q =>
  have cn : ev w_own F false w_none σ3 = some (.bool false) := cn
  rw [evSL_nxt (σ' := σ3) (by rw [e_ite_f cn]; rfl)]
  have bmin : ∀ (i : Nat) (a : Int) (l : List Int), σ3 i = some (DI (a :: l)) → ev w_own F true (.bi .minL (.cons (.v i) .nil)) σ3 = some (.int (minI a l)) := fun i a l hi => ev_bi1 (ev_vb hi) (by simp only [biD, DI, listD, Option.bind_some, intsOf_map])
  have bmax : ∀ (i : Nat) (a : Int) (l : List Int), σ3 i = some (DI (a :: l)) → ev w_own F true (.bi .maxL (.cons (.v i) .nil)) σ3 = some (.int (maxI a l)) := fun i a l hi => ev_bi1 (ev_vb hi) (by simp only [biD, DI, listD, Option.bind_some, intsOf_map])
  have ca : ev w_own F false w_ans σ3 = some (.bool ((decide (0 < g) && decide (maxI y q < minI x r)) || (decide (g < 0) && decide (maxI x r < minI y q)))) := by
    unfold w_ans
    exact bor (band (ev_cmp (ev_vb k3) ev_k rfl) fun _ => ev_cmp (bmin 4 x r k4) (bmax 5 y q k5) rfl) fun _ => band (ev_cmp (ev_vb k3) ev_k rfl) fun _ => ev_cmp (bmax 4 x r k4) (bmin 5 y q k5) rfl
  have pr : ∀ a ∈ x :: r, ∀ b ∈ y :: q, 0 < (a - b) * g := fun a ha b hb => by
    have z1 := kg a ha
    have z2 := kl b hb
    rw [Int.sub_mul]; omega
  have yes : ((decide (0 < g) && decide (maxI y q < minI x r)) || (decide (g < 0) && decide (maxI x r < minI y q))) = true := by
    have p1 := pr _ (minI_spec r x).1 _ (maxI_spec q y).1
    have p2 := pr _ (maxI_spec r x).1 _ (minI_spec q y).1
    rw [Bool.or_eq_true, Bool.and_eq_true, Bool.and_eq_true]
    by_cases z : 0 < g
    · left
      refine ⟨decide_eq_true z, decide_eq_true ?_⟩
      refine Int.not_le.mp fun w => ?_
      have := Int.mul_nonneg (show 0 ≤ -(minI x r - maxI y q) by omega) (Int.le_of_lt z)
      rw [Int.neg_mul] at this; omega
    · by_cases z' : g < 0
      · right
        refine ⟨decide_eq_true z', decide_eq_true ?_⟩
        refine Int.not_le.mp fun w => ?_
        have := Int.mul_nonneg (show 0 ≤ maxI x r - minI y q by omega) (show 0 ≤ -g by omega)
        rw [Int.mul_neg] at this; omega
      · exfalso
        have : g = 0 := by omega
        rw [this] at p1; simp at p1
  rw [yes] at ca
  exact evSL_ret (e_ret ca)
end
end Mine
end

section
open PySem PySem.W PyProof.Rows
set_option maxRecDepth 100000
namespace Mine

/-! ## Q6. The law's call of the method -/
def s_own : Nat → Bool := fun _ => false
def s_quo : T := (.comp (.op .fdiv (.op .mul (.v 8) (.v 2)) (.v 4)) (.cons (.v 8) (.t (.v 3)) .nil .nil))
def s_mod : T := (.comp (.op .mod (.op .mul (.v 8) (.v 2)) (.v 4)) (.cons (.v 8) (.t (.v 3)) .nil .nil))
def s_tie : T := (.ite (.bop true (.cons (.cmp .gt (.v 5) (.k (.int 0))) (.cons (.cmp .eq (.idx (.v 6) (.op .sub (.v 5) (.k (.int 1)))) (.idx (.v 6) (.v 5))) .nil))) (.k .non) (.list .nil))
def s_body : SL := .cons (.asg (.v 3) (.comp (.v 8) (.cons (.tup (.cons (.v 7) (.cons (.v 8) .nil))) (.t (.v 1)) .nil .nil))) (.cons (.asg (.v 4) (.bi .sum (.cons (.v 3) .nil))) (.cons (.asg (.v 5) (.op .sub (.v 2) (.bi .sum (.cons s_quo .nil)))) (.cons (.asg (.v 6) (.rev (.bi .sorted (.cons s_mod .nil)))) (.cons (.try (.cons (.retC 0 (.cons (.v 0) (.cons (.v 3) (.cons (.v 2) (.cons (.k .non) (.cons (.k .fls) .nil)))))) .nil) (.cons (.ret s_tie) .nil)) .nil))))
/-- the answer of the law's own call -/
def hso (V : List Int) (h : Int) : Option (List Int) := if (hD V h).2 = true then none else some (hD V h).1
def hres (V : List Int) (h : Int) (ta : Bool) : Except Unit D := if ((hD V h).2 && !ta) = true then .error () else .ok (DI (hD V h).1)

section
variable {F : Fn} {mu : Nat → Bool}

theorem mapV {own : Nat → Bool} {V : List Int} {σ : Sg} {s i : Nat} {e : T} {f : Int → Int} {bw : Bool} (os : own s = false) (oi : own i = false) (hs : σ s = some (DI V)) (hn : V.length ≤ 1000) (he : ∀ p ∈ V, ev own F false e (upd σ i (.int p)) = some (.int (f p))) :
    ev own F bw (.comp e (.cons (.v i) (.t (.v s)) .nil .nil)) σ = some (DI (V.map f)) := by
  rw [t_map (ds := V.map .int) (f := fun d => match d with | .int p => .int (f p) | d => d) oi (sr_v hs os) (fun d hd => ?_) (by simpa [LB] using hn)]
  · simp [DI]
  · obtain ⟨p, hp, rfl⟩ := List.mem_map.mp hd
    exact he p hp

theorem s_body_ev {P : List (Int × Int)} {h : Int} {m : PySem.Str} (hV : VOk' (vts P)) (hn : P.length ≤ 20) (hh : 1 ≤ h) (hh' : h ≤ 1000) (hF : F 0 [.str m, DI (vts P), .int h, .non, .bool false] = some (hres (vts P) h false)) {σ : Sg} (h0 : σ 0 = some (.str m)) (h1 : σ 1 = some (DP P)) (h2 : σ 2 = some (.int h)) :
    evSL s_own F mu s_body σ = some (.ret (DSo (hso (vts P) h))) := by
  obtain ⟨V, hVd⟩ : ∃ V, V = vts P := ⟨_, rfl⟩
  rw [← hVd] at hV hF ⊢
  have hlen : V.length = P.length := by rw [hVd]; simp
  have hs := hV.sum
  have n1 := hV.n1
  obtain ⟨lb1, lb2⟩ := hleft_bd (V := V) (h := h) hs.1
  have hrl : (hr V h).length = V.length := by simp [hr]
  unfold s_body
  rw [evSL_nxt (e_asg (t_pairs (F := F) (bw := false) (P := P) rfl rfl rfl (by decide) h1 (by omega)) rfl), ← hVd]
  generalize hσ : upd σ 3 (DI V) = σ1
  have a0 : σ1 0 = some (.str m) := by rw [← hσ]; simp [upd, h0]
  have a2 : σ1 2 = some (.int h) := by rw [← hσ]; simp [upd, h2]
  have a3 : σ1 3 = some (DI V) := by rw [← hσ]; simp [upd]
  rw [evSL_nxt (e_asg (ev_sumV a3) rfl)]
  generalize hσ2 : upd σ1 4 (.int V.sum) = σ2
  have b0 : σ2 0 = some (.str m) := by rw [← hσ2]; simp [upd, a0]
  have b2 : σ2 2 = some (.int h) := by rw [← hσ2]; simp [upd, a2]
  have b3 : σ2 3 = some (DI V) := by rw [← hσ2]; simp [upd, a3]
  have b4 : σ2 4 = some (.int V.sum) := by rw [← hσ2]; simp [upd]
  have e5 : ev s_own F false (.op .sub (.v 2) (.bi .sum (.cons s_quo .nil))) σ2 = some (.int (hleft V h)) := by
    refine ev_op (ev_v b2 rfl) (ev_bi1 (x := DI (hq V h)) (mapV (V := V) (f := fun v => v * h / V.sum) rfl rfl b3 (by omega) fun p hp => ?_) (bi_sum _)) rfl
    exact ev_op (ev_op (x := .int p) (y := .int h) (ev_v (by simp [upd]) rfl) (ev_v (by simp [upd, b2]) rfl) (op_mul (.inr (small_of (by omega) (by omega))))) (ev_v (d := .int V.sum) (by simp [upd, b4]) rfl) (op_fdiv (by omega) (small_of (by omega) (by omega)))
  rw [evSL_nxt (e_asg e5 rfl)]
  generalize hσ3 : upd σ2 5 (.int (hleft V h)) = σ3
  have c0 : σ3 0 = some (.str m) := by rw [← hσ3]; simp [upd, b0]
  have c2 : σ3 2 = some (.int h) := by rw [← hσ3]; simp [upd, b2]
  have c3 : σ3 3 = some (DI V) := by rw [← hσ3]; simp [upd, b3]
  have c4 : σ3 4 = some (.int V.sum) := by rw [← hσ3]; simp [upd, b4]
  have c5 : σ3 5 = some (.int (hleft V h)) := by rw [← hσ3]; simp [upd]
  have e6 : ev s_own F false (.rev (.bi .sorted (.cons s_mod .nil))) σ3 = some (DI (isort (hr V h)).reverse) := by
    have x : ev s_own F false (.bi .sorted (.cons s_mod .nil)) σ3 = some (DI (isort (hr V h))) := by
      refine ev_bi1 (x := DI (hr V h)) (mapV (V := V) (f := fun v => v * h % V.sum) rfl rfl c3 (by omega) fun p hp => ?_) ?_
      · exact ev_op (ev_op (x := .int p) (y := .int h) (ev_v (by simp [upd]) rfl) (ev_v (by simp [upd, c2]) rfl) (op_mul (.inr (small_of (by omega) (by omega))))) (ev_v (d := .int V.sum) (by simp [upd, c4]) rfl) (op_mod (by omega))
      · simp only [biD, DI, listD, Option.bind_some, intsOf_map]
        rw [if_pos (by omega)]
    unfold ev
    rw [x]
    simp [DI, listD]
  rw [evSL_nxt (e_asg e6 rfl)]
  generalize hσ4 : upd σ3 6 (DI (isort (hr V h)).reverse) = σ4
  have d0 : σ4 0 = some (.str m) := by rw [← hσ4]; simp [upd, c0]
  have d2 : σ4 2 = some (.int h) := by rw [← hσ4]; simp [upd, c2]
  have d3 : σ4 3 = some (DI V) := by rw [← hσ4]; simp [upd, c3]
  have d5 : σ4 5 = some (.int (hleft V h)) := by rw [← hσ4]; simp [upd, c5]
  have d6 : σ4 6 = some (DI (isort (hr V h)).reverse) := by rw [← hσ4]; simp [upd]
  have call : evSL s_own F mu (.cons (.retC 0 (.cons (.v 0) (.cons (.v 3) (.cons (.v 2) (.cons (.k .non) (.cons (.k .fls) .nil)))))) .nil) σ4 = some (if (hD V h).2 = true then .ties else .ret (DI (hD V h).1)) := by
    have ar : evL s_own F false (.cons (.v 0) (.cons (.v 3) (.cons (.v 2) (.cons (.k .non) (.cons (.k .fls) .nil))))) σ4 = some [.str m, DI V, .int h, .non, .bool false] := by
      simp only [evL]
      rw [ev_v d0 rfl, ev_v d3 rfl, ev_v d2 rfl, ev_k, ev_k]; rfl
    unfold evSL evS
    rw [ar, Option.bind_some, hF]
    unfold hres
    cases (hD V h).2 <;> rfl
  have sp := h_spec (V := V) (h := h) hs.1
  unfold hso
  by_cases ht : (hD V h).2 = true
  · rw [if_pos ht] at call sp ⊢
    obtain ⟨lp, eq⟩ := sp
    have st : ev s_own F false s_tie σ4 = some .non := by
      unfold s_tie
      have c : ev s_own F false (.bop true (.cons (.cmp .gt (.v 5) (.k (.int 0))) (.cons (.cmp .eq (.idx (.v 6) (.op .sub (.v 5) (.k (.int 1)))) (.idx (.v 6) (.v 5))) .nil))) σ4 = some (.bool (decide (0 < hleft V h) && true)) := by
        have hl := isort_len (hr V h)
        refine band (ev_cmp (ev_vb d5) ev_k rfl) fun _ => ev_cmp (x := .int ((isort (hr V h)).reverse.getD ((hleft V h).toNat - 1) 0)) (y := .int ((isort (hr V h)).reverse.getD (hleft V h).toNat 0)) (ev_idx (y := .int (((hleft V h).toNat - 1 : Nat) : Int)) (ev_vb d6) (ev_op (ev_v d5 rfl) ev_k ?_) (idx_DI (by rw [List.length_reverse]; omega))) (ev_idx (y := .int ((hleft V h).toNat : Int)) (ev_vb d6) (ev_v (by rw [d5]; congr 2; omega) rfl) (idx_DI (by rw [List.length_reverse]; omega))) ?_
        · show some (D.int (hleft V h - 1)) = _
          congr 2; omega
        · show some (_ == _) = some true
          congr 1
          rw [beq_iff_eq]
          rw [List.getD_eq_getElem?_getD, List.getD_eq_getElem?_getD, List.getElem?_reverse (by omega), List.getElem?_reverse (by omega), ← List.getD_eq_getElem?_getD, ← List.getD_eq_getElem?_getD, hl, hrl]
          rw [show V.length - 1 - ((hleft V h).toNat - 1) = V.length - (hleft V h).toNat from by omega]
          exact eq
      rw [decide_eq_true lp] at c
      unfold ev
      rw [c]; rfl
    unfold evSL evS
    rw [call]
    simp only [Option.bind_some]
    rw [evSL_ret (e_ret st)]
    rfl
  · rw [if_neg ht] at call ⊢
    unfold evSL evS
    rw [call]
    rfl

theorem hso_elec {P : List (Int × Int)} {h : Int} (hV : VOk' (vts P)) (hn : P.length ≤ 20) (hh : 1 ≤ h) (hh' : h ≤ 1000) : Elec P h (hso (vts P) h) := by
  refine ⟨hV, hn, hh, hh', fun S e => ?_⟩
  have sp := h_spec (V := vts P) (h := h) hV.sum.1
  unfold hso at e
  by_cases ht : (hD (vts P) h).2 = true
  · rw [if_pos ht] at e; cases e
  · rw [if_neg ht] at e sp
    cases e
    exact sp
end
end Mine
end

section
open PySem PySem.W PyProof.Rows
set_option maxRecDepth 100000
namespace Mine

/-! ## P8. Jefferson's method -/
def dsJ (h : Nat) : List Int := (List.range h).map fun (i : Nat) => (i : Int) + 1
def zeros (V : List Int) : List Int := List.replicate V.length 0
def jeff (V : List Int) (h : Nat) : List Int := if h = 0 then zeros V else dres V (dsJ h) (zeros V) h

theorem zeros_sum (V : List Int) : (zeros V).sum = 0 := (qit_ok_zero V.length) where
  qit_ok_zero : ∀ n, (List.replicate n (0 : Int)).sum = 0 := fun n => by
    induction n with
    | zero => rfl
    | succ n ih => rw [List.replicate_succ, List.sum_cons, ih]; rfl
theorem zeros_ok (V : List Int) : ROk V.length 1000 (zeros V) := ⟨by simp [zeros], fun x hx => by have := List.eq_of_mem_replicate hx; omega, by rw [zeros_sum]; decide⟩
theorem dsJ_get {h t : Nat} (ht : t < h) : (dsJ h).getD t 0 = t + 1 := by unfold dsJ; rw [getD_map_range ht]
theorem dsJ_len (h : Nat) : (dsJ h).length = h := by simp [dsJ]
theorem dsJ_lo (h : Nat) : ∀ d ∈ dsJ h, 1 ≤ d := fun d hd => by
  obtain ⟨i, _, rfl⟩ := List.mem_map.mp hd; omega
theorem dsJ_ok {h : Nat} (hh : h ≤ 40) : DsOk (dsJ h) := ⟨by rw [dsJ_len]; exact hh, dsJ_lo h, fun d hd => by
  obtain ⟨i, hi, rfl⟩ := List.mem_map.mp hd
  have := List.mem_range.mp hi; omega⟩
theorem dsJ_inc (h : Nat) : (dsJ h).Pairwise (· < ·) := by
  unfold dsJ
  rw [List.pairwise_map]
  exact List.pairwise_lt_range.imp fun {a b} hab => by omega

section
variable {F : Fn} {mu : Nat → Bool}
theorem d_tail_zero (hm : ∀ i, mu i = true) {X : TS} {r0 : List Int} {h : Int} {σ : Sg} {ta : Bool} (h1 : σ 1 = some (.int h)) (h3 : σ 3 = some (.bool ta)) (h4 : σ 4 = some (DI r0)) (hk : ¬ r0.sum < h) : evSL d_own F mu (d_tail X) σ = some (.ret (DI r0)) := by
  unfold d_tail
  have cmp : ∀ {σ : Sg}, σ 1 = some (.int h) → σ 4 = some (DI r0) → ev d_own F false (.cmp .gt (.v 1) d_sum) σ = some (.bool false) := fun {σ} h1 h4 => by
    have sT : ev d_own F true d_sum σ = some (.int r0.sum) := by
      unfold d_sum
      simp only [ev, evL]
      rw [if_neg (by decide), h4]
      exact bi_sum r0
    have v1 : ev d_own F true (.v 1) σ = some (.int h) := by simp only [ev]; rw [if_neg (by decide), h1]
    unfold ev
    rw [sT, v1]
    simp [cmD, hk]
  rw [evSL_nxt (σ' := σ) (by rw [e_ite_f (cmp h1 h4)]; rfl), evSL_nxt (e_asg (d := .bool false) rfl rfl)]
  have b1 : (upd σ 5 (.bool false)) 1 = some (.int h) := by simp [upd, h1]
  have b4 : (upd σ 5 (.bool false)) 4 = some (DI r0) := by simp [upd, h4]
  rw [evSL_nxt (σ' := upd σ 5 (.bool false)) (by rw [e_ite_f (cmp b1 b4)]; rfl)]
  have c : ev d_own F false (.bop true (.cons (.v 5) (.cons (.not (.v 3)) .nil))) (upd σ 5 (.bool false)) = some (.bool (false && false)) := by
    refine bop_and (by simp only [ev]; rw [if_neg (by decide)]; simp [upd]) (fun z => by cases z) _
  rw [evSL_nxt (σ' := upd σ 5 (.bool false)) (by rw [e_ite_f c]; rfl)]
  exact evSL_ret (e_retO rfl b4)

def d_jin : T := (.cmp .inn (.v 2) (.list (.cons (.k (.str (PySem.Str.ofString "dhondt"))) (.cons (.k (.str (PySem.Str.ofString "jefferson"))) (.cons (.k (.str (PySem.Str.ofString "greatestdivisors"))) .nil)))))
def d_jds : T := (.comp (.tup (.cons (.op .add (.v 11) (.k (.int 1))) (.cons (.k (.int 1)) .nil))) (.cons (.v 11) (.range1 (.v 1)) .nil .nil))
def jNames : List PySem.Str := [PySem.Str.ofString "dhondt", PySem.Str.ofString "jefferson", PySem.Str.ofString "greatestdivisors"]

theorem d_jds_ev {h : Nat} {σ : Sg} (hh : h ≤ 40) (h1 : σ 1 = some (.int h)) : ev d_own F false d_jds σ = some (DT (dsJ h)) := by
  unfold d_jds
  rw [t_rangeMap (n := h) (f := fun i => D.tup [.int ((i : Int) + 1), .int 1]) rfl (by simp only [ev]; rw [if_neg (by decide), h1]) (by omega) fun i _ => ?_]
  · simp [DT, dsJ]
  · simp only [ev, evL]
    rw [if_neg (by decide)]
    simp only [upd, if_true, Option.bind_some, K.d, op_add]
    rw [if_pos (by simp [LB])]

theorem d_jeff_ev (hm : ∀ i, mu i = true) {X : TS} {B : SL} {V : List Int} {h : Nat} {m : PySem.Str} (hV : VOk V) (hh : h ≤ 12) (hmn : m ∈ jNames) {σ : Sg} (h0 : σ 0 = some (DI V)) (h1 : σ 1 = some (.int h)) (h2 : σ 2 = some (.str m)) (h3 : σ 3 = some (.bool true)) :
    evSL d_own F mu (.cons (.own1 4 (.rep (.k (.int 0)) (.bi .len (.cons (.v 0) .nil)))) (.cons (.ite d_jin (.cons (.asg (.v 6) d_jds) .nil) B) (d_tail X))) σ = some (.ret (DI (jeff V h))) := by
  have e2 : ev d_own F false (.rep (.k (.int 0)) (.bi .len (.cons (.v 0) .nil))) σ = some (.list (List.replicate V.length (.int 0))) := by
    simp only [ev, evL]
    rw [if_neg (by decide), h0]
    simp only [Option.bind_some, bi_len, intD, K.d]
    rw [if_pos ⟨by omega, by have := hV.n5; simp [LB]; omega⟩]
    simp
  rw [evSL_nxt (e_own1 e2 rfl (hm 4) rfl)]
  generalize hσ : upd σ 4 (.list (List.replicate V.length (.int 0))) = σ1
  have a0 : σ1 0 = some (DI V) := by rw [← hσ]; simp [upd, h0]
  have a1 : σ1 1 = some (.int h) := by rw [← hσ]; simp [upd, h1]
  have a2 : σ1 2 = some (.str m) := by rw [← hσ]; simp [upd, h2]
  have a3 : σ1 3 = some (.bool true) := by rw [← hσ]; simp [upd, h3]
  have a4 : σ1 4 = some (DI (zeros V)) := by rw [← hσ]; simp [upd, DI, zeros]
  have c1 : ev d_own F false d_jin σ1 = some (.bool true) := by
    unfold d_jin
    simp only [jNames, List.mem_cons, List.not_mem_nil, or_false] at hmn
    simp only [ev, evL]
    rw [if_neg (by decide), a2]
    rcases hmn with rfl | rfl | rfl <;> rfl
  rw [evSL_nxt (by rw [e_ite_t c1, evSL_nxt (e_asg (d_jds_ev (by omega) a1) rfl)]; rfl)]
  generalize hσ2 : upd σ1 6 (DT (dsJ h)) = σ2
  have b0 : σ2 0 = some (DI V) := by rw [← hσ2]; simp [upd, a0]
  have b1 : σ2 1 = some (.int h) := by rw [← hσ2]; simp [upd, a1]
  have b2 : σ2 2 = some (.str m) := by rw [← hσ2]; simp [upd, a2]
  have b3 : σ2 3 = some (.bool true) := by rw [← hσ2]; simp [upd, a3]
  have b4 : σ2 4 = some (DI (zeros V)) := by rw [← hσ2]; simp [upd, a4]
  have b6 : σ2 6 = some (DT (dsJ h)) := by rw [← hσ2]; simp [upd]
  have hl : (dflat V (dsJ h)).length = V.length * h := by rw [flatten_len, dsJ_len]
  by_cases hz : h = 0
  · subst hz
    rw [d_tail_zero hm b1 b3 b4 (by rw [zeros_sum]; simp)]
    rfl
  · have n5 := hV.n5
    have n1 := hV.n1
    have hmul : V.length * h ≤ 5 * 12 := Nat.mul_le_mul n5 hh
    have hmul' : 1 * h ≤ V.length * h := Nat.mul_le_mul_right h n1
    rw [d_tail_ev (F := F) hm hV (dsJ_ok (by omega)) (zeros_ok V) b0 b1 b2 b3 b4 b6 (fun σ e => ?_) (by rw [hl]; omega) (by rw [zeros_sum]; omega) (by rw [zeros_sum, hl]; simp; omega)]
    · unfold jeff; rw [if_neg hz]
    · unfold d_hunt
      simp only [jNames, List.mem_cons, List.not_mem_nil, or_false] at hmn
      simp only [ev, evL]
      rw [if_neg (by decide), e]
      rcases hmn with rfl | rfl | rfl <;> rfl
end

/-- Jefferson: by the last seats and the next ones -/
theorem jeff_spec {V : List Int} (hV : VOk V) (h : Nat) : (jeff V h).length = V.length ∧ (jeff V h).sum = h ∧ (∀ i, i < V.length → 0 ≤ (jeff V h).getD i 0) ∧
    ∀ i j, i < V.length → j < V.length → i ≠ j → 1 ≤ (jeff V h).getD i 0 → V.getD j 0 * (jeff V h).getD i 0 < V.getD i 0 * ((jeff V h).getD j 0 + 1) ∨ (V.getD j 0 * (jeff V h).getD i 0 = V.getD i 0 * ((jeff V h).getD j 0 + 1) ∧ i < j) := by
  by_cases hz : h = 0
  · subst hz
    have e : jeff V 0 = zeros V := rfl
    rw [e]
    have g : ∀ i, i < V.length → (zeros V).getD i 0 = 0 := fun i hi => by simp [zeros, List.getD_eq_getElem?_getD, List.getElem?_replicate, hi]
    refine ⟨by simp [zeros], zeros_sum V, fun i hi => by rw [g i hi]; exact Int.le_refl _, fun i j hi hj _ h1 => ?_⟩
    rw [g i hi] at h1; omega
  · have hl : (dflat V (dsJ h)).length = V.length * h := by rw [flatten_len, dsJ_len]
    have n1 := hV.n1
    have hmul' : 1 * h ≤ V.length * h := Nat.mul_le_mul_right h n1
    obtain ⟨_, c, S⟩ := d_spec (V := V) (ds := dsJ h) (r0 := zeros V) (h := h) hV.lo (dsJ_lo h) (dsJ_inc h) (by simp [zeros]) (by rw [zeros_sum]; omega) (by rw [zeros_sum, hl]; simp; omega)
    have e : jeff V h = dres V (dsJ h) (zeros V) h := by unfold jeff; rw [if_neg hz]
    rw [e]
    have g : ∀ i, i < V.length → (zeros V).getD i 0 = 0 := fun i hi => by simp [zeros, List.getD_eq_getElem?_getD, List.getElem?_replicate, hi]
    have val : ∀ i, i < V.length → (dres V (dsJ h) (zeros V) h).getD i 0 = c i ∧ c i ≤ h := fun i hi => by
      obtain ⟨a, b⟩ := S.val i hi
      rw [g i hi] at a
      rw [dsJ_len] at b
      exact ⟨by omega, b⟩
    have nn : ∀ x ∈ dres V (dsJ h) (zeros V) h, 0 ≤ x := fun x hx => by
      obtain ⟨i, hi, e⟩ := List.getElem_of_mem hx
      have hi' : i < V.length := by rw [← S.len]; exact hi
      have := (val i hi').1
      rw [List.getD_eq_getElem?_getD, List.getElem?_eq_getElem hi] at this
      simp at this; omega
    refine ⟨S.len, S.sum, fun i hi => by rw [(val i hi).1]; omega, fun i j hi hj hij h1 => ?_⟩
    rw [(val i hi).1] at h1 ⊢
    rw [(val j hj).1]
    have cj : c j < h := by
      -- both have seats of the same h
      have hi2 : i < (dres V (dsJ h) (zeros V) h).length := by rw [S.len]; exact hi
      have hj2 : j < (dres V (dsJ h) (zeros V) h).length := by rw [S.len]; exact hj
      have s := S.sum
      have : (dres V (dsJ h) (zeros V) h).getD i 0 + (dres V (dsJ h) (zeros V) h).getD j 0 ≤ (dres V (dsJ h) (zeros V) h).sum := by
        generalize dres V (dsJ h) (zeros V) h = l at nn hi2 hj2
        have s2 := sum_set (l := l) (k := i) (x := 0) hi2
        have nn2 : ∀ x ∈ l.set i 0, 0 ≤ x := fun x hx => by
          rcases List.mem_or_eq_of_mem_set hx with z | z
          · exact nn x z
          · omega
        have := le_sum nn2 ((l.set i 0).getD j 0) (getD_mem (by simpa using hj2))
        have e2 : (l.set i 0).getD j 0 = l.getD j 0 := by simp [List.getD_eq_getElem?_getD, List.getElem?_set, hij]
        rw [e2, s2] at this
        omega
      rw [(val i hi).1, (val j hj).1, s] at this
      omega
    have ci1 : 1 ≤ c i := by omega
    rcases S.ord i j hi hj ci1 (by rw [dsJ_len]; exact cj) with a | ⟨a, b, _⟩
    · left
      rw [dsJ_get (by have := (val i hi).2; omega), dsJ_get cj] at a
      have : ((c i - 1 : Nat) : Int) + 1 = c i := by omega
      rw [this] at a
      exact a
    · right
      rw [dsJ_get (by have := (val i hi).2; omega), dsJ_get cj] at a
      have : ((c i - 1 : Nat) : Int) + 1 = c i := by omega
      rw [this] at a
      exact ⟨a, b⟩
end Mine
end

section
open PySem PySem.W PyProof.Rows
set_option maxRecDepth 100000
namespace Mine

/-! ## R1. The divisor methods, ties told -/
/-- a loop that may stop early -/
theorem loopF_stop {f : D → Sg → Option R} (I : Nat → Sg → Prop) (P : Nat → Prop) {stop : R} (hs : ∀ σ, stop ≠ .nxt σ ∧ stop ≠ .cnt σ) : ∀ (ds : List D) (k : Nat) (σ : Sg), I k σ →
    (∀ i σ, (h : i < ds.length) → I (k + i) σ → (f ds[i] σ = some stop ∧ P (k + i)) ∨ ∃ σ', f ds[i] σ = some (.nxt σ') ∧ I (k + i + 1) σ' ∧ ¬ P (k + i)) →
    (loopF f ds σ = some stop ∧ ∃ i, i < ds.length ∧ P (k + i)) ∨ ∃ σ', loopF f ds σ = some (.nxt σ') ∧ I (k + ds.length) σ' ∧ ∀ i, i < ds.length → ¬ P (k + i)
  | [], k, σ, h, _ => .inr ⟨σ, rfl, h, fun i hi => absurd hi (Nat.not_lt_zero i)⟩
  | d :: r, k, σ, h, step => by
    rcases step 0 σ (by simp) h with ⟨e, p⟩ | ⟨σ1, e, h1, np⟩
    · left
      simp only [List.getElem_cons_zero] at e
      refine ⟨?_, 0, by simp, p⟩
      rw [loopF, e, Option.bind_some]
      cases stop with
      | nxt σ' => exact absurd rfl (hs σ').1
      | cnt σ' => exact absurd rfl (hs σ').2
      | ret d => rfl
      | ties => rfl
    · simp only [List.getElem_cons_zero] at e
      have e1 : loopF f (d :: r) σ = loopF f r σ1 := by rw [loopF, e, Option.bind_some]
      rw [e1]
      have := loopF_stop I P hs r (k + 1) σ1 h1 fun i σ hi hI => by
        have := step (i + 1) σ (by simpa using hi) (by rw [show k + (i + 1) = k + 1 + i from by omega]; exact hI)
        rw [show k + (i + 1) = k + 1 + i from by omega] at this
        simpa using this
      rcases this with ⟨a, i, hi, p⟩ | ⟨σ', a, b, c⟩
      · exact .inl ⟨a, i + 1, by simpa using hi, by rw [show k + (i + 1) = k + 1 + i from by omega]; exact p⟩
      · refine .inr ⟨σ', a, by rw [List.length_cons, show k + (r.length + 1) = k + 1 + r.length from by omega]; exact b, fun i hi => ?_⟩
        cases i with
        | zero => exact np
        | succ i =>
          rw [show k + (i + 1) = k + 1 + i from by omega]
          exact c i (by simpa using hi)

section
variable {F : Fn} {mu : Nat → Bool}

/-- a turn that finds the tie and may not -/
theorem d_turn_tie {W : List (List Int)} {M h : Int} {r : List Int} {i : Nat} {σ : Sg} (h1 : σ 1 = some (.int h)) (h3 : σ 3 = some (.bool false)) (h4 : σ 4 = some (DI r)) (h5 : σ 5 = some (.bool false)) (h10 : σ 10 = some (.int M)) (h11 : σ 11 = some (.int (i : Int))) (h12 : σ 12 = some (DI2 W))
    (hi : i < W.length) (ht : (dturn W M h (r, false) i).2 = true) : evSL d_own F mu (d_tie .raise) σ = some .ties := by
  unfold d_tie
  have hq : ((r.sum == h) && has M (W.getD i [])) = true := by simpa [dturn] using ht
  have c1 : ev d_own F false (.bop true (.cons (.cmp .eq d_sum (.v 1)) (.cons d_has .nil))) σ = some (.bool ((r.sum == h) && has M (W.getD i []))) := by
    refine band (ev_cmp (x := .int r.sum) (y := .int h) (ev_sumV h4) (ev_vb h1) rfl) (fun _ => d_has_ev h10 h11 h12 hi)
  rw [hq] at c1
  have n5 : ev d_own F false (.not (.v 5)) σ = some (.bool true) := ev_not (ev_v h5 rfl)
  have n3 : ev d_own F false (.not (.v 3)) σ = some (.bool true) := ev_not (ev_v h3 rfl)
  have : evS d_own F mu (.ite (.bop true (.cons (.cmp .eq d_sum (.v 1)) (.cons d_has .nil))) (.cons (.ite (.not (.v 5)) (.cons (.ite (.not (.v 3)) (.cons .raise .nil) .nil) (.cons (.asg (.v 5) (.k .tru)) .nil)) .nil) .nil) .nil) σ = some .ties := by
    rw [e_ite_t c1]
    unfold evSL
    rw [e_ite_t n5]
    unfold evSL
    rw [e_ite_t n3]
    rfl
  unfold evSL
  rw [this]; rfl

theorem dfold_len {W : List (List Int)} {M h : Int} {r : List Int} (hr : r.length = W.length) : ∀ k, (dfold W M h k (r, false)).1.length = W.length := fun k => by
  unfold dfold
  induction k with
  | zero => exact hr
  | succ k ih =>
    rw [List.range_succ, List.foldl_append]
    simp only [List.foldl_cons, List.foldl_nil, dturn]
    split
    · simp [ih]
    · exact ih
theorem dfold_succ {W : List (List Int)} {M h : Int} {r : List Int} (k : Nat) : dfold W M h (k + 1) (r, false) = dturn W M h (dfold W M h k (r, false)) k := by
  unfold dfold
  rw [List.range_succ, List.foldl_append]; rfl
theorem dfold_tie_mono {W : List (List Int)} {M h : Int} {r : List Int} {k m : Nat} (hkm : k ≤ m) (ht : (dfold W M h k (r, false)).2 = true) : (dfold W M h m (r, false)).2 = true := by
  induction m with
  | zero => have : k = 0 := by omega
            subst this; exact ht
  | succ m ih =>
    by_cases e : k = m + 1
    · subst e; exact ht
    · rw [dfold_succ]
      show ((dfold W M h m (r, false)).2 || _) = true
      rw [ih (by omega)]; rfl

theorem d_loop_tie (hm : ∀ i, mu i = true) {V : List Int} {W : List (List Int)} {M h : Int} {r : List Int} {σ : Sg} (h0 : σ 0 = some (DI V)) (h1 : σ 1 = some (.int h)) (h3 : σ 3 = some (.bool false)) (h4 : σ 4 = some (DI r)) (h5 : σ 5 = some (.bool false)) (h10 : σ 10 = some (.int M)) (h12 : σ 12 = some (DI2 W))
    (hV : V.length = W.length) (hn : W.length ≤ 1000) (hr : r.length = W.length) (ht : (dfold W M h W.length (r, false)).2 = true) :
    evS d_own F mu (.loop (.v 11) (.range1 (.bi .len (.cons (.v 0) .nil))) (d_tie .raise)) σ = some .ties := by
  have hlen : ev d_own F false (.bi .len (.cons (.v 0) .nil)) σ = some (.int W.length) := by rw [← hV]; exact ev_lenV h0
  have inv := loopF_stop (f := fun d σ => (bindP d_own (.v 11) d σ).bind fun σ' => evSL d_own F mu (d_tie .raise) σ')
    (fun k σ' => σ' 1 = some (.int h) ∧ σ' 3 = some (.bool false) ∧ σ' 4 = some (DI (dfold W M h k (r, false)).1) ∧ σ' 5 = some (.bool false) ∧ σ' 10 = some (.int M) ∧ σ' 12 = some (DI2 W) ∧ (dfold W M h k (r, false)).2 = false)
    (fun k => (dfold W M h (k + 1) (r, false)).2 = true) (stop := .ties) (fun σ => ⟨by simp, by simp⟩) (rng W.length) 0 σ ⟨h1, h3, h4, h5, h10, h12, rfl⟩ fun i σ' hi hI => by
      have hi' : i < W.length := by simpa [rng] using hi
      obtain ⟨a1, a3, a4, a5, a10, a12, at_⟩ := hI
      simp only [Nat.zero_add] at a4 at_ ⊢
      have eD : (dfold W M h i (r, false)) = ((dfold W M h i (r, false)).1, false) := Prod.ext rfl at_
      have hb : ∀ {X : SL}, (bindP d_own (.v 11) (rng W.length)[i] σ').bind (fun σ' => evSL d_own F mu X σ') = evSL d_own F mu X (upd σ' 11 (.int (i : Int))) := fun {X} => by
        have : (rng W.length)[i] = D.int (i : Int) := by simp [rng]
        rw [this]
        simp only [bindP]
        rw [if_neg (by decide), Option.bind_some]
      rw [hb]
      by_cases q : (dfold W M h (i + 1) (r, false)).2 = true
      · left
        refine ⟨?_, q⟩
        refine d_turn_tie (W := W) (M := M) (h := h) (r := (dfold W M h i (r, false)).1) (i := i) (by simp [upd, a1]) (by simp [upd, a3]) (by simp [upd, a4]) (by simp [upd, a5]) (by simp [upd, a10]) (by simp [upd]) (by simp [upd, a12]) hi' ?_
        rw [dfold_succ, eD] at q
        exact q
      · right
        have q' : (dfold W M h (i + 1) (r, false)).2 = false := by simpa using q
        obtain ⟨σ2, e, b4, b5, bj⟩ := d_turn_ev (F := F) hm (X := .raise) (σ := upd σ' 11 (.int (i : Int))) (W := W) (M := M) (h := h) (r := (dfold W M h i (r, false)).1) (t := (dfold W M h i (r, false)).2) (ta := false) (i := i) (by simp [upd, a1]) (by simp [upd, a3]) (by simp [upd, a4]) (by rw [at_]; simp [upd, a5]) (by simp [upd, a10]) (by simp [upd]) (by simp [upd, a12]) hi' (dfold_len hr i) (.inr (by rw [← dfold_succ]; exact q'))
        rw [← dfold_succ] at b4 b5
        refine ⟨σ2, e, ⟨by rw [bj 1 (by decide) (by decide)]; simp [upd, a1], by rw [bj 3 (by decide) (by decide)]; simp [upd, a3], b4, by rw [b5, q'], by rw [bj 10 (by decide) (by decide)]; simp [upd, a10], by rw [bj 12 (by decide) (by decide)]; simp [upd, a12], q'⟩, q⟩
  unfold evS
  rw [t_range hlen hn, Option.bind_some]
  rcases inv with ⟨e, _⟩ | ⟨σ', e, hI, np⟩
  · exact e
  · exfalso
    obtain ⟨_, _, _, _, _, _, hf⟩ := hI
    have hrl : 0 + (rng W.length).length = W.length := by simp [rng]
    rw [hrl, ht] at hf; cases hf

/-- did a tie occur? -/
def dtie (V ds r0 : List Int) (h : Int) : Bool := (dfold (dwt V ds) (dmin V ds r0 h) h V.length (dabove V ds r0 h, false)).2
def dout (V ds r0 : List Int) (h : Int) (ta : Bool) : R := if (dtie V ds r0 h && !ta) = true then .ties else .ret (DI (dres V ds r0 h))

theorem d_tail_ta (hm : ∀ i, mu i = true) {X : TS} {V ds r0 : List Int} {h : Int} {ta : Bool} (hX : ta = true ∨ X = .raise) (hV : VOk V) (hd : DsOk ds) (hinc : ds.Pairwise (· < ·)) (hr : ROk V.length 1000 r0) {σ : Sg} {m : PySem.Str} (h0 : σ 0 = some (DI V)) (h1 : σ 1 = some (.int h)) (h2 : σ 2 = some (.str m)) (h3 : σ 3 = some (.bool ta)) (h4 : σ 4 = some (DI r0)) (h6 : σ 6 = some (DT ds))
    (hh : ∀ σ, σ 2 = some (.str m) → ev d_own F false d_hunt σ = some (.bool false)) (hs : (dflat V ds).length < 128) (hk : 1 ≤ h - r0.sum) (hk' : (h - r0.sum).toNat ≤ (dflat V ds).length) :
    evSL d_own F mu (d_tail X) σ = some (dout V ds r0 h ta) := by
  cases ta with
  | true =>
    rw [d_tail_ev (F := F) hm hV hd hr h0 h1 h2 h3 h4 h6 hh hs hk hk']
    unfold dout
    rw [Bool.not_true, Bool.and_false, if_neg (by decide)]
  | false =>
  have hX : X = .raise := by
    rcases hX with z | z
    · cases z
    · exact z
  subst hX
  obtain ⟨σ1, e1, a0, a1, a3, a4, a10, a12⟩ := d_core_ev (F := F) hm hV hd hr h0 h1 h2 h4 h6 hh hs hk hk'
  unfold d_tail
  have cmp : ∀ {σ : Sg} {r : List Int}, σ 1 = some (.int h) → σ 4 = some (DI r) → ev d_own F false (.cmp .gt (.v 1) d_sum) σ = some (.bool (decide (r.sum < h))) := fun {σ r} h1 h4 => ev_cmp (x := .int h) (y := .int r.sum) (ev_vb h1) (ev_sumV h4) rfl
  have c1 := cmp h1 h4
  rw [show decide (r0.sum < h) = true from decide_eq_true (by omega)] at c1
  rw [evSL_nxt (by rw [e_ite_t c1]; exact e1), evSL_nxt (e_asg (d := .bool false) rfl rfl)]
  generalize hσ : upd σ1 5 (.bool false) = σ2
  have b0 : σ2 0 = some (DI V) := by rw [← hσ]; simp [upd, a0]
  have b1 : σ2 1 = some (.int h) := by rw [← hσ]; simp [upd, a1]
  have b3 : σ2 3 = some (.bool false) := by rw [← hσ]; simp [upd, a3, h3]
  have b4 : σ2 4 = some (DI (dabove V ds r0 h)) := by rw [← hσ]; simp [upd, a4]
  have b5 : σ2 5 = some (.bool false) := by rw [← hσ]; simp [upd]
  have b10 : σ2 10 = some (.int (dmin V ds r0 h)) := by rw [← hσ]; simp [upd, a10]
  have b12 : σ2 12 = some (DI2 (dwt V ds)) := by rw [← hσ]; simp [upd, a12]
  have hwl : (dwt V ds).length = V.length := by simp [dwt]
  obtain ⟨hlt, _⟩ := d_spec (V := V) (ds := ds) (r0 := r0) (h := h) hV.lo hd.lo hinc hr.len hk hk'
  have c2 := cmp b1 b4
  rw [decide_eq_true hlt] at c2
  have hdl : (dabove V ds r0 h).length = (dwt V ds).length := by simp [dabove, hwl]
  have n5 := hV.n5
  unfold dout dtie
  cases q : (dfold (dwt V ds) (dmin V ds r0 h) h V.length (dabove V ds r0 h, false)).2 with
  | true =>
    have e3 := d_loop_tie (F := F) hm b0 b1 b3 b4 b5 b10 b12 hwl.symm (by rw [hwl]; omega) hdl (by rw [hwl]; exact q)
    have e4 : evS d_own F mu (.ite (.cmp .gt (.v 1) d_sum) (.cons (.loop (.v 11) (.range1 (.bi .len (.cons (.v 0) .nil))) (d_tie .raise)) .nil) .nil) σ2 = some .ties := by
      rw [e_ite_t c2]
      unfold evSL
      rw [e3]; rfl
    unfold evSL
    rw [e4]; rfl
  | false =>
    obtain ⟨σ3, e3, d3, d4, d5⟩ := d_loop_ev (F := F) hm (X := .raise) b0 b1 b3 b4 b5 b10 b12 hwl.symm (by rw [hwl]; omega) hdl (.inr fun k hk => by
      cases z : (dfold (dwt V ds) (dmin V ds r0 h) h k (dabove V ds r0 h, false)).2 with
      | false => rfl
      | true => rw [dfold_tie_mono (by rw [hwl] at hk; exact hk) z] at q; cases q)
    rw [evSL_nxt (σ' := σ3) (by rw [e_ite_t c2, evSL_nxt e3]; rfl)]
    rw [hwl] at d4 d5
    rw [q] at d5
    have c : ev d_own F false (.bop true (.cons (.v 5) (.cons (.not (.v 3)) .nil))) σ3 = some (.bool (false && true)) := band (ev_v d5 rfl) fun z => by cases z
    rw [evSL_nxt (σ' := σ3) (by rw [e_ite_f c]; rfl), evSL_ret (e_retO rfl d4)]
    unfold dres
    rw [if_pos hlt]
    rfl
end
end Mine
end

section
open PySem PySem.W PyProof.Rows
set_option maxRecDepth 100000
namespace Mine

/-! ## R2. The divisor methods by name -/
def dsW (h : Nat) : List Int := (List.range h).map fun (i : Nat) => 2 * (i : Int) + 1
def ones (V : List Int) : List Int := List.replicate V.length 1
theorem dsW_get {h t : Nat} (ht : t < h) : (dsW h).getD t 0 = 2 * t + 1 := by unfold dsW; rw [getD_map_range ht]
theorem dsW_len (h : Nat) : (dsW h).length = h := by simp [dsW]
theorem dsW_lo (h : Nat) : ∀ d ∈ dsW h, 1 ≤ d := fun d hd => by
  obtain ⟨i, _, rfl⟩ := List.mem_map.mp hd; omega
theorem dsW_ok {h : Nat} (hh : h ≤ 40) : DsOk (dsW h) := ⟨by rw [dsW_len]; exact hh, dsW_lo h, fun d hd => by
  obtain ⟨i, hi, rfl⟩ := List.mem_map.mp hd
  have := List.mem_range.mp hi; omega⟩
theorem dsW_inc (h : Nat) : (dsW h).Pairwise (· < ·) := by
  unfold dsW
  rw [List.pairwise_map]
  exact List.pairwise_lt_range.imp fun {a b} hab => by omega
theorem ones_sum (V : List Int) : (ones V).sum = V.length := go V.length where
  go : ∀ n : Nat, (List.replicate n (1 : Int)).sum = n := fun n => by
    induction n with
    | zero => rfl
    | succ n ih => rw [List.replicate_succ, List.sum_cons, ih]; omega
theorem ones_ok {V : List Int} (hV : VOk V) : ROk V.length 1000 (ones V) := ⟨by simp [ones], fun x hx => by have := List.eq_of_mem_replicate hx; omega, by rw [ones_sum]; have := hV.n5; omega⟩

theorem rep1 : ∀ V : List Int, V.map (fun _ => D.int 1) = List.replicate V.length (D.int 1)
  | [] => rfl
  | x :: r => by rw [List.map_cons, rep1 r]; rfl
def d_win : T := (.cmp .inn (.v 2) (.list (.cons (.k (.str (PySem.Str.ofString "saintelague"))) (.cons (.k (.str (PySem.Str.ofString "webster"))) (.cons (.k (.str (PySem.Str.ofString "majorfractions"))) .nil)))))
def d_wds : T := (.comp (.tup (.cons (.op .add (.op .mul (.k (.int 2)) (.v 11)) (.k (.int 1))) (.cons (.k (.int 1)) .nil))) (.cons (.v 11) (.range1 (.v 1)) .nil .nil))
def d_min' : T := (.cmp .inn (.v 2) (.list (.cons (.k (.str (PySem.Str.ofString "modified_saintelague"))) .nil)))
def d_ain : T := (.cmp .inn (.v 2) (.list (.cons (.k (.str (PySem.Str.ofString "adams"))) (.cons (.k (.str (PySem.Str.ofString "smallestdivisor"))) .nil))))
def d_ones : T := (.comp (.ite (.cmp .gt (.v 13) (.k (.int 0))) (.k (.int 1)) (.k (.int 0))) (.cons (.v 13) (.t (.v 0)) .nil .nil))
def wNames : List PySem.Str := [PySem.Str.ofString "saintelague", PySem.Str.ofString "webster", PySem.Str.ofString "majorfractions"]
def aNames : List PySem.Str := [PySem.Str.ofString "adams", PySem.Str.ofString "smallestdivisor"]
def d_zero : TS := .own1 4 (.rep (.k (.int 0)) (.bi .len (.cons (.v 0) .nil)))

section
variable {F : Fn} {mu : Nat → Bool}

theorem d_wds_ev {h : Nat} {σ : Sg} (hh : h ≤ 40) (h1 : σ 1 = some (.int h)) : ev d_own F false d_wds σ = some (DT (dsW h)) := by
  unfold d_wds
  rw [t_rangeMap (n := h) (f := fun i => D.tup [.int (2 * (i : Int) + 1), .int 1]) rfl (by simp only [ev]; rw [if_neg (by decide), h1]) (by omega) fun i _ => ?_]
  · simp [DT, dsW]
  · exact ev_tup2 (ev_op (x := .int (2 * (i : Int))) (ev_op (x := .int 2) (y := .int (i : Int)) ev_k (ev_v (by simp [upd]) rfl) (op_mul (.inl (by decide)))) ev_k rfl) ev_k

/-- a state as the divisor's body has it -/
structure DSt (σ : Sg) (V : List Int) (h : Nat) (m : PySem.Str) (ta : Bool) (r : List Int) : Prop where
  h0 : σ 0 = some (DI V)
  h1 : σ 1 = some (.int h)
  h2 : σ 2 = some (.str m)
  h3 : σ 3 = some (.bool ta)
  h4 : σ 4 = some (DI r)

theorem d_zero_ev (hm : ∀ i, mu i = true) {V : List Int} {h : Nat} {m : PySem.Str} {ta : Bool} (hV : VOk V) {σ : Sg} (h0 : σ 0 = some (DI V)) (h1 : σ 1 = some (.int h)) (h2 : σ 2 = some (.str m)) (h3 : σ 3 = some (.bool ta)) :
    ∃ σ', evS d_own F mu d_zero σ = some (.nxt σ') ∧ DSt σ' V h m ta (zeros V) := by
  have e2 : ev d_own F false (.rep (.k (.int 0)) (.bi .len (.cons (.v 0) .nil))) σ = some (.list (List.replicate V.length (.int 0))) := by
    simp only [ev, evL]
    rw [if_neg (by decide), h0]
    simp only [Option.bind_some, bi_len, intD, K.d]
    rw [if_pos ⟨by omega, by have := hV.n5; simp [LB]; omega⟩]
    simp
  exact ⟨_, e_own1 e2 rfl (hm 4) rfl, by simp [upd, h0], by simp [upd, h1], by simp [upd, h2], by simp [upd, h3], by simp [upd, DI, zeros]⟩

theorem d_hunt_no {m : PySem.Str} (hmn : m ∈ jNames ++ wNames ++ aNames) (σ : Sg) (e : σ 2 = some (.str m)) : ev d_own F false d_hunt σ = some (.bool false) := by
  unfold d_hunt
  simp only [jNames, wNames, aNames, List.cons_append, List.nil_append, List.mem_cons, List.not_mem_nil, or_false] at hmn
  simp only [ev, evL]
  rw [if_neg (by decide), e]
  rcases hmn with rfl | rfl | rfl | rfl | rfl | rfl | rfl | rfl <;> rfl

theorem d_end (hm : ∀ i, mu i = true) {X : TS} {V ds r0 : List Int} {h : Nat} {ta : Bool} {m : PySem.Str} (hX : ta = true ∨ X = .raise) (hV : VOk V) (hmn : m ∈ jNames ++ wNames ++ aNames) (hd : DsOk ds) (hl : ds.length = h) (hinc : ds.Pairwise (· < ·)) (hr : ROk V.length 1000 r0) (hh : h ≤ 16) (hk : 1 ≤ (h : Int) - r0.sum) (hr0 : 0 ≤ r0.sum) {σ : Sg} (s : DSt σ V h m ta r0) :
    evSL d_own F mu (d_tail X) (upd σ 6 (DT ds)) = some (dout V ds r0 h ta) := by
  have hfl : (dflat V ds).length = V.length * h := by rw [flatten_len, hl]
  have n5 := hV.n5
  have n1 := hV.n1
  have hmul : V.length * h ≤ 5 * 16 := Nat.mul_le_mul n5 hh
  have hmul' : 1 * h ≤ V.length * h := Nat.mul_le_mul_right h n1
  exact d_tail_ta hm hX hV hd hinc hr (m := m) (by simp [upd, s.h0]) (by simp [upd, s.h1]) (by simp [upd, s.h2]) (by simp [upd, s.h3]) (by simp [upd, s.h4]) (by simp [upd]) (fun σ e => d_hunt_no hmn σ e) (by rw [hfl]; omega) hk (by rw [hfl]; omega)

theorem d_ev_J (hm : ∀ i, mu i = true) {X : TS} {B : SL} {V : List Int} {h : Nat} {m : PySem.Str} {ta : Bool} (hX : ta = true ∨ X = .raise) (hV : VOk V) (hh : h ≤ 16) (h1' : 1 ≤ h) (hmn : m ∈ jNames) {σ : Sg} (h0 : σ 0 = some (DI V)) (h1 : σ 1 = some (.int h)) (h2 : σ 2 = some (.str m)) (h3 : σ 3 = some (.bool ta)) :
    evSL d_own F mu (.cons d_zero (.cons (.ite d_jin (.cons (.asg (.v 6) d_jds) .nil) B) (d_tail X))) σ = some (dout V (dsJ h) (zeros V) h ta) := by
  obtain ⟨σ1, e1, s⟩ := d_zero_ev (F := F) hm hV h0 h1 h2 h3
  rw [evSL_nxt e1]
  have c1 : ev d_own F false d_jin σ1 = some (.bool true) := by
    unfold d_jin
    have hmn' := hmn
    simp only [jNames, List.mem_cons, List.not_mem_nil, or_false] at hmn'
    simp only [ev, evL]
    rw [if_neg (by decide), s.h2]
    rcases hmn' with rfl | rfl | rfl <;> rfl
  rw [evSL_nxt (by rw [e_ite_t c1, evSL_nxt (e_asg (d_jds_ev (by omega) s.h1) rfl)]; rfl)]
  exact d_end hm hX hV (by simp [hmn]) (dsJ_ok (by omega)) (dsJ_len h) (dsJ_inc h) (zeros_ok V) hh (by rw [zeros_sum]; omega) (by rw [zeros_sum]; omega) s

theorem d_ev_W (hm : ∀ i, mu i = true) {X : TS} {A B : SL} {V : List Int} {h : Nat} {m : PySem.Str} {ta : Bool} (hX : ta = true ∨ X = .raise) (hV : VOk V) (hh : h ≤ 16) (h1' : 1 ≤ h) (hmn : m ∈ wNames) {σ : Sg} (h0 : σ 0 = some (DI V)) (h1 : σ 1 = some (.int h)) (h2 : σ 2 = some (.str m)) (h3 : σ 3 = some (.bool ta)) :
    evSL d_own F mu (.cons d_zero (.cons (.ite d_jin A (.cons (.ite d_win (.cons (.asg (.v 6) d_wds) .nil) B) .nil)) (d_tail X))) σ = some (dout V (dsW h) (zeros V) h ta) := by
  obtain ⟨σ1, e1, s⟩ := d_zero_ev (F := F) hm hV h0 h1 h2 h3
  rw [evSL_nxt e1]
  have hmn' := hmn
  simp only [wNames, List.mem_cons, List.not_mem_nil, or_false] at hmn'
  have c1 : ev d_own F false d_jin σ1 = some (.bool false) := by
    unfold d_jin
    simp only [ev, evL]
    rw [if_neg (by decide), s.h2]
    rcases hmn' with rfl | rfl | rfl <;> rfl
  have c2 : ev d_own F false d_win σ1 = some (.bool true) := by
    unfold d_win
    simp only [ev, evL]
    rw [if_neg (by decide), s.h2]
    rcases hmn' with rfl | rfl | rfl <;> rfl
  rw [evSL_nxt (by rw [e_ite_f c1, evSL_nxt (by rw [e_ite_t c2, evSL_nxt (e_asg (d_wds_ev (by omega) s.h1) rfl)]; rfl)]; rfl)]
  exact d_end hm hX hV (by simp [hmn]) (dsW_ok (by omega)) (dsW_len h) (dsW_inc h) (zeros_ok V) hh (by rw [zeros_sum]; omega) (by rw [zeros_sum]; omega) s

def aout (V : List Int) (h : Nat) (ta : Bool) : R := if h = V.length then .ret (DI (ones V)) else dout V (dsJ h) (ones V) h ta
theorem d_ev_A (hm : ∀ i, mu i = true) {X : TS} {A1 A2 A3 A4 B C : SL} {V : List Int} {h : Nat} {m : PySem.Str} {ta : Bool} (hX : ta = true ∨ X = .raise) (hV : VOk V) (hh : h ≤ 16) (h1' : V.length ≤ h) (hmn : m ∈ aNames) {σ : Sg} (h0 : σ 0 = some (DI V)) (h1 : σ 1 = some (.int h)) (h2 : σ 2 = some (.str m)) (h3 : σ 3 = some (.bool ta)) :
    evSL d_own F mu (.cons d_zero (.cons (.ite d_jin A1 (.cons (.ite d_win A2 (.cons (.ite d_min' A3 (.cons (.ite d_hunt A4 (.cons (.ite d_ain (.cons (.ite (.cmp .lt (.v 1) (.bi .len (.cons (.v 0) .nil))) C (.cons (.own1 4 d_ones) (.cons (.asg (.v 6) d_jds) .nil))) .nil) B) .nil)) .nil)) .nil)) .nil)) (d_tail X))) σ = some (aout V h ta) := by
  obtain ⟨σ1, e1, s⟩ := d_zero_ev (F := F) hm hV h0 h1 h2 h3
  rw [evSL_nxt e1]
  have hmn' := hmn
  simp only [aNames, List.mem_cons, List.not_mem_nil, or_false] at hmn'
  have c1 : ev d_own F false d_jin σ1 = some (.bool false) := by
    unfold d_jin
    simp only [ev, evL]
    rw [if_neg (by decide), s.h2]
    rcases hmn' with rfl | rfl <;> rfl
  have c2 : ev d_own F false d_win σ1 = some (.bool false) := by
    unfold d_win
    simp only [ev, evL]
    rw [if_neg (by decide), s.h2]
    rcases hmn' with rfl | rfl <;> rfl
  have c3 : ev d_own F false d_min' σ1 = some (.bool false) := by
    unfold d_min'
    simp only [ev, evL]
    rw [if_neg (by decide), s.h2]
    rcases hmn' with rfl | rfl <;> rfl
  have c4 : ev d_own F false d_hunt σ1 = some (.bool false) := d_hunt_no (by simp [hmn]) σ1 s.h2
  have c5 : ev d_own F false d_ain σ1 = some (.bool true) := by
    unfold d_ain
    simp only [ev, evL]
    rw [if_neg (by decide), s.h2]
    rcases hmn' with rfl | rfl <;> rfl
  have c6 : ev d_own F false (.cmp .lt (.v 1) (.bi .len (.cons (.v 0) .nil))) σ1 = some (.bool false) := by
    refine ev_cmp (ev_vb s.h1) (ev_lenV s.h0) ?_
    show some (decide ((h : Int) < V.length)) = _
    rw [decide_eq_false (by omega)]
  have e4 : ev d_own F false d_ones σ1 = some (DI (ones V)) := by
    unfold d_ones
    rw [t_map (ds := V.map .int) (f := fun _ => .int 1) rfl (sr_v s.h0 rfl) (fun d hd => ?_) (by have := hV.n5; simp [LB]; omega)]
    · simp only [DI, ones, List.map_map, List.map_replicate, Function.comp_def]
      rw [rep1]
    · obtain ⟨p, hp, rfl⟩ := List.mem_map.mp hd
      have lo := hV.lo _ hp
      have c : ev d_own F false (.cmp .gt (.v 13) (.k (.int 0))) (upd σ1 13 (.int p)) = some (.bool true) := by
        refine ev_cmp (x := .int p) (y := .int 0) (ev_vb (by simp [upd])) ev_k ?_
        show some (decide (0 < p)) = _
        rw [decide_eq_true (by omega)]
      unfold ev
      rw [c]; rfl
  have s2 : DSt (upd σ1 4 (DI (ones V))) V h m ta (ones V) := ⟨by simp [upd, s.h0], by simp [upd, s.h1], by simp [upd, s.h2], by simp [upd, s.h3], by simp [upd]⟩
  have inner : evSL d_own F mu (.cons (.own1 4 d_ones) (.cons (.asg (.v 6) d_jds) .nil)) σ1 = some (.nxt (upd (upd σ1 4 (DI (ones V))) 6 (DT (dsJ h)))) := by
    rw [evSL_nxt (e_own1 e4 rfl (hm 4) rfl)]
    show evSL d_own F mu (.cons (.asg (.v 6) d_jds) .nil) (upd σ1 4 (DI (ones V))) = _
    have ej := d_jds_ev (F := F) (h := h) (by omega) s2.h1
    rw [evSL_nxt (σ' := upd (upd σ1 4 (DI (ones V))) 6 (DT (dsJ h))) (e_asg (i := 6) ej rfl)]; rfl
  have step : ∀ {c : T} {A E : SL} {σ' : Sg}, ev d_own F false c σ1 = some (.bool false) → evSL d_own F mu E σ1 = some (.nxt σ') → evSL d_own F mu (.cons (.ite c A E) .nil) σ1 = some (.nxt σ') := fun {c A E σ'} c1 e => by
    rw [evSL_nxt (σ' := σ') (by rw [e_ite_f c1]; exact e)]; rfl
  have i5 : evSL d_own F mu (.cons (.ite d_ain (.cons (.ite (.cmp .lt (.v 1) (.bi .len (.cons (.v 0) .nil))) C (.cons (.own1 4 d_ones) (.cons (.asg (.v 6) d_jds) .nil))) .nil) B) .nil) σ1 = some (.nxt (upd (upd σ1 4 (DI (ones V))) 6 (DT (dsJ h)))) := by
    rw [evSL_nxt (by rw [e_ite_t c5]; exact step c6 inner)]; rfl
  rw [evSL_nxt (by rw [e_ite_f c1]; exact step c2 (step c3 (step c4 i5)))]
  unfold aout
  by_cases hz : h = V.length
  · rw [if_pos hz]
    exact d_tail_zero hm (h := (h : Int)) (ta := ta) (by simp [upd, s.h1]) (by simp [upd, s.h3]) (by simp [upd]) (by rw [ones_sum]; omega)
  · rw [if_neg hz]
    exact d_end hm hX hV (by simp [hmn]) (dsJ_ok (by omega)) (dsJ_len h) (dsJ_inc h) (ones_ok hV) hh (by rw [ones_sum]; omega) (by rw [ones_sum]; omega) s2
end
end Mine
end

section
open PySem PySem.W PyProof.Rows
set_option maxRecDepth 100000
namespace Mine

/-! ## R3. Hamilton's place on the line of the methods -/
/-- what a divisor method answers, by its signposts b * seats + a -/
structure MSpec (V : List Int) (h a b : Int) (S : List Int) (t : Bool) : Prop where
  len : S.length = V.length
  sum : S.sum = h
  nn : ∀ i, i < V.length → 0 ≤ S.getD i 0
  ord : t = false → ∀ i j, i < V.length → j < V.length → i ≠ j → 1 ≤ S.getD i 0 → V.getD j 0 * (b * (S.getD i 0 - 1) + a) < V.getD i 0 * (b * S.getD j 0 + a)
  tied : t = true → ∃ i j, i < V.length ∧ j < V.length ∧ i ≠ j ∧ 0 < S.getD i 0 ∧ 0 < b * (S.getD i 0 - 1) + a ∧ V.getD i 0 * (b * S.getD j 0 + a) = V.getD j 0 * (b * (S.getD i 0 - 1) + a)

theorem two_sum {l : List Int} (nn : ∀ x ∈ l, 0 ≤ x) {i j : Nat} (hi : i < l.length) (hj : j < l.length) (hij : i ≠ j) : l.getD i 0 + l.getD j 0 ≤ l.sum := by
  have s2 := sum_set (l := l) (k := i) (x := 0) hi
  have nn2 : ∀ x ∈ l.set i 0, 0 ≤ x := fun x hx => by
    rcases List.mem_or_eq_of_mem_set hx with z | z
    · exact nn x z
    · omega
  have := le_sum nn2 ((l.set i 0).getD j 0) (getD_mem (by simpa using hj))
  have e2 : (l.set i 0).getD j 0 = l.getD j 0 := by simp [List.getD_eq_getElem?_getD, List.getElem?_set, hij]
  rw [e2, s2] at this
  omega

theorem m_spec {V ds r0 : List Int} {h : Nat} {a b ρ : Int} (hV : ∀ v ∈ V, 1 ≤ v) (hd : ∀ d ∈ ds, 1 ≤ d) (hl : ds.length = h) (hinc : ds.Pairwise (· < ·)) (hr0 : r0.length = V.length) (hρ : ∀ i, i < V.length → r0.getD i 0 = ρ) (hρ0 : ρ = 0 ∨ ρ = 1)
    (hds : ∀ t : Nat, t < h → ds.getD t 0 = b * (ρ + t) + a) (hb : 0 < b) (hz : ρ = 0 → 0 < a) (h1 : ρ = 1 → b * (ρ - 1) + a = 0) (hk : 1 ≤ (h : Int) - r0.sum) (hk' : ((h : Int) - r0.sum).toNat ≤ (dflat V ds).length) :
    MSpec V h a b (dres V ds r0 h) (dtie V ds r0 h) := by
  obtain ⟨_, c, S⟩ := d_spec (V := V) (ds := ds) (r0 := r0) (h := h) hV hd hinc hr0 hk hk'
  have S : DSpec V ds r0 h (dres V ds r0 h) (dtie V ds r0 h) c := S
  have val : ∀ i, i < V.length → (dres V ds r0 h).getD i 0 = ρ + c i := fun i hi => by rw [(S.val i hi).1, hρ i hi]
  have nn : ∀ x ∈ dres V ds r0 h, 0 ≤ x := fun x hx => by
    obtain ⟨i, hi, e⟩ := List.getElem_of_mem hx
    have hi' : i < V.length := by rw [← S.len]; exact hi
    have := val i hi'
    rw [List.getD_eq_getElem?_getD, List.getElem?_eq_getElem hi] at this
    simp at this; omega
  have cl : ∀ i, i < V.length → c i ≤ h := fun i hi => by rw [← hl]; exact (S.val i hi).2
  have bc : ∀ t : Nat, (1 ≤ t → b * (ρ + ((t - 1 : Nat) : Int)) + a = b * (ρ + (t : Int) - 1) + a) := fun t ht => by
    rw [show ρ + ((t - 1 : Nat) : Int) = ρ + (t : Int) - 1 by omega]
  refine ⟨S.len, S.sum, fun i hi => by rw [val i hi]; omega, fun ht i j hi hj hij p => ?_, fun ht => ?_⟩
  · have ts := two_sum nn (i := i) (j := j) (by rw [S.len]; exact hi) (by rw [S.len]; exact hj) hij
    rw [S.sum] at ts
    rw [val i hi, val j hj] at ts
    rw [val i hi] at p
    rw [val i hi, val j hj]
    have vi := hV _ (getD_mem hi)
    have vj := hV _ (getD_mem hj)
    by_cases ci : 1 ≤ c i
    · have cj : c j < h := by omega
      rcases S.ord i j hi hj ci (by rw [hl]; exact cj) with q | ⟨_, _, q⟩
      · rw [hds _ (by have := cl i hi; omega), hds _ cj, bc _ ci] at q
        exact q
      · rw [ht] at q; cases q
    · have r1 : ρ = 1 := by omega
      have z := h1 r1
      rw [show ρ + (c i : Int) - 1 = ρ - 1 by omega, z, Int.mul_zero]
      have p1 : 0 < b * (ρ + c j) + a := by
        have e : b * (ρ + c j) + a = (b * (ρ - 1) + a) + b * (1 + c j) := by grind
        rw [e, z, Int.zero_add]
        exact Int.mul_pos hb (by omega)
      exact Int.mul_pos (by omega) p1
  · obtain ⟨i, j, hij, hj, ci, cj, e⟩ := S.tied ht
    have hi : i < V.length := by omega
    rw [hl] at cj
    have ci2 : c i - 1 < ds.length := by rw [hl]; have := cl i hi; omega
    have dp := hd _ (getD_mem ci2)
    rw [hds _ (by rw [hl] at ci2; exact ci2), hds _ cj, bc _ ci] at e
    rw [hds _ (by rw [hl] at ci2; exact ci2), bc _ ci] at dp
    refine ⟨i, j, hi, hj, by omega, by rw [val i hi]; omega, by rw [val i hi]; omega, ?_⟩
    rw [val i hi, val j hj]
    exact e.symm

theorem flat_ge {V ds : List Int} {h : Nat} (n1 : 1 ≤ V.length) (hl : ds.length = h) : h ≤ (dflat V ds).length := by
  rw [flatten_len, hl]
  have := Nat.mul_le_mul_right h n1
  omega
theorem zeros_get {V : List Int} : ∀ i, i < V.length → (zeros V).getD i 0 = 0 := fun i hi => by simp [zeros, List.getD_eq_getElem?_getD, List.getElem?_replicate, hi]
theorem ones_get {V : List Int} : ∀ i, i < V.length → (ones V).getD i 0 = 1 := fun i hi => by simp [ones, List.getD_eq_getElem?_getD, List.getElem?_replicate, hi]

theorem j_spec {V : List Int} (hV : VOk V) {h : Nat} (h1 : 1 ≤ h) : MSpec V h 1 1 (dres V (dsJ h) (zeros V) h) (dtie V (dsJ h) (zeros V) h) :=
  m_spec (ρ := 0) hV.lo (dsJ_lo h) (dsJ_len h) (dsJ_inc h) (by simp [zeros]) zeros_get (.inl rfl) (fun t ht => by rw [dsJ_get ht]; omega) (by decide) (fun _ => by decide) (fun z => by omega) (by rw [zeros_sum]; omega) (by rw [zeros_sum]; have := flat_ge (V := V) hV.n1 (dsJ_len h); omega)
theorem w_spec {V : List Int} (hV : VOk V) {h : Nat} (h1 : 1 ≤ h) : MSpec V h 1 2 (dres V (dsW h) (zeros V) h) (dtie V (dsW h) (zeros V) h) :=
  m_spec (ρ := 0) hV.lo (dsW_lo h) (dsW_len h) (dsW_inc h) (by simp [zeros]) zeros_get (.inl rfl) (fun t ht => by rw [dsW_get ht]; omega) (by decide) (fun _ => by decide) (fun z => by omega) (by rw [zeros_sum]; omega) (by rw [zeros_sum]; have := flat_ge (V := V) hV.n1 (dsW_len h); omega)
def aD (V : List Int) (h : Nat) : List Int × Bool := if h = V.length then (ones V, false) else (dres V (dsJ h) (ones V) h, dtie V (dsJ h) (ones V) h)
theorem a_spec {V : List Int} (hV : VOk V) {h : Nat} (h1 : V.length ≤ h) : MSpec V h 0 1 (aD V h).1 (aD V h).2 := by
  unfold aD
  by_cases z : h = V.length
  · rw [if_pos z]
    refine ⟨by simp [ones], by rw [ones_sum, z], fun i hi => ?_, fun _ i j hi hj _ _ => ?_, fun q => by cases q⟩
    · show 0 ≤ (ones V).getD i 0; rw [ones_get i hi]; decide
    · show V.getD j 0 * (1 * ((ones V).getD i 0 - 1) + 0) < V.getD i 0 * (1 * (ones V).getD j 0 + 0)
      rw [ones_get i hi, ones_get j hj]
      have := hV.lo _ (getD_mem hi); omega
  · rw [if_neg z]
    exact m_spec (ρ := 1) hV.lo (dsJ_lo h) (dsJ_len h) (dsJ_inc h) (by simp [ones]) ones_get (.inr rfl) (fun t ht => by rw [dsJ_get ht]; omega) (by decide) (fun z => by omega) (fun z => by decide) (by rw [ones_sum]; omega) (by rw [ones_sum]; have := flat_ge (V := V) hV.n1 (dsJ_len h); omega)

/-- a weighing of one party against all -/
theorem sum_dot {v c : Int} {V S : List Int} (hl : S.length = V.length) (h : ∀ i, i < V.length → v * S.getD i 0 < V.getD i 0 * c) (hne : 1 ≤ V.length) : v * S.sum < V.sum * c := by
  induction V generalizing S with
  | nil => simp at hne
  | cons x r ih =>
    cases S with
    | nil => simp at hl
    | cons y q =>
      have h0 := h 0 (by simp)
      simp only [List.getD_cons_zero] at h0
      simp only [List.sum_cons, Int.mul_add, Int.add_mul]
      by_cases e : r = []
      · subst e
        have : q = [] := by simpa using hl
        subst this; simpa using h0
      · have := ih (S := q) (by simpa using hl) (fun i hi => by
          have := h (i + 1) (by simpa using hi)
          simpa using this) (by cases r with | nil => exact absurd rfl e | cons _ _ => simp)
        omega
theorem sum_dot' {v c : Int} {V S : List Int} (hl : S.length = V.length) (h : ∀ i, i < V.length → V.getD i 0 * c < v * S.getD i 0) (hne : 1 ≤ V.length) : V.sum * c < v * S.sum := by
  induction V generalizing S with
  | nil => simp at hne
  | cons x r ih =>
    cases S with
    | nil => simp at hl
    | cons y q =>
      have h0 := h 0 (by simp)
      simp only [List.getD_cons_zero] at h0
      simp only [List.sum_cons, Int.mul_add, Int.add_mul]
      by_cases e : r = []
      · subst e
        have : q = [] := by simpa using hl
        subst this; simpa using h0
      · have := ih (S := q) (by simpa using hl) (fun i hi => by
          have := h (i + 1) (by simpa using hi)
          simpa using this) (by cases r with | nil => exact absurd rfl e | cons _ _ => simp)
        omega

/-- the share's two sides -/
theorem h_sides {V S : List Int} {h d : Int} (hs : 1 ≤ V.sum) (s : HSpec V h S d) {i : Nat} (hi : i < V.length) : S.getD i 0 * V.sum ≤ V.getD i 0 * h + d ∧ V.getD i 0 * h + d < (S.getD i 0 + 1) * V.sum := by
  rw [s.val i hi]
  generalize V.getD i 0 * h + d = x
  have e := Int.mul_ediv_add_emod x V.sum
  have a := Int.emod_nonneg x (show V.sum ≠ 0 by omega)
  have b := Int.emod_lt_of_pos x (show 0 < V.sum by omega)
  rw [Int.mul_comm] at e
  rw [Int.add_mul]
  omega
theorem h_nn {V S : List Int} {h d : Int} (hV : VOk V) (hh : 0 ≤ h) (s : HSpec V h S d) {i : Nat} (hi : i < V.length) : 0 ≤ S.getD i 0 := by
  rw [s.val i hi]
  have := hV.lo _ (getD_mem hi)
  exact Int.ediv_nonneg (Int.add_nonneg (Int.mul_nonneg (by omega) hh) s.d0) (by have := hV.sum; omega)

section
variable {V S M : List Int} {h d : Int} (hV : VOk V) (hh : 0 ≤ h) (s : HSpec V h S d)
include hV hh s

theorem jeff_least (m : MSpec V h 1 1 M false) {k : Nat} (hk : k < V.length) : -1 ≤ M.getD k 0 - S.getD k 0 := by
  refine Int.not_lt.mp fun z => ?_
  have hs := hV.sum.1
  have nk := m.nn k hk
  have key := sum_dot (v := V.getD k 0) (c := M.getD k 0 + 1) (V := V) (S := M) m.len (fun i hi => by
    have vi := hV.lo _ (getD_mem hi)
    by_cases e : i = k
    · subst e; rw [Int.mul_add]; omega
    · by_cases p : 1 ≤ M.getD i 0
      · have := m.ord rfl i k hi hk e p
        grind
      · have := m.nn i hi
        rw [show M.getD i 0 = 0 by omega, Int.mul_zero]
        exact Int.mul_pos (by omega) (by omega)) hV.n1
  rw [m.sum] at key
  obtain ⟨a, _⟩ := h_sides hs s hk
  have d1 := s.d1
  have : V.sum * (M.getD k 0 + 1) ≤ V.sum * (S.getD k 0 - 1) := Int.mul_le_mul_of_nonneg_left (by omega) (by omega)
  grind
theorem jeff_pair (m : MSpec V h 1 1 M false) {i j : Nat} (hi : i < V.length) (hj : j < V.length) (gi : S.getD i 0 < M.getD i 0) (lj : M.getD j 0 < S.getD j 0) : V.getD j 0 < V.getD i 0 := by
  have hs := hV.sum.1
  have vi := hV.lo _ (getD_mem hi)
  have vj := hV.lo _ (getD_mem hj)
  have si := h_nn hV hh s hi
  have hij : i ≠ j := fun z => by subst z; omega
  have o := m.ord rfl i j hi hj hij (by omega)
  obtain ⟨_, a⟩ := h_sides hs s hi
  obtain ⟨b, _⟩ := h_sides hs s hj
  have o1 : V.getD j 0 * (S.getD i 0 + 1) ≤ V.getD j 0 * (M.getD i 0) := Int.mul_le_mul_of_nonneg_left (by omega) (by omega)
  have o2 : V.getD i 0 * (M.getD j 0 + 1) ≤ V.getD i 0 * (S.getD j 0) := Int.mul_le_mul_of_nonneg_left (by omega) (by omega)
  have o3 : V.getD j 0 * (S.getD i 0 + 1) < V.getD i 0 * (S.getD j 0) := by grind
  have p1 := Int.mul_lt_mul_of_pos_left a (show 0 < V.getD j 0 by omega)
  have p2 := Int.mul_le_mul_of_nonneg_left b (show 0 ≤ V.getD i 0 by omega)
  have p3 := Int.mul_lt_mul_of_pos_right o3 (show 0 < V.sum by omega)
  have q : V.getD j 0 * d < V.getD i 0 * d := by grind
  exact Int.lt_of_mul_lt_mul_right q s.d0

theorem adams_most (m : MSpec V h 0 1 M false) {k : Nat} (hk : k < V.length) : M.getD k 0 - S.getD k 0 ≤ 1 := by
  refine Int.not_lt.mp fun z => ?_
  have hs := hV.sum.1
  have sk := h_nn hV hh s hk
  have vk := hV.lo _ (getD_mem hk)
  have key := sum_dot' (v := V.getD k 0) (c := M.getD k 0 - 1) (V := V) (S := M) m.len (fun i hi => by
    by_cases e : i = k
    · subst e; rw [Int.mul_sub]; omega
    · have := m.ord rfl k i hk hi (Ne.symm e) (by omega)
      grind) hV.n1
  rw [m.sum] at key
  obtain ⟨_, a⟩ := h_sides hs s hk
  have d0 := s.d0
  have : V.sum * (S.getD k 0 + 1) ≤ V.sum * (M.getD k 0 - 1) := Int.mul_le_mul_of_nonneg_left (by omega) (by omega)
  grind
theorem adams_pair (m : MSpec V h 0 1 M false) {i j : Nat} (hi : i < V.length) (hj : j < V.length) (gi : S.getD i 0 < M.getD i 0) (lj : M.getD j 0 < S.getD j 0) : V.getD i 0 < V.getD j 0 := by
  have hs := hV.sum.1
  have vi := hV.lo _ (getD_mem hi)
  have vj := hV.lo _ (getD_mem hj)
  have si := h_nn hV hh s hi
  have hij : i ≠ j := fun z => by subst z; omega
  have o := m.ord rfl i j hi hj hij (by omega)
  obtain ⟨_, a⟩ := h_sides hs s hi
  obtain ⟨b, _⟩ := h_sides hs s hj
  have o1 : V.getD j 0 * S.getD i 0 ≤ V.getD j 0 * (M.getD i 0 - 1) := Int.mul_le_mul_of_nonneg_left (by omega) (by omega)
  have o2 : V.getD i 0 * M.getD j 0 ≤ V.getD i 0 * (S.getD j 0 - 1) := Int.mul_le_mul_of_nonneg_left (by omega) (by omega)
  have o3 : V.getD j 0 * S.getD i 0 < V.getD i 0 * (S.getD j 0 - 1) := by grind
  have p1 := Int.mul_lt_mul_of_pos_left a (show 0 < V.getD j 0 by omega)
  have p2 := Int.mul_le_mul_of_nonneg_left b (show 0 ≤ V.getD i 0 by omega)
  have p3 := Int.mul_lt_mul_of_pos_right o3 (show 0 < V.sum by omega)
  have q : V.getD i 0 * (V.sum - d) < V.getD j 0 * (V.sum - d) := by grind
  exact Int.lt_of_mul_lt_mul_right q (by have := s.d1; omega)

/-- Webster's: gain and loss against each other -/
theorem webs_core (m : MSpec V h 1 2 M false) {i j : Nat} {x y : Int} (hi : i < V.length) (hj : j < V.length) (hij : i ≠ j) (x0 : 0 ≤ x) (y0 : 0 ≤ y) (gi : S.getD i 0 + 1 + x ≤ M.getD i 0) (lj : M.getD j 0 ≤ S.getD j 0 - 1 - y) :
    V.getD j 0 * (2 * d - V.sum + 2 * x * V.sum) < V.getD i 0 * (2 * d - V.sum - 2 * y * V.sum) := by
  have hs := hV.sum.1
  have vi := hV.lo _ (getD_mem hi)
  have vj := hV.lo _ (getD_mem hj)
  have si := h_nn hV hh s hi
  have o := m.ord rfl i j hi hj hij (by omega)
  obtain ⟨_, a⟩ := h_sides hs s hi
  obtain ⟨b, _⟩ := h_sides hs s hj
  have o1 : V.getD j 0 * (S.getD i 0 + x) ≤ V.getD j 0 * (M.getD i 0 - 1) := Int.mul_le_mul_of_nonneg_left (by omega) (by omega)
  have o2 : V.getD i 0 * M.getD j 0 ≤ V.getD i 0 * (S.getD j 0 - 1 - y) := Int.mul_le_mul_of_nonneg_left (by omega) (by omega)
  have o3 : V.getD j 0 * (2 * (S.getD i 0 + x) + 1) < V.getD i 0 * (2 * (S.getD j 0 - 1 - y) + 1) := by grind
  have p1 := Int.mul_lt_mul_of_pos_left a (show 0 < V.getD j 0 by omega)
  have p2 := Int.mul_le_mul_of_nonneg_left b (show 0 ≤ V.getD i 0 by omega)
  have p3 := Int.mul_lt_mul_of_pos_right o3 (show 0 < V.sum by omega)
  grind
theorem webs_pair (m : MSpec V h 1 2 M false) {i j : Nat} (hi : i < V.length) (hj : j < V.length) (gi : S.getD i 0 < M.getD i 0) (lj : M.getD j 0 < S.getD j 0) :
    (V.sum < 2 * d ∧ V.getD j 0 < V.getD i 0) ∨ (2 * d < V.sum ∧ V.getD i 0 < V.getD j 0) := by
  have c := webs_core hV hh s m (x := 0) (y := 0) hi hj (fun z => by subst z; omega) (Int.le_refl _) (Int.le_refl _) (by omega) (by omega)
  have c : V.getD j 0 * (2 * d - V.sum) < V.getD i 0 * (2 * d - V.sum) := by grind
  by_cases z : V.sum < 2 * d
  · exact .inl ⟨z, Int.lt_of_mul_lt_mul_right c (by omega)⟩
  · by_cases w : 2 * d < V.sum
    · refine .inr ⟨w, Int.lt_of_mul_lt_mul_right (a := V.sum - 2 * d) ?_ (by omega)⟩
      grind
    · rw [show 2 * d - V.sum = 0 by omega, Int.mul_zero, Int.mul_zero] at c; omega
theorem webs_least (m : MSpec V h 1 2 M false) {i k : Nat} (hi : i < V.length) (hk : k < V.length) (gi : S.getD i 0 < M.getD i 0) (z : V.sum < 2 * d) : -1 ≤ M.getD k 0 - S.getD k 0 := by
  refine Int.not_lt.mp fun q => ?_
  have hs := hV.sum.1
  have vi := hV.lo _ (getD_mem hi)
  have vk := hV.lo _ (getD_mem hk)
  have c := webs_core hV hh s m (x := 0) (y := 1) hi hk (fun z => by subst z; omega) (Int.le_refl _) (by decide) (by omega) (by omega)
  have d1 := s.d1
  have p1 := Int.mul_pos (show 0 < V.getD k 0 by omega) (show 0 < 2 * d - V.sum by omega)
  have p2 := Int.mul_nonneg (show 0 ≤ V.getD i 0 by omega) (show 0 ≤ 3 * V.sum - 2 * d by omega)
  grind
theorem webs_most (m : MSpec V h 1 2 M false) {k j : Nat} (hk : k < V.length) (hj : j < V.length) (lj : M.getD j 0 < S.getD j 0) (z : 2 * d < V.sum) : M.getD k 0 - S.getD k 0 ≤ 1 := by
  refine Int.not_lt.mp fun q => ?_
  have hs := hV.sum.1
  have vj := hV.lo _ (getD_mem hj)
  have vk := hV.lo _ (getD_mem hk)
  have c := webs_core hV hh s m (x := 1) (y := 0) hk hj (fun z => by subst z; omega) (by decide) (Int.le_refl _) (by omega) (by omega)
  have d0 := s.d0
  have p1 := Int.mul_pos (show 0 < V.getD j 0 by omega) (show 0 < 2 * d + V.sum by omega)
  have p2 := Int.mul_pos (show 0 < V.getD k 0 by omega) (show 0 < V.sum - 2 * d by omega)
  grind
end
end Mine
end

section
open PySem PySem.W PyProof.Rows
set_option maxRecDepth 100000
namespace Mine

/-! ## R4. The law's own call of a method, and its look for the tie -/
def mres (p : List Int × Bool) (ta : Bool) : Except Unit D := if (p.2 && !ta) = true then .error () else .ok (DI p.1)
def mo (p : List Int × Bool) : Option (List Int) := if p.2 = true then none else some p.1

def z_quo : T := (.comp (.op .fdiv (.op .mul (.v 13) (.v 2)) (.v 6)) (.cons (.v 13) (.t (.v 1)) .nil .nil))
def z_mod : T := (.comp (.op .mod (.op .mul (.v 13) (.v 2)) (.v 6)) (.cons (.v 13) (.t (.v 1)) .nil .nil))
def z_tie : T := (.ite (.bop true (.cons (.cmp .gt (.v 7) (.k (.int 0))) (.cons (.cmp .eq (.idx (.v 8) (.op .sub (.v 7) (.k (.int 1)))) (.idx (.v 8) (.v 7))) .nil))) (.k .non) (.list .nil))
def z_try : TS := (.try (.cons (.retC 0 (.cons (.v 0) (.cons (.v 1) (.cons (.v 2) (.cons (.k .non) (.cons (.k .fls) .nil)))))) .nil) (.cons (.asg (.v 12) (.call 9 (.cons (.v 0) (.cons (.v 1) (.cons (.v 2) .nil))))) .nil))
def z_last : T := (.op .add (.op .mul (.v 10) (.op .sub (.idx (.v 12) (.v 5)) (.k (.int 1)))) (.v 9))
def z_cond : T := (.bop true (.cons (.cmp .ne (.v 5) (.v 11)) (.cons (.cmp .gt (.idx (.v 12) (.v 5)) (.k (.int 0))) (.cons (.cmp .gt z_last (.k (.int 0))) (.cons (.cmp .eq (.op .mul (.idx (.v 1) (.v 5)) (.op .add (.op .mul (.v 10) (.idx (.v 12) (.v 11))) (.v 9))) (.op .mul (.idx (.v 1) (.v 11)) z_last)) .nil)))))
def z_inner : TS := (.loop (.v 11) (.range1 (.v 4)) (.cons (.ite z_cond (.cons (.ret (.k .non)) .nil) .nil) .nil))
def z_outer : TS := (.loop (.v 5) (.range1 (.v 4)) (.cons z_inner .nil))
def z_rest : SL := (.cons (.asg (.tup (.cons (.v 9) (.cons (.v 10) .nil))) (.v 3)) (.cons z_outer (.cons (.ret (.list .nil)) .nil)))
def z_body : SL := .cons (.asg (.v 4) (.bi .len (.cons (.v 1) .nil))) (.cons z_try (.cons (.ite (.isn true (.v 3)) (.cons (.asg (.v 6) (.bi .sum (.cons (.v 1) .nil))) (.cons (.asg (.v 7) (.op .sub (.v 2) (.bi .sum (.cons z_quo .nil)))) (.cons (.asg (.v 8) (.rev (.bi .sorted (.cons z_mod .nil)))) (.cons (.ret z_tie) .nil)))) .nil) z_rest))

/-- the law's own look at two parties -/
def zc (V S : List Int) (a b : Int) (i j : Nat) : Bool := (!((i : Int) == j)) && decide (0 < S.getD i 0) && decide (0 < b * (S.getD i 0 - 1) + a) && (V.getD i 0 * (b * S.getD j 0 + a) == V.getD j 0 * (b * (S.getD i 0 - 1) + a))

section
variable {F : Fn} {mu : Nat → Bool}

theorem band4 {own : Nat → Bool} {a b c d : T} {σ : Sg} {w x y z : Bool} {bw : Bool} (ha : ev own F false a σ = some (.bool w)) (hb : ev own F false b σ = some (.bool x)) (hc : ev own F false c σ = some (.bool y)) (hd : ev own F false d σ = some (.bool z)) : ev own F bw (.bop true (.cons a (.cons b (.cons c (.cons d .nil))))) σ = some (.bool (w && x && y && z)) := by
  simp only [ev, evBop, ha, hb, hc, hd, Option.bind_some, boolD]
  cases w <;> cases x <;> cases y <;> rfl

theorem z_try_ev {V : List Int} {h : Int} {m : PySem.Str} {p : List Int × Bool} (h0F : F 0 [.str m, DI V, .int h, .non, .bool false] = some (mres p false)) (h9F : F 9 [.str m, DI V, .int h] = some (.ok (DI p.1))) {σ : Sg} (h0 : σ 0 = some (.str m)) (h1 : σ 1 = some (DI V)) (h2 : σ 2 = some (.int h)) :
    evS s_own F mu z_try σ = some (if p.2 = true then .nxt (upd σ 12 (DI p.1)) else .ret (DI p.1)) := by
  have ar : evL s_own F false (.cons (.v 0) (.cons (.v 1) (.cons (.v 2) (.cons (.k .non) (.cons (.k .fls) .nil))))) σ = some [.str m, DI V, .int h, .non, .bool false] := by
    simp only [evL]
    rw [ev_v h0 rfl, ev_v h1 rfl, ev_v h2 rfl, ev_k, ev_k]; rfl
  have ar9 : evL s_own F false (.cons (.v 0) (.cons (.v 1) (.cons (.v 2) .nil))) σ = some [.str m, DI V, .int h] := by
    simp only [evL]
    rw [ev_v h0 rfl, ev_v h1 rfl, ev_v h2 rfl]; rfl
  have call : evSL s_own F mu (.cons (.retC 0 (.cons (.v 0) (.cons (.v 1) (.cons (.v 2) (.cons (.k .non) (.cons (.k .fls) .nil)))))) .nil) σ = some (if p.2 = true then .ties else .ret (DI p.1)) := by
    unfold evSL evS
    rw [ar, Option.bind_some, h0F]
    unfold mres
    cases p.2 <;> rfl
  have e9 : ev s_own F false (.call 9 (.cons (.v 0) (.cons (.v 1) (.cons (.v 2) .nil)))) σ = some (DI p.1) := by
    unfold ev
    rw [ar9, Option.bind_some, h9F]; rfl
  unfold z_try
  unfold evS
  rw [call]
  by_cases ht : p.2 = true
  · rw [if_pos ht, if_pos ht]
    simp only [Option.bind_some]
    rw [evSL_nxt (e_asg e9 rfl)]; rfl
  · rw [if_neg ht, if_neg ht]
    rfl

theorem z_inner_ev {V S : List Int} {a b : Int} {i : Nat} {σ : Sg} (hV : VOk V) (hS : S.length = V.length) (sb : small b = true) (hi : i < V.length) (h1 : σ 1 = some (DI V)) (h4 : σ 4 = some (.int V.length)) (h5 : σ 5 = some (.int (i : Int))) (h9 : σ 9 = some (.int a)) (h10 : σ 10 = some (.int b)) (h12 : σ 12 = some (DI S)) :
    (evS s_own F mu z_inner σ = some (.ret .non) ∧ ∃ j, j < V.length ∧ zc V S a b i j = true) ∨ ∃ σ', evS s_own F mu z_inner σ = some (.nxt σ') ∧ (∀ q, q ≠ 11 → σ' q = σ q) ∧ ∀ j, j < V.length → ¬ zc V S a b i j = true := by
  have n5 := hV.n5
  have inv := loopF_stop (f := fun d σ => (bindP s_own (.v 11) d σ).bind fun σ' => evSL s_own F mu (.cons (.ite z_cond (.cons (.ret (.k .non)) .nil) .nil) .nil) σ')
    (fun _ σ' => ∀ q, q ≠ 11 → σ' q = σ q) (fun j => zc V S a b i j = true) (stop := .ret .non) (fun σ => ⟨by simp, by simp⟩) (rng V.length) 0 σ (fun _ _ => rfl) fun j σ' hj hI => by
      have hj' : j < V.length := by simpa [rng] using hj
      have hr : (rng V.length)[j] = D.int (j : Int) := by simp [rng]
      simp only [Nat.zero_add]
      rw [hr]
      simp only [bindP]
      rw [if_neg (by decide), Option.bind_some]
      generalize hσ : upd σ' 11 (.int (j : Int)) = σ1
      have fr : ∀ q, q ≠ 11 → σ1 q = σ q := fun q hq => by rw [← hσ]; simp [upd, hq, hI q hq]
      have a11 : σ1 11 = some (.int (j : Int)) := by rw [← hσ]; simp [upd]
      have a1 : σ1 1 = some (DI V) := by rw [fr 1 (by decide), h1]
      have a5 : σ1 5 = some (.int (i : Int)) := by rw [fr 5 (by decide), h5]
      have a9 : σ1 9 = some (.int a) := by rw [fr 9 (by decide), h9]
      have a10 : σ1 10 = some (.int b) := by rw [fr 10 (by decide), h10]
      have a12 : σ1 12 = some (DI S) := by rw [fr 12 (by decide), h12]
      have vi := hV.lo _ (getD_mem hi)
      have vi' := hV.hi _ (getD_mem hi)
      have vj := hV.lo _ (getD_mem hj')
      have vj' := hV.hi _ (getD_mem hj')
      have fi : ∀ {bw}, ev s_own F bw (.idx (.v 12) (.v 5)) σ1 = some (.int (S.getD i 0)) := fun {bw} => ev_idx (ev_vb a12) (ev_v a5 rfl) (idx_DI (by omega))
      have fj : ∀ {bw}, ev s_own F bw (.idx (.v 12) (.v 11)) σ1 = some (.int (S.getD j 0)) := fun {bw} => ev_idx (ev_vb a12) (ev_v a11 rfl) (idx_DI (by omega))
      have l : ∀ {bw}, ev s_own F bw z_last σ1 = some (.int (b * (S.getD i 0 - 1) + a)) := fun {bw} => ev_op (x := .int (b * (S.getD i 0 - 1))) (ev_op (x := .int b) (y := .int (S.getD i 0 - 1)) (ev_v a10 rfl) (ev_op (x := .int (S.getD i 0)) fi ev_k rfl) (op_mul (.inl sb))) (ev_v a9 rfl) rfl
      have c : ev s_own F false z_cond σ1 = some (.bool (zc V S a b i j)) := by
        unfold z_cond zc
        refine band4 (ev_cmp (ev_vb a5) (ev_vb a11) rfl) (ev_cmp fi ev_k rfl) (ev_cmp l ev_k rfl) (ev_cmp (x := .int (V.getD i 0 * (b * S.getD j 0 + a))) (y := .int (V.getD j 0 * (b * (S.getD i 0 - 1) + a))) (ev_op (x := .int (V.getD i 0)) (y := .int (b * S.getD j 0 + a)) (ev_idx (ev_vb a1) (ev_v a5 rfl) (idx_DI hi)) (ev_op (x := .int (b * S.getD j 0)) (ev_op (x := .int b) (ev_v a10 rfl) fj (op_mul (.inl sb))) (ev_v a9 rfl) rfl) (op_mul (.inl (small_of (by omega) (by omega))))) (ev_op (x := .int (V.getD j 0)) (y := .int (b * (S.getD i 0 - 1) + a)) (ev_idx (ev_vb a1) (ev_v a11 rfl) (idx_DI hj')) l (op_mul (.inl (small_of (by omega) (by omega))))) rfl)
      by_cases z : zc V S a b i j = true
      · left
        rw [z] at c
        exact ⟨evSL_ret (by rw [e_ite_t c]; exact evSL_ret (e_ret ev_k)), z⟩
      · right
        rw [show zc V S a b i j = false by simpa using z] at c
        exact ⟨σ1, by rw [evSL_nxt (σ' := σ1) (by rw [e_ite_f c]; rfl)]; rfl, fr, z⟩
  have hrl : (rng V.length).length = V.length := by simp [rng]
  have e : evS s_own F mu z_inner σ = loopF (fun d σ => (bindP s_own (.v 11) d σ).bind fun σ' => evSL s_own F mu (.cons (.ite z_cond (.cons (.ret (.k .non)) .nil) .nil) .nil) σ') (rng V.length) σ := by
    unfold z_inner evS
    rw [t_range (n := V.length) (ev_v h4 rfl) (by omega), Option.bind_some]
  rw [e]
  rw [hrl] at inv
  rcases inv with ⟨e1, j, hj, p⟩ | ⟨σ', e1, fr, np⟩
  · exact .inl ⟨e1, j, hj, by rw [Nat.zero_add] at p; exact p⟩
  · exact .inr ⟨σ', e1, fr, fun j hj => by have := np j hj; rw [Nat.zero_add] at this; exact this⟩

theorem z_outer_ev {V S : List Int} {a b : Int} {σ : Sg} (hV : VOk V) (hS : S.length = V.length) (sb : small b = true) (h1 : σ 1 = some (DI V)) (h4 : σ 4 = some (.int V.length)) (h9 : σ 9 = some (.int a)) (h10 : σ 10 = some (.int b)) (h12 : σ 12 = some (DI S))
    {i j : Nat} (hi : i < V.length) (hj : j < V.length) (hz : zc V S a b i j = true) : evS s_own F mu z_outer σ = some (.ret .non) := by
  have n5 := hV.n5
  have inv := loopF_stop (f := fun d σ => (bindP s_own (.v 5) d σ).bind fun σ' => evSL s_own F mu (.cons z_inner .nil) σ')
    (fun _ σ' => ∀ q, q ≠ 11 → q ≠ 5 → σ' q = σ q) (fun i => ∃ j, j < V.length ∧ zc V S a b i j = true) (stop := .ret .non) (fun σ => ⟨by simp, by simp⟩) (rng V.length) 0 σ (fun _ _ _ => rfl) fun k σ' hk hI => by
      have hk' : k < V.length := by simpa [rng] using hk
      have hr : (rng V.length)[k] = D.int (k : Int) := by simp [rng]
      simp only [Nat.zero_add]
      rw [hr]
      simp only [bindP]
      rw [if_neg (by decide), Option.bind_some]
      generalize hσ : upd σ' 5 (.int (k : Int)) = σ1
      have fr : ∀ q, q ≠ 11 → q ≠ 5 → σ1 q = σ q := fun q p1 p2 => by rw [← hσ]; simp [upd, p2, hI q p1 p2]
      have a5 : σ1 5 = some (.int (k : Int)) := by rw [← hσ]; simp [upd]
      rcases z_inner_ev (F := F) (mu := mu) (σ := σ1) (V := V) (S := S) (a := a) (b := b) (i := k) hV hS sb hk' (by rw [fr 1 (by decide) (by decide), h1]) (by rw [fr 4 (by decide) (by decide), h4]) a5 (by rw [fr 9 (by decide) (by decide), h9]) (by rw [fr 10 (by decide) (by decide), h10]) (by rw [fr 12 (by decide) (by decide), h12]) with ⟨e, p⟩ | ⟨σ2, e, g, np⟩
      · exact .inl ⟨evSL_ret e, p⟩
      · exact .inr ⟨σ2, by rw [evSL_nxt e]; rfl, fun q p1 p2 => by rw [g q p1, fr q p1 p2], fun ⟨j, hj, p⟩ => np j hj p⟩
  have hrl : (rng V.length).length = V.length := by simp [rng]
  have e : evS s_own F mu z_outer σ = loopF (fun d σ => (bindP s_own (.v 5) d σ).bind fun σ' => evSL s_own F mu (.cons z_inner .nil) σ') (rng V.length) σ := by
    unfold z_outer evS
    rw [t_range (n := V.length) (ev_v h4 rfl) (by omega), Option.bind_some]
  rw [e]
  rw [hrl] at inv
  rcases inv with ⟨e1, _⟩ | ⟨σ', _, _, np⟩
  · exact e1
  · have np' := np i hi
    rw [Nat.zero_add] at np'
    exact absurd ⟨j, hj, hz⟩ np'

theorem z_div_ev {V : List Int} {h a b : Int} {m : PySem.Str} {p : List Int × Bool} (hV : VOk V) (sb : small b = true) (sp : MSpec V h a b p.1 p.2) (h0F : F 0 [.str m, DI V, .int h, .non, .bool false] = some (mres p false)) (h9F : F 9 [.str m, DI V, .int h] = some (.ok (DI p.1))) {σ : Sg} (h0 : σ 0 = some (.str m)) (h1 : σ 1 = some (DI V)) (h2 : σ 2 = some (.int h)) (h3 : σ 3 = some (.tup [.int a, .int b])) :
    evSL s_own F mu z_body σ = some (.ret (DSo (mo p))) := by
  unfold z_body
  rw [evSL_nxt (e_asg (ev_lenV h1) rfl)]
  generalize hσ : upd σ 4 (.int V.length) = σ1
  have a0 : σ1 0 = some (.str m) := by rw [← hσ]; simp [upd, h0]
  have a1 : σ1 1 = some (DI V) := by rw [← hσ]; simp [upd, h1]
  have a2 : σ1 2 = some (.int h) := by rw [← hσ]; simp [upd, h2]
  have a3 : σ1 3 = some (.tup [.int a, .int b]) := by rw [← hσ]; simp [upd, h3]
  have a4 : σ1 4 = some (.int V.length) := by rw [← hσ]; simp [upd]
  have et := z_try_ev (F := F) (mu := mu) h0F h9F a0 a1 a2
  unfold mo
  by_cases ht : p.2 = true
  · rw [if_pos ht] at et ⊢
    rw [evSL_nxt et]
    obtain ⟨i, j, hi, hj, hij, q1, q2, q3⟩ := sp.tied ht
    generalize hσ2 : upd σ1 12 (DI p.1) = σ2
    have b1 : σ2 1 = some (DI V) := by rw [← hσ2]; simp [upd, a1]
    have b3 : σ2 3 = some (.tup [.int a, .int b]) := by rw [← hσ2]; simp [upd, a3]
    have b4 : σ2 4 = some (.int V.length) := by rw [← hσ2]; simp [upd, a4]
    have b12 : σ2 12 = some (DI p.1) := by rw [← hσ2]; simp [upd]
    have c : ev s_own F false (.isn true (.v 3)) σ2 = some (.bool false) := by
      unfold ev
      rw [ev_vb b3]; rfl
    rw [evSL_nxt (σ' := σ2) (by rw [e_ite_f c]; rfl)]
    unfold z_rest
    have e9 : evS s_own F mu (.asg (.tup (.cons (.v 9) (.cons (.v 10) .nil))) (.v 3)) σ2 = some (.nxt (upd (upd σ2 9 (.int a)) 10 (.int b))) := by
      unfold evS
      rw [ev_v b3 rfl, Option.bind_some]; rfl
    rw [evSL_nxt e9]
    refine evSL_ret (z_outer_ev (F := F) (mu := mu) (V := V) (S := p.1) (a := a) (b := b) hV sp.len sb (by simp [upd, b1]) (by simp [upd, b4]) (by simp [upd]) (by simp [upd]) (by simp [upd, b12]) hi hj ?_)
    unfold zc
    rw [decide_eq_true q1, decide_eq_true q2, q3]
    simp; omega
  · rw [if_neg ht] at et ⊢
    exact evSL_ret et

theorem z_plain_ev {V : List Int} {h : Int} {m : PySem.Str} (hV : VOk' V) (hh : 1 ≤ h) (hh' : h ≤ 1000) (h0F : F 0 [.str m, DI V, .int h, .non, .bool false] = some (mres (hD V h) false)) (h9F : F 9 [.str m, DI V, .int h] = some (.ok (DI (hD V h).1))) {σ : Sg} (h0 : σ 0 = some (.str m)) (h1 : σ 1 = some (DI V)) (h2 : σ 2 = some (.int h)) (h3 : σ 3 = some .non) :
    evSL s_own F mu z_body σ = some (.ret (DSo (mo (hD V h)))) := by
  have hs := hV.sum
  have n1 := hV.n1
  have n40 := hV.n40
  obtain ⟨lb1, lb2⟩ := hleft_bd (V := V) (h := h) hs.1
  have hrl : (hr V h).length = V.length := by simp [hr]
  unfold z_body
  rw [evSL_nxt (e_asg (ev_lenV h1) rfl)]
  generalize hσ : upd σ 4 (.int V.length) = σ1
  have a0 : σ1 0 = some (.str m) := by rw [← hσ]; simp [upd, h0]
  have a1 : σ1 1 = some (DI V) := by rw [← hσ]; simp [upd, h1]
  have a2 : σ1 2 = some (.int h) := by rw [← hσ]; simp [upd, h2]
  have a3 : σ1 3 = some .non := by rw [← hσ]; simp [upd, h3]
  have et := z_try_ev (F := F) (mu := mu) h0F h9F a0 a1 a2
  have sp := h_spec (V := V) (h := h) hs.1
  unfold mo
  by_cases ht : (hD V h).2 = true
  · rw [if_pos ht] at et sp ⊢
    obtain ⟨lp, eq⟩ := sp
    rw [evSL_nxt et]
    generalize hσ2 : upd σ1 12 (DI (hD V h).1) = σ2
    have b1 : σ2 1 = some (DI V) := by rw [← hσ2]; simp [upd, a1]
    have b2 : σ2 2 = some (.int h) := by rw [← hσ2]; simp [upd, a2]
    have b3 : σ2 3 = some .non := by rw [← hσ2]; simp [upd, a3]
    have c : ev s_own F false (.isn true (.v 3)) σ2 = some (.bool true) := by
      unfold ev
      rw [ev_vb b3]; rfl
    refine evSL_ret ?_
    rw [e_ite_t c, evSL_nxt (e_asg (ev_sumV b1) rfl)]
    generalize hσ3 : upd σ2 6 (.int V.sum) = σ3
    have c1 : σ3 1 = some (DI V) := by rw [← hσ3]; simp [upd, b1]
    have c2 : σ3 2 = some (.int h) := by rw [← hσ3]; simp [upd, b2]
    have c6 : σ3 6 = some (.int V.sum) := by rw [← hσ3]; simp [upd]
    have e5 : ev s_own F false (.op .sub (.v 2) (.bi .sum (.cons z_quo .nil))) σ3 = some (.int (hleft V h)) := by
      refine ev_op (ev_v c2 rfl) (ev_bi1 (x := DI (hq V h)) (mapV (V := V) (f := fun v => v * h / V.sum) rfl rfl c1 (by omega) fun p hp => ?_) (bi_sum _)) rfl
      exact ev_op (ev_op (x := .int p) (y := .int h) (ev_v (by simp [upd]) rfl) (ev_v (by simp [upd, c2]) rfl) (op_mul (.inr (small_of (by omega) (by omega))))) (ev_v (d := .int V.sum) (by simp [upd, c6]) rfl) (op_fdiv (by omega) (small_of (by omega) (by omega)))
    rw [evSL_nxt (e_asg e5 rfl)]
    generalize hσ4 : upd σ3 7 (.int (hleft V h)) = σ4
    have d1 : σ4 1 = some (DI V) := by rw [← hσ4]; simp [upd, c1]
    have d2 : σ4 2 = some (.int h) := by rw [← hσ4]; simp [upd, c2]
    have d6 : σ4 6 = some (.int V.sum) := by rw [← hσ4]; simp [upd, c6]
    have d7 : σ4 7 = some (.int (hleft V h)) := by rw [← hσ4]; simp [upd]
    have e6 : ev s_own F false (.rev (.bi .sorted (.cons z_mod .nil))) σ4 = some (DI (isort (hr V h)).reverse) := by
      have x : ev s_own F false (.bi .sorted (.cons z_mod .nil)) σ4 = some (DI (isort (hr V h))) := by
        refine ev_bi1 (x := DI (hr V h)) (mapV (V := V) (f := fun v => v * h % V.sum) rfl rfl d1 (by omega) fun p hp => ?_) ?_
        · exact ev_op (ev_op (x := .int p) (y := .int h) (ev_v (by simp [upd]) rfl) (ev_v (by simp [upd, d2]) rfl) (op_mul (.inr (small_of (by omega) (by omega))))) (ev_v (d := .int V.sum) (by simp [upd, d6]) rfl) (op_mod (by omega))
        · simp only [biD, DI, listD, Option.bind_some, intsOf_map]
          rw [if_pos (by omega)]
      unfold ev
      rw [x]
      simp [DI, listD]
    rw [evSL_nxt (e_asg e6 rfl)]
    generalize hσ5 : upd σ4 8 (DI (isort (hr V h)).reverse) = σ5
    have f7 : σ5 7 = some (.int (hleft V h)) := by rw [← hσ5]; simp [upd, d7]
    have f8 : σ5 8 = some (DI (isort (hr V h)).reverse) := by rw [← hσ5]; simp [upd]
    have st : ev s_own F false z_tie σ5 = some .non := by
      unfold z_tie
      have c : ev s_own F false (.bop true (.cons (.cmp .gt (.v 7) (.k (.int 0))) (.cons (.cmp .eq (.idx (.v 8) (.op .sub (.v 7) (.k (.int 1)))) (.idx (.v 8) (.v 7))) .nil))) σ5 = some (.bool (decide (0 < hleft V h) && true)) := by
        have hl := isort_len (hr V h)
        refine band (ev_cmp (ev_vb f7) ev_k rfl) fun _ => ev_cmp (x := .int ((isort (hr V h)).reverse.getD ((hleft V h).toNat - 1) 0)) (y := .int ((isort (hr V h)).reverse.getD (hleft V h).toNat 0)) (ev_idx (y := .int (((hleft V h).toNat - 1 : Nat) : Int)) (ev_vb f8) (ev_op (ev_v f7 rfl) ev_k ?_) (idx_DI (by rw [List.length_reverse]; omega))) (ev_idx (y := .int ((hleft V h).toNat : Int)) (ev_vb f8) (ev_v (by rw [f7]; congr 2; omega) rfl) (idx_DI (by rw [List.length_reverse]; omega))) ?_
        · show some (D.int (hleft V h - 1)) = _
          congr 2; omega
        · show some (_ == _) = some true
          congr 1
          rw [beq_iff_eq]
          rw [List.getD_eq_getElem?_getD, List.getD_eq_getElem?_getD, List.getElem?_reverse (by omega), List.getElem?_reverse (by omega), ← List.getD_eq_getElem?_getD, ← List.getD_eq_getElem?_getD, hl, hrl]
          rw [show V.length - 1 - ((hleft V h).toNat - 1) = V.length - (hleft V h).toNat from by omega]
          exact eq
      rw [decide_eq_true lp] at c
      unfold ev
      rw [c]; rfl
    exact evSL_ret (e_ret st)
  · rw [if_neg ht] at et ⊢
    exact evSL_ret et
end
end Mine
end

section
open PySem PySem.W PyProof.Rows
set_option maxRecDepth 100000
namespace Mine

/-! ## R5. The law's changes and its three checks -/
def chG (V S M : List Int) : List Int := ((List.range V.length).filter fun i => decide (S.getD i 0 < M.getD i 0)).map fun i => V.getD i 0
def chL (V S M : List Int) : List Int := ((List.range V.length).filter fun i => decide (M.getD i 0 < S.getD i 0)).map fun i => V.getD i 0
def chD (V S M : List Int) : List Int := (List.range V.length).map fun i => M.getD i 0 - S.getD i 0
def lmx : List Int → Int
  | [] => 0
  | i :: r => maxI i r
def lmn : List Int → Int
  | [] => 0
  | i :: r => minI i r
theorem lmx_spec {l : List Int} (h : l ≠ []) : lmx l ∈ l ∧ ∀ a ∈ l, a ≤ lmx l := by
  cases l with
  | nil => exact absurd rfl h
  | cons i r => exact maxI_spec r i
theorem lmn_spec {l : List Int} (h : l ≠ []) : lmn l ∈ l ∧ ∀ a ∈ l, lmn l ≤ a := by
  cases l with
  | nil => exact absurd rfl h
  | cons i r => exact minI_spec r i
theorem bi_max {l : List Int} (h : l ≠ []) : biD .maxL [DI l] = some (.int (lmx l)) := by
  cases l with
  | nil => exact absurd rfl h
  | cons i r => simp only [biD, DI, listD, Option.bind_some, intsOf_map]; rfl
theorem bi_min {l : List Int} (h : l ≠ []) : biD .minL [DI l] = some (.int (lmn l)) := by
  cases l with
  | nil => exact absurd rfl h
  | cons i r => simp only [biD, DI, listD, Option.bind_some, intsOf_map]; rfl
def chT (V S M : List Int) : D := .tup [DI (chG V S M), DI (chL V S M), .int (lmx (chD V S M)), .int (lmn (chD V S M))]

theorem chG_mem {V S M : List Int} {g : Int} (h : g ∈ chG V S M) : ∃ i, i < V.length ∧ S.getD i 0 < M.getD i 0 ∧ g = V.getD i 0 := by
  obtain ⟨i, hi, e⟩ := List.mem_map.mp h
  obtain ⟨a, b⟩ := List.mem_filter.mp hi
  exact ⟨i, List.mem_range.mp a, of_decide_eq_true b, e.symm⟩
theorem chL_mem {V S M : List Int} {g : Int} (h : g ∈ chL V S M) : ∃ i, i < V.length ∧ M.getD i 0 < S.getD i 0 ∧ g = V.getD i 0 := by
  obtain ⟨i, hi, e⟩ := List.mem_map.mp h
  obtain ⟨a, b⟩ := List.mem_filter.mp hi
  exact ⟨i, List.mem_range.mp a, of_decide_eq_true b, e.symm⟩
theorem chD_mem {V S M : List Int} {g : Int} : g ∈ chD V S M ↔ ∃ i, i < V.length ∧ M.getD i 0 - S.getD i 0 = g := by
  unfold chD
  rw [List.mem_map]
  simp only [List.mem_range]
theorem chD_ne {V S M : List Int} (n1 : 1 ≤ V.length) : chD V S M ≠ [] := by
  intro z
  have : (chD V S M).length = V.length := by simp [chD]
  rw [z] at this; simp at this; omega

def c_len : T := (.bi .len (.cons (.v 0) .nil))
def c_body : SL :=
  .cons (.asg (.v 3) (.comp (.idx (.v 0) (.v 6)) (.cons (.v 6) (.range1 (.bi .len (.cons (.v 0) .nil))) (.cons (.cmp .gt (.idx (.v 2) (.v 6)) (.idx (.v 1) (.v 6))) .nil) .nil))) (.cons (.asg (.v 4) (.comp (.idx (.v 0) (.v 6)) (.cons (.v 6) (.range1 (.bi .len (.cons (.v 0) .nil))) (.cons (.cmp .lt (.idx (.v 2) (.v 6)) (.idx (.v 1) (.v 6))) .nil) .nil))) (.cons (.asg (.v 5) (.comp (.op .sub (.idx (.v 2) (.v 6)) (.idx (.v 1) (.v 6))) (.cons (.v 6) (.range1 (.bi .len (.cons (.v 0) .nil))) .nil .nil))) (.cons (.ret (.tup (.cons (.v 3) (.cons (.v 4) (.cons (.bi .maxL (.cons (.v 5) .nil)) (.cons (.bi .minL (.cons (.v 5) .nil)) .nil)))))) .nil)))

section
variable {F : Fn} {mu : Nat → Bool}

theorem idx_at {own : Nat → Bool} {σ : Sg} {x k i : Nat} {l : List Int} {bw : Bool} (hx : σ x = some (DI l)) (ok : own k = false) (hk : σ k = some (.int (i : Int))) (hi : i < l.length) : ev own F bw (.idx (.v x) (.v k)) σ = some (.int (l.getD i 0)) := ev_idx (ev_vb hx) (ev_v hk ok) (idx_DI hi)

theorem c_body_ev {V S M : List Int} (n1 : 1 ≤ V.length) (n5 : V.length ≤ 5) (hS : S.length = V.length) (hM : M.length = V.length) {σ : Sg} (h0 : σ 0 = some (DI V)) (h1 : σ 1 = some (DI S)) (h2 : σ 2 = some (DI M)) :
    evSL s_own F mu c_body σ = some (.ret (chT V S M)) := by
  have comp : ∀ {σ : Sg} {c : Cm} {p : Nat → Bool}, σ 0 = some (DI V) → σ 1 = some (DI S) → σ 2 = some (DI M) → (∀ i, i < V.length → cmD c (.int (M.getD i 0)) (.int (S.getD i 0)) = some (p i)) → ev s_own F false (.comp (.idx (.v 0) (.v 6)) (.cons (.v 6) (.range1 (.bi .len (.cons (.v 0) .nil))) (.cons (.cmp c (.idx (.v 2) (.v 6)) (.idx (.v 1) (.v 6))) .nil) .nil)) σ = some (DI (((List.range V.length).filter p).map fun i => V.getD i 0)) := fun {σ c p} h0 h1 h2 hp => by
    rw [t_rangeComp (n := V.length) (p := p) (f := fun i => .int (V.getD i 0)) rfl (ev_lenV h0) (by omega) (fun j hj => ?_) (fun j hj _ => ?_)]
    · simp [DI, List.map_map, Function.comp_def]
    · have e := ev_cmp (own := s_own) (F := F) (bw := false) (idx_at (own := s_own) (F := F) (σ := upd σ 6 (.int (j : Int))) (x := 2) (k := 6) (l := M) (by simp [upd, h2]) rfl (by simp [upd]) (by omega)) (idx_at (own := s_own) (F := F) (σ := upd σ 6 (.int (j : Int))) (x := 1) (k := 6) (l := S) (by simp [upd, h1]) rfl (by simp [upd]) (by omega)) (hp j hj)
      unfold evC
      rw [e]
      simp only [Option.bind_some, boolD]
      cases p j <;> rfl
    · exact idx_at (by simp [upd, h0]) rfl (by simp [upd]) hj
  unfold c_body
  have g := comp (c := .gt) (p := fun i => decide (S.getD i 0 < M.getD i 0)) h0 h1 h2 (fun i _ => rfl)
  rw [evSL_nxt (e_asg g rfl)]
  generalize hσ1 : upd σ 3 (DI (((List.range V.length).filter fun i => decide (S.getD i 0 < M.getD i 0)).map fun i => V.getD i 0)) = σ1
  have a0 : σ1 0 = some (DI V) := by rw [← hσ1]; simp [upd, h0]
  have a1 : σ1 1 = some (DI S) := by rw [← hσ1]; simp [upd, h1]
  have a2 : σ1 2 = some (DI M) := by rw [← hσ1]; simp [upd, h2]
  have a3 : σ1 3 = some (DI (chG V S M)) := by rw [← hσ1]; simp [upd, chG]
  have l := comp (c := .lt) (p := fun i => decide (M.getD i 0 < S.getD i 0)) a0 a1 a2 (fun i _ => rfl)
  rw [evSL_nxt (e_asg l rfl)]
  generalize hσ2 : upd σ1 4 (DI (((List.range V.length).filter fun i => decide (M.getD i 0 < S.getD i 0)).map fun i => V.getD i 0)) = σ2
  have b0 : σ2 0 = some (DI V) := by rw [← hσ2]; simp [upd, a0]
  have b1 : σ2 1 = some (DI S) := by rw [← hσ2]; simp [upd, a1]
  have b2 : σ2 2 = some (DI M) := by rw [← hσ2]; simp [upd, a2]
  have b3 : σ2 3 = some (DI (chG V S M)) := by rw [← hσ2]; simp [upd, a3]
  have b4 : σ2 4 = some (DI (chL V S M)) := by rw [← hσ2]; simp [upd, chL]
  have d : ev s_own F false (.comp (.op .sub (.idx (.v 2) (.v 6)) (.idx (.v 1) (.v 6))) (.cons (.v 6) (.range1 (.bi .len (.cons (.v 0) .nil))) .nil .nil)) σ2 = some (DI (chD V S M)) := by
    rw [t_rangeMap (n := V.length) (f := fun i => .int (M.getD i 0 - S.getD i 0)) rfl (ev_lenV b0) (by omega) fun j hj => ?_]
    · simp [DI, chD, List.map_map, Function.comp_def]
    · exact ev_op (x := .int (M.getD j 0)) (y := .int (S.getD j 0)) (idx_at (by simp [upd, b2]) rfl (by simp [upd]) (by omega)) (idx_at (by simp [upd, b1]) rfl (by simp [upd]) (by omega)) rfl
  rw [evSL_nxt (e_asg d rfl)]
  refine evSL_ret (e_ret ?_)
  have ne := chD_ne (V := V) (S := S) (M := M) n1
  have e5 : (upd σ2 5 (DI (chD V S M))) 5 = some (DI (chD V S M)) := by simp [upd]
  have x3 : ev s_own F false (.v 3) (upd σ2 5 (DI (chD V S M))) = some (DI (chG V S M)) := ev_v (by simp [upd, b3]) rfl
  have x4 : ev s_own F false (.v 4) (upd σ2 5 (DI (chD V S M))) = some (DI (chL V S M)) := ev_v (by simp [upd, b4]) rfl
  have xM : ev s_own F false (.bi .maxL (.cons (.v 5) .nil)) (upd σ2 5 (DI (chD V S M))) = some (.int (lmx (chD V S M))) := ev_bi1 (ev_vb e5) (bi_max ne)
  have xm : ev s_own F false (.bi .minL (.cons (.v 5) .nil)) (upd σ2 5 (DI (chD V S M))) = some (.int (lmn (chD V S M))) := ev_bi1 (ev_vb e5) (bi_min ne)
  unfold ev
  simp only [evL, x3, x4, xM, xm, Option.bind_some]
  rfl

theorem band3s {own : Nat → Bool} {a b c : T} {σ : Sg} {x y z : Bool} {bw : Bool} (ha : ev own F false a σ = some (.bool x)) (hb : ev own F false b σ = some (.bool y)) (hc : x = true → y = true → ev own F false c σ = some (.bool z)) : ev own F bw (.bop true (.cons a (.cons b (.cons c .nil)))) σ = some (.bool (x && y && z)) := by
  cases x with
  | false => simp only [ev, evBop, ha, Option.bind_some, boolD]; rfl
  | true =>
    cases y with
    | false => simp only [ev, evBop, ha, hb, Option.bind_some, boolD]; rfl
    | true => simp only [ev, evBop, ha, hb, hc rfl rfl, Option.bind_some, boolD]; rfl

/-! the checks -/
def k_asg (x : Nat) : TS := (.asg (.tup (.cons (.v 10) (.cons (.v 11) (.cons (.v 12) (.cons (.v 13) .nil))))) (.call 7 (.cons (.v 3) (.cons (.v 5) (.cons (.v x) .nil)))))
def k_ne (x : Nat) : T := (.cmp .ne (.v x) (.list .nil))
def k_mn (x : Nat) : T := (.bi .minL (.cons (.v x) .nil))
def k_mx (x : Nat) : T := (.bi .maxL (.cons (.v x) .nil))
def k_bad1 : T := (.bop false (.cons (.cmp .lt (.v 13) (.neg (.k (.int 1)))) (.cons (.bop true (.cons (k_ne 10) (.cons (k_ne 11) (.cons (.cmp .le (k_mn 10) (k_mx 11)) .nil)))) .nil)))
def k_bad2 : T := (.bop false (.cons (.cmp .gt (.v 12) (.k (.int 1))) (.cons (.bop true (.cons (k_ne 10) (.cons (k_ne 11) (.cons (.cmp .ge (k_mx 10) (k_mn 11)) .nil)))) .nil)))
def k_ok3 : T := (.bop false (.cons (.bop true (.cons (.cmp .gt (k_mn 10) (k_mx 11)) (.cons (.cmp .eq (.v 13) (.neg (.k (.int 1)))) .nil))) (.cons (.bop true (.cons (.cmp .lt (k_mx 10) (k_mn 11)) (.cons (.cmp .eq (.v 12) (.k (.int 1))) .nil))) .nil)))
def k_chk1 : TS := (.ite (.isn false (.v 6)) (.cons (k_asg 6) (.cons (.ite k_bad1 (.cons (.ret (.k .fls)) .nil) .nil) .nil)) .nil)
def k_chk2 : TS := (.ite (.isn false (.v 7)) (.cons (k_asg 7) (.cons (.ite k_bad2 (.cons (.ret (.k .fls)) .nil) .nil) .nil)) .nil)
def k_chk3 : TS := (.ite (.isn false (.v 8)) (.cons (k_asg 8) (.cons (.ite (.bop true (.cons (k_ne 10) (.cons (k_ne 11) .nil))) (.cons (.ite (.not k_ok3) (.cons (.ret (.k .fls)) .nil) .nil) .nil) .nil) .nil)) .nil)

theorem k_ne_ev {σ : Sg} {x : Nat} {l : List Int} (h : σ x = some (DI l)) : ev s_own F false (k_ne x) σ = some (.bool (!(l == []))) := by
  unfold k_ne
  have nl : ev s_own F true (.list .nil) σ = some (DI []) := by unfold ev; rfl
  refine ev_cmp (ev_vb h) nl ?_
  show (eqD (DI l) (DI [])).map (!·) = _
  rw [eq_DI]; rfl
theorem k_mn_ev {σ : Sg} {x : Nat} {l : List Int} {bw : Bool} (h : σ x = some (DI l)) (hl : l ≠ []) : ev s_own F bw (k_mn x) σ = some (.int (lmn l)) := ev_bi1 (ev_vb h) (bi_min hl)
theorem k_mx_ev {σ : Sg} {x : Nat} {l : List Int} {bw : Bool} (h : σ x = some (DI l)) (hl : l ≠ []) : ev s_own F bw (k_mx x) σ = some (.int (lmx l)) := ev_bi1 (ev_vb h) (bi_max hl)
theorem ne_of {l : List Int} (h : (!(l == [])) = true) : l ≠ [] := by
  intro z; subst z; simp at h
theorem neg1 {σ : Sg} {bw : Bool} : ev s_own F bw (.neg (.k (.int 1))) σ = some (.int (-1)) := by
  unfold ev
  rw [ev_k]; rfl

/-- the state behind the changes -/
def kU (σ : Sg) (V S M : List Int) : Sg := upd (upd (upd (upd σ 10 (DI (chG V S M))) 11 (DI (chL V S M))) 12 (.int (lmx (chD V S M)))) 13 (.int (lmn (chD V S M)))
theorem k_asg_ev {x : Nat} {V S M : List Int} (h7 : F 7 [DI V, DI S, DI M] = some (.ok (chT V S M))) {σ : Sg} (h3 : σ 3 = some (DI V)) (h5 : σ 5 = some (DI S)) (hx : σ x = some (DI M)) : evS s_own F mu (k_asg x) σ = some (.nxt (kU σ V S M)) := by
  unfold k_asg
  have ar : evL s_own F false (.cons (.v 3) (.cons (.v 5) (.cons (.v x) .nil))) σ = some [DI V, DI S, DI M] := by
    simp only [evL]
    rw [ev_v h3 rfl, ev_v h5 rfl, ev_v hx rfl]; rfl
  have c : ev s_own F false (.call 7 (.cons (.v 3) (.cons (.v 5) (.cons (.v x) .nil)))) σ = some (chT V S M) := by
    unfold ev
    rw [ar, Option.bind_some, h7]; rfl
  unfold evS
  rw [c, Option.bind_some]
  rfl
theorem kU_fr (σ : Sg) (V S M : List Int) (q : Nat) (h : q < 10) : kU σ V S M q = σ q := by
  unfold kU
  simp only [upd]
  rw [if_neg (by omega), if_neg (by omega), if_neg (by omega), if_neg (by omega)]
theorem kU10 (σ : Sg) (V S M : List Int) : kU σ V S M 10 = some (DI (chG V S M)) := by simp [kU, upd]
theorem kU11 (σ : Sg) (V S M : List Int) : kU σ V S M 11 = some (DI (chL V S M)) := by simp [kU, upd]
theorem kU12 (σ : Sg) (V S M : List Int) : kU σ V S M 12 = some (.int (lmx (chD V S M))) := by simp [kU, upd]
theorem kU13 (σ : Sg) (V S M : List Int) : kU σ V S M 13 = some (.int (lmn (chD V S M))) := by simp [kU, upd]

theorem isn_so {σ : Sg} {x : Nat} {o : Option (List Int)} (hx : σ x = some (DSo o)) {y bw : Bool} : ev s_own F bw (.isn y (.v x)) σ = some (.bool (o.isNone == y)) := by
  unfold ev
  rw [ev_vb hx]
  cases o <;> rfl

section
variable {V S : List Int} {h d : Int} (hV : VOk V) (hh : 0 ≤ h) (s : HSpec V h S d)
include hV hh s

theorem k_chk1_ev {o : Option (List Int)} (m : ∀ M, o = some M → MSpec V h 1 1 M false) (h7 : ∀ M, M.length = V.length → F 7 [DI V, DI S, DI M] = some (.ok (chT V S M))) {σ : Sg} (h3 : σ 3 = some (DI V)) (h5 : σ 5 = some (DI S)) (hx : σ 6 = some (DSo o)) :
    ∃ σ', evS s_own F mu k_chk1 σ = some (.nxt σ') ∧ ∀ q, q < 10 → σ' q = σ q := by
  unfold k_chk1
  have c := isn_so (F := F) (bw := false) (y := false) hx
  cases o with
  | none => exact ⟨σ, by rw [e_ite_f c]; rfl, fun _ _ => rfl⟩
  | some M =>
    have m := m M rfl
    rw [e_ite_t c, evSL_nxt (k_asg_ev (h7 M m.len) h3 h5 hx)]
    have ne := chD_ne (V := V) (S := S) (M := M) hV.n1
    have cb : ev s_own F false k_bad1 (kU σ V S M) = some (.bool (decide (lmn (chD V S M) < -1) || ((!(chG V S M == [])) && (!(chL V S M == [])) && decide (lmn (chG V S M) ≤ lmx (chL V S M))))) := by
      unfold k_bad1
      exact bor (ev_cmp (ev_vb (kU13 σ V S M)) neg1 rfl) fun _ => band3s (k_ne_ev (kU10 σ V S M)) (k_ne_ev (kU11 σ V S M)) fun p q => ev_cmp (k_mn_ev (kU10 σ V S M) (ne_of p)) (k_mx_ev (kU11 σ V S M) (ne_of q)) rfl
    have no : (decide (lmn (chD V S M) < -1) || ((!(chG V S M == [])) && (!(chL V S M == [])) && decide (lmn (chG V S M) ≤ lmx (chL V S M)))) = false := by
      rw [Bool.or_eq_false_iff]
      constructor
      · obtain ⟨i, hi, e⟩ := chD_mem.mp (lmn_spec ne).1
        have := jeff_least hV hh s m hi
        exact decide_eq_false (by omega)
      · rw [Bool.eq_false_iff]
        intro z
        rw [Bool.and_eq_true, Bool.and_eq_true] at z
        obtain ⟨⟨p, q⟩, r⟩ := z
        have r := of_decide_eq_true r
        obtain ⟨i, hi, gi, ei⟩ := chG_mem (lmn_spec (ne_of p)).1
        obtain ⟨j, hj, lj, ej⟩ := chL_mem (lmx_spec (ne_of q)).1
        have := jeff_pair hV hh s m hi hj gi lj
        omega
    rw [no] at cb
    exact ⟨kU σ V S M, by rw [evSL_nxt (σ' := kU σ V S M) (by rw [e_ite_f cb]; rfl)]; rfl, kU_fr σ V S M⟩

theorem k_chk2_ev {o : Option (List Int)} (m : ∀ M, o = some M → MSpec V h 0 1 M false) (h7 : ∀ M, M.length = V.length → F 7 [DI V, DI S, DI M] = some (.ok (chT V S M))) {σ : Sg} (h3 : σ 3 = some (DI V)) (h5 : σ 5 = some (DI S)) (hx : σ 7 = some (DSo o)) :
    ∃ σ', evS s_own F mu k_chk2 σ = some (.nxt σ') ∧ ∀ q, q < 10 → σ' q = σ q := by
  unfold k_chk2
  have c := isn_so (F := F) (bw := false) (y := false) hx
  cases o with
  | none => exact ⟨σ, by rw [e_ite_f c]; rfl, fun _ _ => rfl⟩
  | some M =>
    have m := m M rfl
    rw [e_ite_t c, evSL_nxt (k_asg_ev (h7 M m.len) h3 h5 hx)]
    have ne := chD_ne (V := V) (S := S) (M := M) hV.n1
    have cb : ev s_own F false k_bad2 (kU σ V S M) = some (.bool (decide (1 < lmx (chD V S M)) || ((!(chG V S M == [])) && (!(chL V S M == [])) && decide (lmn (chL V S M) ≤ lmx (chG V S M))))) := by
      unfold k_bad2
      exact bor (ev_cmp (ev_vb (kU12 σ V S M)) ev_k rfl) fun _ => band3s (k_ne_ev (kU10 σ V S M)) (k_ne_ev (kU11 σ V S M)) fun p q => ev_cmp (k_mx_ev (kU10 σ V S M) (ne_of p)) (k_mn_ev (kU11 σ V S M) (ne_of q)) rfl
    have no : (decide (1 < lmx (chD V S M)) || ((!(chG V S M == [])) && (!(chL V S M == [])) && decide (lmn (chL V S M) ≤ lmx (chG V S M)))) = false := by
      rw [Bool.or_eq_false_iff]
      constructor
      · obtain ⟨i, hi, e⟩ := chD_mem.mp (lmx_spec ne).1
        have := adams_most hV hh s m hi
        exact decide_eq_false (by omega)
      · rw [Bool.eq_false_iff]
        intro z
        rw [Bool.and_eq_true, Bool.and_eq_true] at z
        obtain ⟨⟨p, q⟩, r⟩ := z
        have r := of_decide_eq_true r
        obtain ⟨i, hi, gi, ei⟩ := chG_mem (lmx_spec (ne_of p)).1
        obtain ⟨j, hj, lj, ej⟩ := chL_mem (lmn_spec (ne_of q)).1
        have := adams_pair hV hh s m hi hj gi lj
        omega
    rw [no] at cb
    exact ⟨kU σ V S M, by rw [evSL_nxt (σ' := kU σ V S M) (by rw [e_ite_f cb]; rfl)]; rfl, kU_fr σ V S M⟩

theorem k_chk3_ev {o : Option (List Int)} (m : ∀ M, o = some M → MSpec V h 1 2 M false) (h7 : ∀ M, M.length = V.length → F 7 [DI V, DI S, DI M] = some (.ok (chT V S M))) {σ : Sg} (h3 : σ 3 = some (DI V)) (h5 : σ 5 = some (DI S)) (hx : σ 8 = some (DSo o)) :
    ∃ σ', evS s_own F mu k_chk3 σ = some (.nxt σ') ∧ ∀ q, q < 10 → σ' q = σ q := by
  unfold k_chk3
  have c := isn_so (F := F) (bw := false) (y := false) hx
  cases o with
  | none => exact ⟨σ, by rw [e_ite_f c]; rfl, fun _ _ => rfl⟩
  | some M =>
    have m := m M rfl
    rw [e_ite_t c, evSL_nxt (k_asg_ev (h7 M m.len) h3 h5 hx)]
    refine ⟨kU σ V S M, ?_, kU_fr σ V S M⟩
    have ne := chD_ne (V := V) (S := S) (M := M) hV.n1
    have c2 : ev s_own F false (.bop true (.cons (k_ne 10) (.cons (k_ne 11) .nil))) (kU σ V S M) = some (.bool ((!(chG V S M == [])) && (!(chL V S M == [])))) := band (k_ne_ev (kU10 σ V S M)) fun _ => k_ne_ev (kU11 σ V S M)
    by_cases z : ((!(chG V S M == [])) && (!(chL V S M == []))) = true
    · rw [z] at c2
      rw [Bool.and_eq_true] at z
      obtain ⟨p, q⟩ := z
      have p := ne_of p
      have q := ne_of q
      have ck : ev s_own F false k_ok3 (kU σ V S M) = some (.bool ((decide (lmx (chL V S M) < lmn (chG V S M)) && (lmn (chD V S M) == -1)) || (decide (lmx (chG V S M) < lmn (chL V S M)) && (lmx (chD V S M) == 1)))) := by
        unfold k_ok3
        exact bor (band (ev_cmp (k_mn_ev (kU10 σ V S M) p) (k_mx_ev (kU11 σ V S M) q) rfl) fun _ => ev_cmp (ev_vb (kU13 σ V S M)) neg1 rfl) fun _ => band (ev_cmp (k_mx_ev (kU10 σ V S M) p) (k_mn_ev (kU11 σ V S M) q) rfl) fun _ => ev_cmp (ev_vb (kU12 σ V S M)) ev_k rfl
      obtain ⟨i, hi, gi, ei⟩ := chG_mem (lmn_spec p).1
      obtain ⟨j, hj, lj, ej⟩ := chL_mem (lmx_spec q).1
      obtain ⟨i', hi', gi', ei'⟩ := chG_mem (lmx_spec p).1
      obtain ⟨j', hj', lj', ej'⟩ := chL_mem (lmn_spec q).1
      have yes : ((decide (lmx (chL V S M) < lmn (chG V S M)) && (lmn (chD V S M) == -1)) || (decide (lmx (chG V S M) < lmn (chL V S M)) && (lmx (chD V S M) == 1))) = true := by
        rw [Bool.or_eq_true, Bool.and_eq_true, Bool.and_eq_true]
        rcases webs_pair hV hh s m hi hj gi lj with ⟨w, lt⟩ | ⟨w, lt⟩
        · left
          refine ⟨decide_eq_true (by omega), beq_iff_eq.mpr ?_⟩
          obtain ⟨k, hk, e⟩ := chD_mem.mp (lmn_spec ne).1
          have b1 := webs_least hV hh s m hi hk gi w
          have b2 := (lmn_spec ne).2 _ (chD_mem.mpr ⟨j, hj, rfl⟩)
          omega
        · right
          rcases webs_pair hV hh s m hi' hj' gi' lj' with ⟨w', _⟩ | ⟨_, lt'⟩
          · omega
          · refine ⟨decide_eq_true (by omega), beq_iff_eq.mpr ?_⟩
            obtain ⟨k, hk, e⟩ := chD_mem.mp (lmx_spec ne).1
            have b1 := webs_most hV hh s m hk hj lj w
            have b2 := (lmx_spec ne).2 _ (chD_mem.mpr ⟨i, hi, rfl⟩)
            omega
      rw [yes] at ck
      have cn : ev s_own F false (.not k_ok3) (kU σ V S M) = some (.bool false) := ev_not ck
      have inner : evS s_own F mu (.ite (.bop true (.cons (k_ne 10) (.cons (k_ne 11) .nil))) (.cons (.ite (.not k_ok3) (.cons (.ret (.k .fls)) .nil) .nil) .nil) .nil) (kU σ V S M) = some (.nxt (kU σ V S M)) := by
        rw [e_ite_t c2, evSL_nxt (σ' := kU σ V S M) (by rw [e_ite_f cn]; rfl)]; rfl
      rw [evSL_nxt inner]; rfl
    · rw [show ((!(chG V S M == [])) && (!(chL V S M == []))) = false by simpa using z] at c2
      rw [evSL_nxt (σ' := kU σ V S M) (by rw [e_ite_f c2]; rfl)]; rfl
end
end
end Mine
end

section
open PySem PySem.W PyProof.Rows
set_option maxRecDepth 100000
namespace Mine

/-! ## R5a. What laws 01 and 02 share of the law's first lines (as in Q9) -/
def hNames : List PySem.Str := [PySem.Str.ofString "lrm", PySem.Str.ofString "hamilton", PySem.Str.ofString "largest_remainder"]
section
variable {F : Fn} {mu : Nat → Bool}
theorem call_ev {own : Nat → Bool} {σ : Sg} {f : Nat} {l : TL} {ds : List D} {d : D} {bw : Bool} (hl : evL own F false l σ = some ds) (hF : F f ds = some (.ok d)) : ev own F bw (.call f l) σ = some d := by
  unfold ev; rw [hl, Option.bind_some, hF]; rfl
/-- script[:n] + rest[len(script[:n]):] -/
theorem cells_ev {own : Nat → Bool} {σ : Sg} {ks rs : List Int} {n : Nat} {bw : Bool} (o0 : own 0 = false) (o1 : own 1 = false) (hn : n ≤ 100) (hr : rs.length = n) (h0 : σ 0 = some (DI ks)) (h1 : σ 1 = some (DI rs)) :
    ev own F bw (.op .add (.sl (.v 0) .none (.some (.k (.int (n : Int))))) (.sl (.v 1) (.some (.bi .len (.cons (.sl (.v 0) .none (.some (.k (.int (n : Int))))) .nil))) .none)) σ = some (DI (ks.take n ++ rs.drop (ks.take n).length)) := by
  have s1 : ∀ {bw}, ev own F bw (.sl (.v 0) .none (.some (.k (.int (n : Int))))) σ = some (DI (ks.take n)) := fun {bw} => by
    unfold ev evO
    rw [ev_v h0 o0, ev_k]
    simp only [Option.bind_some, DI, listD, intD, K.d, Option.map_some, slD]
    rw [if_pos ⟨by omega, small_of (by omega) (by omega)⟩]
    simp [List.map_take]
  have ltt : (ks.take n).length ≤ n := by rw [List.length_take]; omega
  have sl : ∀ {bw}, ev own F bw (.bi .len (.cons (.sl (.v 0) .none (.some (.k (.int (n : Int))))) .nil)) σ = some (.int (ks.take n).length) := ev_bi1 s1 (bi_len _)
  have s2 : ev own F false (.sl (.v 1) (.some (.bi .len (.cons (.sl (.v 0) .none (.some (.k (.int (n : Int))))) .nil))) .none) σ = some (DI (rs.drop (ks.take n).length)) := by
    unfold ev evO
    rw [ev_v h1 o1, sl]
    simp only [Option.bind_some, DI, listD, intD, Option.map_some, slD]
    rw [if_pos ⟨by omega, small_of (by omega) (by omega)⟩]
    rw [Option.map_some, Int.toNat_natCast, List.map_drop]
  refine ev_op s1 s2 ?_
  simp only [DI, op2D, List.length_map]
  rw [if_pos (by show _ ≤ 1000; rw [List.length_drop]; omega)]
  simp

end
end Mine
end

section
open PySem PySem.W PyProof.Rows
set_option maxRecDepth 100000
namespace Mine

/-! ## R6. The law, whole -/
def jD (V : List Int) (h : Nat) : List Int × Bool := (dres V (dsJ h) (zeros V) h, dtie V (dsJ h) (zeros V) h)
def wD (V : List Int) (h : Nat) : List Int × Bool := (dres V (dsW h) (zeros V) h, dtie V (dsW h) (zeros V) h)
def b_in : T := (.cmp .inn (.list .nil) (.list (.cons (.v 5) (.cons (.v 6) (.cons (.v 7) (.cons (.v 8) .nil))))))
def b_n1 : T := (.idx (.list (.cons (.k (.str (PySem.Str.ofString "lrm"))) (.cons (.k (.str (PySem.Str.ofString "hamilton"))) (.cons (.k (.str (PySem.Str.ofString "largest_remainder"))) .nil)))) (.op .mod (.idx (.v 2) (.k (.int 0))) (.k (.int 3))))
def b_n2 : T := (.idx (.list (.cons (.k (.str (PySem.Str.ofString "dhondt"))) (.cons (.k (.str (PySem.Str.ofString "jefferson"))) (.cons (.k (.str (PySem.Str.ofString "greatestdivisors"))) .nil)))) (.op .mod (.op .fdiv (.idx (.v 2) (.k (.int 0))) (.k (.int 3))) (.k (.int 3))))
def b_n3 : T := (.idx (.list (.cons (.k (.str (PySem.Str.ofString "adams"))) (.cons (.k (.str (PySem.Str.ofString "smallestdivisor"))) .nil))) (.op .mod (.op .fdiv (.idx (.v 2) (.k (.int 0))) (.k (.int 9))) (.k (.int 2))))
def b_n4 : T := (.idx (.list (.cons (.k (.str (PySem.Str.ofString "saintelague"))) (.cons (.k (.str (PySem.Str.ofString "webster"))) (.cons (.k (.str (PySem.Str.ofString "majorfractions"))) .nil)))) (.op .mod (.op .fdiv (.idx (.v 2) (.k (.int 0))) (.k (.int 18))) (.k (.int 3))))
def b_sg (a b : Int) : T := (.tup (.cons (.k (.int a)) (.cons (.k (.int b)) .nil)))
def b_call (n s : T) : T := (.call 6 (.cons n (.cons (.v 3) (.cons (.v 4) (.cons s .nil)))))
def b_loop : SL := (.cons (.asg (.v 5) (b_call b_n1 (.k .non))) (.cons (.asg (.v 6) (b_call b_n2 (b_sg 1 1))) (.cons (.asg (.v 7) (b_call b_n3 (b_sg 0 1))) (.cons (.asg (.v 8) (b_call b_n4 (b_sg 1 2))) (.cons (.ite b_in (.cons (.ret (.k .fls)) .nil) .nil) (.cons (.ite (.isn true (.v 5)) (.cons .cont .nil) .nil) (.cons k_chk1 (.cons k_chk2 (.cons k_chk3 .nil)))))))))
def b_rs : List Int := [1, 3, 2, 500, 340, 160, 90, 21]
def b_cs (ks : List Int) : List Int := ks.take 8 ++ b_rs.drop (ks.take 8).length
theorem b_cs_len (ks : List Int) : (b_cs ks).length = 8 := by
  unfold b_cs
  rw [List.length_append, List.length_drop]
  have : (ks.take 8).length ≤ 8 := by rw [List.length_take]; omega
  have : b_rs.length = 8 := rfl
  omega
def b_nn (ks : List Int) : Nat := (2 + (b_cs ks).getD 1 0 % 4).toNat
def b_V (ks : List Int) : List Int := (List.range (b_nn ks)).map fun k => 1 + (b_cs ks).getD (3 + k) 0 % 10 ^ 9
def b_list : T := (.list (.cons (.k (.int 1)) (.cons (.k (.int 3)) (.cons (.k (.int 2)) (.cons (.k (.int 500)) (.cons (.k (.int 340)) (.cons (.k (.int 160)) (.cons (.k (.int 90)) (.cons (.k (.int 21)) .nil)))))))))
def b_cells : T := (.op .add (.sl (.v 0) .none (.some (.k (.int 8)))) (.sl (.v 1) (.some (.bi .len (.cons (.sl (.v 0) .none (.some (.k (.int 8)))) .nil))) .none))
def b_votes : T := (.comp (.op .add (.k (.int 1)) (.op .mod (.idx (.v 2) (.op .add (.k (.int 3)) (.v 9))) (.op .pow (.k (.int 10)) (.k (.int 9))))) (.cons (.v 9) (.range1 (.op .add (.k (.int 2)) (.op .mod (.idx (.v 2) (.k (.int 1))) (.k (.int 4))))) .nil .nil))
def b_from : T := (.op .add (.bi .len (.cons (.v 3) .nil)) (.op .mod (.idx (.v 2) (.k (.int 2))) (.k (.int 10))))
def b_law : SL := .cons (.asg (.v 1) b_list) (.cons (.asg (.v 2) b_cells) (.cons (.asg (.v 3) b_votes) (.cons (.loop (.v 4) (.range2 b_from (.op .add b_from (.k (.int 2)))) b_loop) (.cons (.ret (.k .tru)) .nil))))

structure Told2 (F : Fn) : Prop where
  t6h : ∀ (V : List Int) (h : Nat) (m : PySem.Str), VOk V → V.length ≤ h → h ≤ 16 → m ∈ hNames → F 6 [.str m, DI V, .int h, .non] = some (.ok (DSo (mo (hD V h))))
  t6j : ∀ (V : List Int) (h : Nat) (m : PySem.Str), VOk V → V.length ≤ h → h ≤ 16 → m ∈ jNames → F 6 [.str m, DI V, .int h, .tup [.int 1, .int 1]] = some (.ok (DSo (mo (jD V h))))
  t6a : ∀ (V : List Int) (h : Nat) (m : PySem.Str), VOk V → V.length ≤ h → h ≤ 16 → m ∈ aNames → F 6 [.str m, DI V, .int h, .tup [.int 0, .int 1]] = some (.ok (DSo (mo (aD V h))))
  t6w : ∀ (V : List Int) (h : Nat) (m : PySem.Str), VOk V → V.length ≤ h → h ≤ 16 → m ∈ wNames → F 6 [.str m, DI V, .int h, .tup [.int 1, .int 2]] = some (.ok (DSo (mo (wD V h))))
  t7 : ∀ (V S M : List Int), VOk V → S.length = V.length → M.length = V.length → F 7 [DI V, DI S, DI M] = some (.ok (chT V S M))

section
variable {F : Fn} {mu : Nat → Bool}

theorem b_name {ns : List PySem.Str} {L e : T} {x : Int} {σ : Sg} (hL : ev s_own F true L σ = some (.list (ns.map .str))) (he : ev s_own F false e σ = some (.int x)) (x0 : 0 ≤ x) (xn : x < ns.length) : ∃ m, m ∈ ns ∧ ev s_own F false (.idx L e) σ = some (.str m) := by
  have h3 : x.toNat < ns.length := by omega
  refine ⟨ns[x.toNat], List.getElem_mem h3, ev_idx hL he ?_⟩
  simp only [idxD, seqD, Option.bind_some, intD]
  have hp : place (ns.map D.str).length x = some x.toNat := by
    unfold place
    rw [if_pos x0, if_pos (by rw [List.length_map]; exact h3)]
  rw [hp, Option.bind_some, List.getElem?_map, List.getElem?_eq_getElem h3]; rfl

theorem b_call_ev {n s : T} {a b c d r : D} {σ : Sg} (ha : ev s_own F false n σ = some a) (hb : σ 3 = some b) (hc : σ 4 = some c) (hd : ev s_own F false s σ = some d) (hF : F 6 [a, b, c, d] = some (.ok r)) : ev s_own F false (b_call n s) σ = some r := by
  unfold b_call ev
  have ar : evL s_own F false (.cons n (.cons (.v 3) (.cons (.v 4) (.cons s .nil)))) σ = some [a, b, c, d] := by
    simp only [evL]
    rw [ha, ev_v hb rfl, ev_v hc rfl, hd]; rfl
  rw [ar, Option.bind_some, hF]; rfl

theorem anyNo : ∀ {xs : List D}, (∀ x ∈ xs, eqD x (.list []) = some false) → anyEq (.list []) xs = some false
  | [], _ => rfl
  | x :: r, h => by
    unfold anyEq
    rw [h x List.mem_cons_self, Option.bind_some, anyNo fun y m => h y (List.mem_cons_of_mem _ m)]; rfl
theorem so_no {o : Option (List Int)} (h : ∀ S, o = some S → S ≠ []) : eqD (DSo o) (.list []) = some false := by
  cases o with
  | none => rfl
  | some S =>
    have := h S rfl
    show eqD (DI S) (DI []) = _
    rw [eq_DI]
    cases S with
    | nil => exact absurd rfl this
    | cons _ _ => rfl
theorem mo_some {p : List Int × Bool} {S : List Int} (h : mo p = some S) : p.2 = false ∧ S = p.1 := by
  unfold mo at h
  by_cases z : p.2 = true
  · rw [if_pos z] at h; cases h
  · rw [if_neg z] at h; cases h; exact ⟨by simpa using z, rfl⟩
theorem ne_len {S V : List Int} (n1 : 1 ≤ V.length) (h : S.length = V.length) : S ≠ [] := by
  intro z; subst z; simp at h; omega

theorem b_turn {V cs : List Int} {h : Nat} (T2 : Told2 F) (hV : VOk V) (h1 : V.length ≤ h) (h2 : h ≤ 16) (hc : cs.length = 8) {σ : Sg} (s2 : σ 2 = some (DI cs)) (s3 : σ 3 = some (DI V)) (s4 : σ 4 = some (.int h)) :
    ∃ σ', (evSL s_own F mu b_loop σ = some (.nxt σ') ∨ evSL s_own F mu b_loop σ = some (.cnt σ')) ∧ σ' 2 = σ 2 ∧ σ' 3 = σ 3 := by
  have n1 := hV.n1
  have cell : ∀ {σ : Sg} {bw}, σ 2 = some (DI cs) → ev s_own F bw (.idx (.v 2) (.k (.int 0))) σ = some (.int (cs.getD 0 0)) := fun {σ bw} h2 => ev_idx (y := .int ((0 : Nat) : Int)) (ev_vb h2) ev_k (idx_DI (by omega))
  have lst3 : ∀ {σ : Sg} (a b c : PySem.Str), ev s_own F true (.list (.cons (.k (.str a)) (.cons (.k (.str b)) (.cons (.k (.str c)) .nil)))) σ = some (.list ([a, b, c].map .str)) := fun {σ} a b c => by
    simp only [ev, evL, Option.bind_some, K.d]; rw [if_pos (show [D.str a, D.str b, D.str c].length ≤ LB from (by decide : 3 ≤ 1000))]; rfl
  have lst2 : ∀ {σ : Sg} (a b : PySem.Str), ev s_own F true (.list (.cons (.k (.str a)) (.cons (.k (.str b)) .nil))) σ = some (.list ([a, b].map .str)) := fun {σ} a b => by
    simp only [ev, evL, Option.bind_some, K.d]; rw [if_pos (show [D.str a, D.str b].length ≤ LB from (by decide : 2 ≤ 1000))]; rfl
  have sg : ∀ {σ : Sg} (a b : Int), ev s_own F false (b_sg a b) σ = some (.tup [.int a, .int b]) := fun {σ} a b => ev_tup2 ev_k ev_k
  unfold b_loop
  obtain ⟨m1, hm1, e1⟩ : ∃ m, m ∈ hNames ∧ ev s_own F false b_n1 σ = some (.str m) := b_name (F := F) (ns := hNames) (σ := σ) (lst3 (PySem.Str.ofString "lrm") (PySem.Str.ofString "hamilton") (PySem.Str.ofString "largest_remainder")) (ev_op (cell s2) (ev_k (c := .int 3)) (op_mod (by decide))) (by omega) (by show _ < (3 : Int); omega)
  rw [evSL_nxt (e_asg (b_call_ev e1 s3 s4 (ev_k (c := .non)) (T2.t6h V h m1 hV h1 h2 hm1)) rfl)]
  generalize hσ1 : upd σ 5 (DSo (mo (hD V h))) = σ1
  have a2 : σ1 2 = some (DI cs) := by rw [← hσ1]; simp [upd, s2]
  have a3 : σ1 3 = some (DI V) := by rw [← hσ1]; simp [upd, s3]
  have a4 : σ1 4 = some (.int h) := by rw [← hσ1]; simp [upd, s4]
  have a5 : σ1 5 = some (DSo (mo (hD V h))) := by rw [← hσ1]; simp [upd]
  obtain ⟨m2, hm2, e2⟩ : ∃ m, m ∈ jNames ∧ ev s_own F false b_n2 σ1 = some (.str m) := b_name (F := F) (ns := jNames) (σ := σ1) (lst3 (PySem.Str.ofString "dhondt") (PySem.Str.ofString "jefferson") (PySem.Str.ofString "greatestdivisors")) (ev_op (ev_op (cell a2) (ev_k (c := .int 3)) (op_fdiv (by decide) (by decide))) (ev_k (c := .int 3)) (op_mod (by decide))) (by omega) (by show _ < (3 : Int); omega)
  rw [evSL_nxt (e_asg (b_call_ev e2 a3 a4 (sg 1 1) (T2.t6j V h m2 hV h1 h2 hm2)) rfl)]
  generalize hσ2 : upd σ1 6 (DSo (mo (jD V h))) = σ2
  have b2 : σ2 2 = some (DI cs) := by rw [← hσ2]; simp [upd, a2]
  have b3 : σ2 3 = some (DI V) := by rw [← hσ2]; simp [upd, a3]
  have b4 : σ2 4 = some (.int h) := by rw [← hσ2]; simp [upd, a4]
  have b5 : σ2 5 = some (DSo (mo (hD V h))) := by rw [← hσ2]; simp [upd, a5]
  have b6 : σ2 6 = some (DSo (mo (jD V h))) := by rw [← hσ2]; simp [upd]
  obtain ⟨m3, hm3, e3⟩ : ∃ m, m ∈ aNames ∧ ev s_own F false b_n3 σ2 = some (.str m) := b_name (F := F) (ns := aNames) (σ := σ2) (lst2 (PySem.Str.ofString "adams") (PySem.Str.ofString "smallestdivisor")) (ev_op (ev_op (cell b2) (ev_k (c := .int 9)) (op_fdiv (by decide) (by decide))) (ev_k (c := .int 2)) (op_mod (by decide))) (by omega) (by show _ < (2 : Int); omega)
  rw [evSL_nxt (e_asg (b_call_ev e3 b3 b4 (sg 0 1) (T2.t6a V h m3 hV h1 h2 hm3)) rfl)]
  generalize hσ3 : upd σ2 7 (DSo (mo (aD V h))) = σ3
  have c2 : σ3 2 = some (DI cs) := by rw [← hσ3]; simp [upd, b2]
  have c3 : σ3 3 = some (DI V) := by rw [← hσ3]; simp [upd, b3]
  have c4 : σ3 4 = some (.int h) := by rw [← hσ3]; simp [upd, b4]
  have c5 : σ3 5 = some (DSo (mo (hD V h))) := by rw [← hσ3]; simp [upd, b5]
  have c6 : σ3 6 = some (DSo (mo (jD V h))) := by rw [← hσ3]; simp [upd, b6]
  have c7 : σ3 7 = some (DSo (mo (aD V h))) := by rw [← hσ3]; simp [upd]
  obtain ⟨m4, hm4, e4⟩ : ∃ m, m ∈ wNames ∧ ev s_own F false b_n4 σ3 = some (.str m) := b_name (F := F) (ns := wNames) (σ := σ3) (lst3 (PySem.Str.ofString "saintelague") (PySem.Str.ofString "webster") (PySem.Str.ofString "majorfractions")) (ev_op (ev_op (cell c2) (ev_k (c := .int 18)) (op_fdiv (by decide) (by decide))) (ev_k (c := .int 3)) (op_mod (by decide))) (by omega) (by show _ < (3 : Int); omega)
  rw [evSL_nxt (e_asg (b_call_ev e4 c3 c4 (sg 1 2) (T2.t6w V h m4 hV h1 h2 hm4)) rfl)]
  generalize hσ4 : upd σ3 8 (DSo (mo (wD V h))) = σ4
  have d2 : σ4 2 = some (DI cs) := by rw [← hσ4]; simp [upd, c2]
  have d3 : σ4 3 = some (DI V) := by rw [← hσ4]; simp [upd, c3]
  have d5 : σ4 5 = some (DSo (mo (hD V h))) := by rw [← hσ4]; simp [upd, c5]
  have d6 : σ4 6 = some (DSo (mo (jD V h))) := by rw [← hσ4]; simp [upd, c6]
  have d7 : σ4 7 = some (DSo (mo (aD V h))) := by rw [← hσ4]; simp [upd, c7]
  have d8 : σ4 8 = some (DSo (mo (wD V h))) := by rw [← hσ4]; simp [upd]
  have f2 : σ4 2 = σ 2 := by rw [d2, s2]
  have f3 : σ4 3 = σ 3 := by rw [d3, s3]
  have hh1 : 1 ≤ h := by omega
  have sj := j_spec hV hh1
  have sw := w_spec hV hh1
  have sa := a_spec hV h1
  have sh := h_spec (V := V) (h := (h : Int)) hV.sum.1
  have pj : ∀ M, mo (jD V h) = some M → MSpec V h 1 1 M false := fun M e => by
    obtain ⟨p, q⟩ := mo_some e
    have sj : MSpec V h 1 1 (jD V h).1 (jD V h).2 := sj
    rw [p, ← q] at sj; exact sj
  have pa : ∀ M, mo (aD V h) = some M → MSpec V h 0 1 M false := fun M e => by
    obtain ⟨p, q⟩ := mo_some e
    rw [p, ← q] at sa; exact sa
  have pw : ∀ M, mo (wD V h) = some M → MSpec V h 1 2 M false := fun M e => by
    obtain ⟨p, q⟩ := mo_some e
    have sw : MSpec V h 1 2 (wD V h).1 (wD V h).2 := sw
    rw [p, ← q] at sw; exact sw
  have ph : ∀ S, mo (hD V h) = some S → ∃ d, HSpec V h S d := fun S e => by
    obtain ⟨p, q⟩ := mo_some e
    rw [p, if_neg (by decide), ← q] at sh; exact sh
  have cin : ev s_own F false b_in σ4 = some (.bool false) := by
    unfold b_in
    have n : ev s_own F true (.list .nil) σ4 = some (.list []) := by unfold ev; rfl
    have l : ev s_own F true (.list (.cons (.v 5) (.cons (.v 6) (.cons (.v 7) (.cons (.v 8) .nil))))) σ4 = some (.list [DSo (mo (hD V h)), DSo (mo (jD V h)), DSo (mo (aD V h)), DSo (mo (wD V h))]) := by
      unfold ev
      simp only [evL]
      rw [ev_v d5 rfl, ev_v d6 rfl, ev_v d7 rfl, ev_v d8 rfl]; rfl
    refine ev_cmp n l ?_
    show anyEq (.list []) _ = _
    refine anyNo fun x hx => ?_
    simp only [List.mem_cons, List.not_mem_nil, or_false] at hx
    rcases hx with rfl | rfl | rfl | rfl
    · exact so_no fun S e => by obtain ⟨d, q⟩ := ph S e; exact ne_len n1 q.len
    · exact so_no fun S e => ne_len n1 (pj S e).len
    · exact so_no fun S e => ne_len n1 (pa S e).len
    · exact so_no fun S e => ne_len n1 (pw S e).len
  rw [evSL_nxt (σ' := σ4) (by rw [e_ite_f cin]; rfl)]
  have c5' := isn_so (F := F) (bw := false) (y := true) d5
  cases ho : mo (hD V h) with
  | none =>
    rw [ho] at c5'
    refine ⟨σ4, .inr ?_, f2, f3⟩
    have : evS s_own F mu (.ite (.isn true (.v 5)) (.cons .cont .nil) .nil) σ4 = some (.cnt σ4) := by rw [e_ite_t c5']; rfl
    unfold evSL
    rw [this]; rfl
  | some S =>
    rw [ho] at c5' d5
    rw [evSL_nxt (σ' := σ4) (by rw [e_ite_f c5']; rfl)]
    obtain ⟨d, hS⟩ := ph S ho
    have t7 : ∀ M, M.length = V.length → F 7 [DI V, DI S, DI M] = some (.ok (chT V S M)) := fun M hM => T2.t7 V S M hV hS.len hM
    have d5 : σ4 5 = some (DI S) := d5
    obtain ⟨σ5, g5, fr5⟩ := k_chk1_ev (F := F) (mu := mu) hV (by omega) hS pj t7 d3 d5 d6
    rw [evSL_nxt g5]
    obtain ⟨σ6, g6, fr6⟩ := k_chk2_ev (F := F) (mu := mu) hV (by omega) hS pa t7 (σ := σ5) (by rw [fr5 3 (by decide)]; exact d3) (by rw [fr5 5 (by decide)]; exact d5) (by rw [fr5 7 (by decide)]; exact d7)
    rw [evSL_nxt g6]
    obtain ⟨σ7, g7, fr7⟩ := k_chk3_ev (F := F) (mu := mu) hV (by omega) hS pw t7 (σ := σ6) (by rw [fr6 3 (by decide), fr5 3 (by decide)]; exact d3) (by rw [fr6 5 (by decide), fr5 5 (by decide)]; exact d5) (by rw [fr6 8 (by decide), fr5 8 (by decide)]; exact d8)
    rw [evSL_nxt g7]
    exact ⟨σ7, .inl rfl, by rw [fr7 2 (by decide), fr6 2 (by decide), fr5 2 (by decide), f2], by rw [fr7 3 (by decide), fr6 3 (by decide), fr5 3 (by decide), f3]⟩

theorem b_law_ev {ks : List Int} (T2 : Told2 F) {σ : Sg} (h0 : σ 0 = some (DI ks)) : evSL s_own F mu b_law σ = some (.ret (.bool true)) := by
  have hcl := b_cs_len ks
  unfold b_law
  rw [evSL_nxt (e_asg (d := DI b_rs) rfl rfl)]
  generalize hσ1 : upd σ 1 (DI b_rs) = σ1
  have a0 : σ1 0 = some (DI ks) := by rw [← hσ1]; simp [upd, h0]
  have a1 : σ1 1 = some (DI b_rs) := by rw [← hσ1]; simp [upd]
  have ec : ev s_own F false b_cells σ1 = some (DI (b_cs ks)) := cells_ev (n := 8) rfl rfl (by decide) rfl a0 a1
  rw [evSL_nxt (e_asg ec rfl)]
  generalize hσ2 : upd σ1 2 (DI (b_cs ks)) = σ2
  have b2 : σ2 2 = some (DI (b_cs ks)) := by rw [← hσ2]; simp [upd]
  have cell : ∀ {σ : Sg} {bw} (j : Nat), j < 8 → σ 2 = some (DI (b_cs ks)) → ev s_own F bw (.idx (.v 2) (.k (.int (j : Int)))) σ = some (.int ((b_cs ks).getD j 0)) := fun {σ bw} j hj h2 => ev_idx (ev_vb h2) ev_k (idx_DI (by omega))
  have hn : ev s_own F false (.op .add (.k (.int 2)) (.op .mod (.idx (.v 2) (.k (.int 1))) (.k (.int 4)))) σ2 = some (.int (b_nn ks : Int)) := by
    have : ((b_nn ks : Nat) : Int) = 2 + (b_cs ks).getD 1 0 % 4 := by unfold b_nn; omega
    rw [this]
    exact ev_op ev_k (ev_op (cell 1 (by decide) b2) ev_k (op_mod (by decide))) rfl
  have ln : 2 ≤ b_nn ks ∧ b_nn ks ≤ 5 := by unfold b_nn; omega
  have ep : ev s_own F false b_votes σ2 = some (DI (b_V ks)) := by
    unfold b_votes
    rw [t_rangeMap (f := fun k => D.int (1 + (b_cs ks).getD (3 + k) 0 % 10 ^ 9)) rfl hn (by omega) fun k hk => ?_]
    · simp [DI, b_V]
    · exact ev_op ev_k (ev_op (ev_idx (y := .int ((3 + k : Nat) : Int)) (ev_vb (d := DI (b_cs ks)) (by simp [upd, b2])) (ev_op (y := .int (k : Int)) ev_k (ev_v (by simp [upd]) rfl) (by show some (D.int (3 + (k : Int))) = _; congr 2)) (idx_DI (by omega))) (ev_op (z := .int (10 ^ 9)) ev_k ev_k (by simp only [op2D, K.d]; rw [if_pos (by decide)]; rfl)) (op_mod (by decide))) rfl
  rw [evSL_nxt (e_asg ep rfl)]
  generalize hσ3 : upd σ2 3 (DI (b_V ks)) = σ3
  have c2 : σ3 2 = some (DI (b_cs ks)) := by rw [← hσ3]; simp [upd, b2]
  have c3 : σ3 3 = some (DI (b_V ks)) := by rw [← hσ3]; simp [upd]
  have hVl : (b_V ks).length = b_nn ks := by simp [b_V]
  have hV : VOk (b_V ks) := by
    have lo : ∀ v ∈ b_V ks, 1 ≤ v ∧ v ≤ 10 ^ 9 := fun v hv => by
      unfold b_V at hv
      obtain ⟨k, _, rfl⟩ := List.mem_map.mp hv
      omega
    exact ⟨by omega, by omega, fun v hv => (lo v hv).1, fun v hv => by have := (lo v hv).2; omega⟩
  obtain ⟨h, hh⟩ : ∃ h : Nat, (h : Int) = (b_V ks).length + (b_cs ks).getD 2 0 % 10 := ⟨((b_V ks).length + (b_cs ks).getD 2 0 % 10).toNat, by omega⟩
  have ef : ev s_own F false b_from σ3 = some (.int h) := by
    rw [hh]
    exact ev_op (ev_lenV c3) (ev_op (cell 2 (by decide) c2) ev_k (op_mod (by decide))) rfl
  have et : ev s_own F false (.op .add b_from (.k (.int 2))) σ3 = some (.int ((h : Int) + 2)) := ev_op ef ev_k rfl
  have er : evSr s_own F (.range2 b_from (.op .add b_from (.k (.int 2)))) σ3 = some [D.int (h : Int), D.int ((h + 1 : Nat) : Int)] := by
    unfold evSr
    rw [ef, et]
    simp only [Option.bind_some, intD, rangeD]
    rw [if_pos ⟨by simp [tiny]; omega, by simp [tiny]; omega, by simp [LB]; omega⟩]
    rw [show ((h : Int) + 2 - h).toNat = 2 by omega]
    rfl
  have inv := loopF_inv (f := fun d σ => (bindP s_own (.v 4) d σ).bind fun σ' => evSL s_own F mu b_loop σ') (fun _ σ' => σ' 2 = some (DI (b_cs ks)) ∧ σ' 3 = some (DI (b_V ks))) [D.int (h : Int), D.int ((h + 1 : Nat) : Int)] 0 σ3 ⟨c2, c3⟩ fun i σ' hi hI => by
    obtain ⟨g2, g3⟩ := hI
    have turn : ∀ k : Nat, (b_V ks).length ≤ k → k ≤ 16 → ∃ σ2, (((bindP s_own (.v 4) (.int (k : Int)) σ').bind fun σ' => evSL s_own F mu b_loop σ') = some (.nxt σ2) ∨ ((bindP s_own (.v 4) (.int (k : Int)) σ').bind fun σ' => evSL s_own F mu b_loop σ') = some (.cnt σ2)) ∧ σ2 2 = some (DI (b_cs ks)) ∧ σ2 3 = some (DI (b_V ks)) := fun k k1 k2 => by
      obtain ⟨σ2, e, p2, p3⟩ := b_turn (F := F) (mu := mu) (cs := b_cs ks) T2 hV k1 k2 hcl (σ := upd σ' 4 (.int (k : Int))) (by simp [upd, g2]) (by simp [upd, g3]) (by simp [upd])
      refine ⟨σ2, ?_, by rw [p2]; simp [upd, g2], by rw [p3]; simp [upd, g3]⟩
      simp only [bindP]
      rw [if_neg (by decide), Option.bind_some]
      exact e
    match i, hi with
    | 0, _ => exact turn h (by omega) (by omega)
    | 1, _ => exact turn (h + 1) (by omega) (by omega)
  obtain ⟨σ7, e7, _⟩ := inv
  have el : evS s_own F mu (.loop (.v 4) (.range2 b_from (.op .add b_from (.k (.int 2)))) b_loop) σ3 = some (.nxt σ7) := by
    unfold evS
    rw [er, Option.bind_some]
    exact e7
  rw [evSL_nxt el]
  exact evSL_ret (e_ret ev_k)
end
end Mine
end

section
open PySem PySem.W PyProof.Rows
set_option maxRecDepth 100000
namespace Mine
theorem l2_own_h : l2_largest_remainder.own = h_own := by funext i; simp [FnD.own, l2_largest_remainder, h_own]; rfl
theorem l2_own_hc : l2_largest_remainder_c.own = h_own := by funext i; simp [FnD.own, l2_largest_remainder_c, h_own]; rfl
theorem l2_own_d : l2_divisor.own = d_own := by funext i; simp [FnD.own, l2_divisor, d_own]; rfl
theorem l2_own_dc : l2_divisor_c.own = d_own := by funext i; simp [FnD.own, l2_divisor_c, d_own]; rfl
theorem l2_own_s : l2_law_seats.own = s_own := by funext i; simp [FnD.own, l2_law_seats, s_own]
theorem l2_own_k : l2_law_changes.own = s_own := by funext i; simp [FnD.own, l2_law_changes, s_own]
theorem l2_own_l : l2_law.own = s_own := by funext i; simp [FnD.own, l2_law, s_own]

theorem VOk.w {V : List Int} (h : VOk V) : VOk' V := ⟨h.n1, by have := h.n5; omega, h.lo, fun v m => by have := h.hi v m; omega⟩

theorem dout_res {V ds r0 : List Int} {h : Nat} {ta : Bool} {o : Option R} (e : o = some (dout V ds r0 h ta)) : o.map resOf = some (mres (dres V ds r0 h, dtie V ds r0 h) ta) := by
  rw [e]
  unfold dout mres
  cases (dtie V ds r0 h && !ta) <;> rfl
theorem aout_res {V : List Int} {h : Nat} {ta : Bool} {o : Option R} (e : o = some (aout V h ta)) : o.map resOf = some (mres (aD V h) ta) := by
  rw [e]
  unfold aout aD
  by_cases z : h = V.length
  · rw [if_pos z, if_pos z]; rfl
  · rw [if_neg z, if_neg z]; exact dout_res rfl

theorem l2_lrm (n : Nat) {V : List Int} {h : Nat} (hV : VOk V) (h1 : 1 ≤ h) (h2 : h ≤ 16) (ta : Bool) : FF l2_fns (n + 1) 2 [DI V, .int h, .bool ta] = some (mres (hD V h) ta) := by
  have e : FF l2_fns (n + 1) 2 [DI V, .int h, .bool ta] = (evSL l2_largest_remainder.own (FF l2_fns n) (fun _ => true) l2_largest_remainder_b (l2_largest_remainder.start [DI V, .int h, .bool ta])).map resOf := rfl
  have e2 : l2_largest_remainder_b = h_bodyX .raise := rfl
  rw [e, l2_own_h, e2, h_body_ev (fun _ => rfl) hV.w (by omega) (by omega) (σ := l2_largest_remainder.start [DI V, .int h, .bool ta]) rfl rfl rfl (.inr rfl)]
  unfold mres
  cases (hD V h).2 && !ta <;> rfl
theorem l2_lrm_c (n : Nat) {V : List Int} {h : Nat} (hV : VOk V) (h1 : 1 ≤ h) (h2 : h ≤ 16) : FF l2_fns (n + 1) 11 [DI V, .int h, .bool true] = some (mres (hD V h) true) := by
  have e : FF l2_fns (n + 1) 11 [DI V, .int h, .bool true] = (evSL l2_largest_remainder_c.own (FF l2_fns n) (fun _ => true) l2_largest_remainder_c_b (l2_largest_remainder_c.start [DI V, .int h, .bool true])).map resOf := rfl
  have e2 : l2_largest_remainder_c_b = h_bodyX .dead := rfl
  rw [e, l2_own_hc, e2, h_body_ev (fun _ => rfl) hV.w (by omega) (by omega) (σ := l2_largest_remainder_c.start [DI V, .int h, .bool true]) rfl rfl rfl (.inl rfl)]
  unfold mres
  cases (hD V h).2 <;> rfl

section
variable {n : Nat} {V : List Int} {h : Nat} {m : PySem.Str} (hV : VOk V) (h1 : V.length ≤ h) (h2 : h ≤ 16)
include hV h1 h2
theorem l2_div_J (ta : Bool) (hm : m ∈ jNames) : FF l2_fns (n + 1) 3 [DI V, .int h, .str m, .bool ta] = some (mres (jD V h) ta) := by
  have e : FF l2_fns (n + 1) 3 [DI V, .int h, .str m, .bool ta] = (evSL l2_divisor.own (FF l2_fns n) (fun _ => true) l2_divisor_b (l2_divisor.start [DI V, .int h, .str m, .bool ta])).map resOf := rfl
  rw [e, l2_own_d]
  have n1 := hV.n1
  exact dout_res (d_ev_J (X := .raise) (fun _ => rfl) (.inr rfl) hV h2 (by omega) hm rfl rfl rfl rfl)
theorem l2_div_W (ta : Bool) (hm : m ∈ wNames) : FF l2_fns (n + 1) 3 [DI V, .int h, .str m, .bool ta] = some (mres (wD V h) ta) := by
  have e : FF l2_fns (n + 1) 3 [DI V, .int h, .str m, .bool ta] = (evSL l2_divisor.own (FF l2_fns n) (fun _ => true) l2_divisor_b (l2_divisor.start [DI V, .int h, .str m, .bool ta])).map resOf := rfl
  rw [e, l2_own_d]
  have n1 := hV.n1
  exact dout_res (d_ev_W (X := .raise) (fun _ => rfl) (.inr rfl) hV h2 (by omega) hm rfl rfl rfl rfl)
theorem l2_div_A (ta : Bool) (hm : m ∈ aNames) : FF l2_fns (n + 1) 3 [DI V, .int h, .str m, .bool ta] = some (mres (aD V h) ta) := by
  have e : FF l2_fns (n + 1) 3 [DI V, .int h, .str m, .bool ta] = (evSL l2_divisor.own (FF l2_fns n) (fun _ => true) l2_divisor_b (l2_divisor.start [DI V, .int h, .str m, .bool ta])).map resOf := rfl
  rw [e, l2_own_d]
  exact aout_res (d_ev_A (X := .raise) (fun _ => rfl) (.inr rfl) hV h2 h1 hm rfl rfl rfl rfl)
theorem l2_div_Jc (hm : m ∈ jNames) : FF l2_fns (n + 1) 12 [DI V, .int h, .str m, .bool true] = some (mres (jD V h) true) := by
  have e : FF l2_fns (n + 1) 12 [DI V, .int h, .str m, .bool true] = (evSL l2_divisor_c.own (FF l2_fns n) (fun _ => true) l2_divisor_c_b (l2_divisor_c.start [DI V, .int h, .str m, .bool true])).map resOf := rfl
  rw [e, l2_own_dc]
  have n1 := hV.n1
  exact dout_res (d_ev_J (X := .dead) (fun _ => rfl) (.inl rfl) hV h2 (by omega) hm rfl rfl rfl rfl)
theorem l2_div_Wc (hm : m ∈ wNames) : FF l2_fns (n + 1) 12 [DI V, .int h, .str m, .bool true] = some (mres (wD V h) true) := by
  have e : FF l2_fns (n + 1) 12 [DI V, .int h, .str m, .bool true] = (evSL l2_divisor_c.own (FF l2_fns n) (fun _ => true) l2_divisor_c_b (l2_divisor_c.start [DI V, .int h, .str m, .bool true])).map resOf := rfl
  rw [e, l2_own_dc]
  have n1 := hV.n1
  exact dout_res (d_ev_W (X := .dead) (fun _ => rfl) (.inl rfl) hV h2 (by omega) hm rfl rfl rfl rfl)
theorem l2_div_Ac (hm : m ∈ aNames) : FF l2_fns (n + 1) 12 [DI V, .int h, .str m, .bool true] = some (mres (aD V h) true) := by
  have e : FF l2_fns (n + 1) 12 [DI V, .int h, .str m, .bool true] = (evSL l2_divisor_c.own (FF l2_fns n) (fun _ => true) l2_divisor_c_b (l2_divisor_c.start [DI V, .int h, .str m, .bool true])).map resOf := rfl
  rw [e, l2_own_dc]
  exact aout_res (d_ev_A (X := .dead) (fun _ => rfl) (.inl rfl) hV h2 h1 hm rfl rfl rfl rfl)
end

/-! compute, by its names -/
theorem one_if {s : TS} {l : SL} {own : Nat → Bool} {F : Fn} {mu : Nat → Bool} {σ : Sg} {c : Bool} {d : D} (q : evS own F mu s σ = some (if c = true then .ties else .ret d)) : evSL own F mu (.cons s l) σ = some (if c = true then .ties else .ret d) := by
  unfold evSL
  rw [q]
  cases c <;> rfl
theorem retC_if {own : Nat → Bool} {F : Fn} {mu : Nat → Bool} {σ : Sg} {f : Nat} {l : TL} {ds : List D} {p : List Int × Bool} (ha : evL own F false l σ = some ds) (hF : F f ds = some (mres p false)) : evS own F mu (.retC f l) σ = some (if p.2 = true then .ties else .ret (DI p.1)) := by
  unfold evS
  rw [ha, Option.bind_some, hF]
  unfold mres
  cases p.2 <;> rfl

theorem l2_comp_h {n : Nat} {V : List Int} {h : Int} {m : PySem.Str} {p : List Int × Bool} (hd : FF l2_fns (n + 1) 2 [DI V, .int h, .bool false] = some (mres p false)) (hm : m ∈ hNames) : FF l2_fns (n + 2) 0 [.str m, DI V, .int h, .non, .bool false] = some (mres p false) := by
  have e : FF l2_fns (n + 2) 0 [.str m, DI V, .int h, .non, .bool false] = (evSL l2_compute.own (FF l2_fns (n + 1)) (fun _ => true) l2_compute_b (l2_compute.start [.str m, DI V, .int h, .non, .bool false])).map resOf := rfl
  rw [e]
  unfold l2_compute_b
  simp only [hNames, List.mem_cons, List.not_mem_nil, or_false] at hm
  rw [evSL_nxt (e_asg (d := DI V) (by simp only [ev, evL]; rfl) rfl)]
  rw [one_if (c := p.2) (d := DI p.1) (by
    rw [e_ite_f (by rcases hm with rfl | rfl | rfl <;> rfl)]
    refine one_if ?_
    rw [e_ite_t (by rcases hm with rfl | rfl | rfl <;> rfl)]
    exact one_if (retC_if (ds := [DI V, .int h, .bool false]) rfl hd))]
  unfold mres
  cases p.2 <;> rfl
theorem l2_comp_hc {n : Nat} {V : List Int} {h : Int} {m : PySem.Str} {p : List Int × Bool} (hd : FF l2_fns (n + 1) 11 [DI V, .int h, .bool true] = some (mres p true)) (hm : m ∈ hNames) : FF l2_fns (n + 2) 9 [.str m, DI V, .int h] = some (.ok (DI p.1)) := by
  have e : FF l2_fns (n + 2) 9 [.str m, DI V, .int h] = (evSL l2_compute_c.own (FF l2_fns (n + 1)) (fun _ => true) l2_compute_c_b (l2_compute_c.start [.str m, DI V, .int h, .non, .bool true])).map resOf := rfl
  rw [e]
  unfold l2_compute_c_b
  simp only [hNames, List.mem_cons, List.not_mem_nil, or_false] at hm
  rw [evSL_nxt (e_asg (d := DI V) (by simp only [ev, evL]; rfl) rfl)]
  rw [evSL_ret (d := DI p.1) (by
    rw [e_ite_f (by rcases hm with rfl | rfl | rfl <;> rfl)]
    refine evSL_ret ?_
    rw [e_ite_t (by rcases hm with rfl | rfl | rfl <;> rfl)]
    refine evSL_ret (e_ret (call_ev (ds := [DI V, .int h, .bool true]) rfl ?_))
    rw [hd]
    unfold mres
    cases p.2 <;> rfl)]
  rfl
theorem l2_comp_d {n : Nat} {V : List Int} {h : Int} {m : PySem.Str} {p : List Int × Bool} (hd : FF l2_fns (n + 1) 3 [DI V, .int h, .str m, .bool false] = some (mres p false)) (hm : m ∈ jNames ++ wNames ++ aNames) : FF l2_fns (n + 2) 0 [.str m, DI V, .int h, .non, .bool false] = some (mres p false) := by
  have e : FF l2_fns (n + 2) 0 [.str m, DI V, .int h, .non, .bool false] = (evSL l2_compute.own (FF l2_fns (n + 1)) (fun _ => true) l2_compute_b (l2_compute.start [.str m, DI V, .int h, .non, .bool false])).map resOf := rfl
  rw [e]
  unfold l2_compute_b
  simp only [jNames, wNames, aNames, List.cons_append, List.nil_append, List.mem_cons, List.not_mem_nil, or_false] at hm
  rw [evSL_nxt (e_asg (d := DI V) (by simp only [ev, evL]; rfl) rfl)]
  rw [one_if (c := p.2) (d := DI p.1) (by
    rw [e_ite_f (by rcases hm with rfl | rfl | rfl | rfl | rfl | rfl | rfl | rfl <;> rfl)]
    refine one_if ?_
    rw [e_ite_f (by rcases hm with rfl | rfl | rfl | rfl | rfl | rfl | rfl | rfl <;> rfl)]
    refine one_if ?_
    rw [e_ite_t (by rcases hm with rfl | rfl | rfl | rfl | rfl | rfl | rfl | rfl <;> rfl)]
    exact one_if (retC_if (ds := [DI V, .int h, .str m, .bool false]) rfl hd))]
  unfold mres
  cases p.2 <;> rfl
theorem l2_comp_dc {n : Nat} {V : List Int} {h : Int} {m : PySem.Str} {p : List Int × Bool} (hd : FF l2_fns (n + 1) 12 [DI V, .int h, .str m, .bool true] = some (mres p true)) (hm : m ∈ jNames ++ wNames ++ aNames) : FF l2_fns (n + 2) 9 [.str m, DI V, .int h] = some (.ok (DI p.1)) := by
  have e : FF l2_fns (n + 2) 9 [.str m, DI V, .int h] = (evSL l2_compute_c.own (FF l2_fns (n + 1)) (fun _ => true) l2_compute_c_b (l2_compute_c.start [.str m, DI V, .int h, .non, .bool true])).map resOf := rfl
  rw [e]
  unfold l2_compute_c_b
  simp only [jNames, wNames, aNames, List.cons_append, List.nil_append, List.mem_cons, List.not_mem_nil, or_false] at hm
  rw [evSL_nxt (e_asg (d := DI V) (by simp only [ev, evL]; rfl) rfl)]
  rw [evSL_ret (d := DI p.1) (by
    rw [e_ite_f (by rcases hm with rfl | rfl | rfl | rfl | rfl | rfl | rfl | rfl <;> rfl)]
    refine evSL_ret ?_
    rw [e_ite_f (by rcases hm with rfl | rfl | rfl | rfl | rfl | rfl | rfl | rfl <;> rfl)]
    refine evSL_ret ?_
    rw [e_ite_t (by rcases hm with rfl | rfl | rfl | rfl | rfl | rfl | rfl | rfl <;> rfl)]
    refine evSL_ret (e_ret (call_ev (ds := [DI V, .int h, .str m, .bool true]) rfl ?_))
    rw [hd]
    unfold mres
    cases p.2 <;> rfl)]
  rfl

theorem l2_seats_d (n : Nat) {V : List Int} {h : Nat} {a b : Int} {m : PySem.Str} {p : List Int × Bool} (hV : VOk V) (sb : small b = true) (sp : MSpec V h a b p.1 p.2) (h0 : FF l2_fns (n + 1) 3 [DI V, .int h, .str m, .bool false] = some (mres p false)) (h9 : FF l2_fns (n + 1) 12 [DI V, .int h, .str m, .bool true] = some (mres p true)) (hm : m ∈ jNames ++ wNames ++ aNames) :
    FF l2_fns (n + 3) 6 [.str m, DI V, .int h, .tup [.int a, .int b]] = some (.ok (DSo (mo p))) := by
  have e : FF l2_fns (n + 3) 6 [.str m, DI V, .int h, .tup [.int a, .int b]] = (evSL l2_law_seats.own (FF l2_fns (n + 2)) (fun _ => true) l2_law_seats_b (l2_law_seats.start [.str m, DI V, .int h, .tup [.int a, .int b]])).map resOf := rfl
  have e2 : l2_law_seats_b = z_body := rfl
  rw [e, l2_own_s, e2, z_div_ev hV sb sp (l2_comp_d h0 hm) (l2_comp_dc h9 hm) (σ := l2_law_seats.start [.str m, DI V, .int h, .tup [.int a, .int b]]) rfl rfl rfl rfl]
  rfl
theorem l2_seats_h (n : Nat) {V : List Int} {h : Nat} {m : PySem.Str} (hV : VOk V) (h1 : V.length ≤ h) (h2 : h ≤ 16) (hm : m ∈ hNames) :
    FF l2_fns (n + 3) 6 [.str m, DI V, .int h, .non] = some (.ok (DSo (mo (hD V h)))) := by
  have n1 := hV.n1
  have e : FF l2_fns (n + 3) 6 [.str m, DI V, .int h, .non] = (evSL l2_law_seats.own (FF l2_fns (n + 2)) (fun _ => true) l2_law_seats_b (l2_law_seats.start [.str m, DI V, .int h, .non])).map resOf := rfl
  have e2 : l2_law_seats_b = z_body := rfl
  rw [e, l2_own_s, e2, z_plain_ev hV.w (by omega) (by omega) (l2_comp_h (l2_lrm n hV (by omega) h2 false) hm) (l2_comp_hc (l2_lrm_c n hV (by omega) h2) hm) (σ := l2_law_seats.start [.str m, DI V, .int h, .non]) rfl rfl rfl rfl]
  rfl
theorem l2_chg (n : Nat) {V S M : List Int} (hV : VOk V) (hS : S.length = V.length) (hM : M.length = V.length) : FF l2_fns (n + 1) 7 [DI V, DI S, DI M] = some (.ok (chT V S M)) := by
  have e : FF l2_fns (n + 1) 7 [DI V, DI S, DI M] = (evSL l2_law_changes.own (FF l2_fns n) (fun _ => true) l2_law_changes_b (l2_law_changes.start [DI V, DI S, DI M])).map resOf := rfl
  have e2 : l2_law_changes_b = c_body := rfl
  rw [e, l2_own_k, e2, c_body_ev hV.n1 hV.n5 hS hM (σ := l2_law_changes.start [DI V, DI S, DI M]) rfl rfl rfl]
  rfl
theorem l2_told : Told2 (FF l2_fns 3) :=
  ⟨fun V h m hV h1 h2 hm => l2_seats_h 0 hV h1 h2 hm,
   fun V h m hV h1 h2 hm => l2_seats_d 0 hV (by decide) (j_spec hV (by have := hV.n1; omega)) (l2_div_J hV h1 h2 false hm) (l2_div_Jc hV h1 h2 hm) (by simp [hm]),
   fun V h m hV h1 h2 hm => l2_seats_d 0 hV (by decide) (a_spec hV h1) (l2_div_A hV h1 h2 false hm) (l2_div_Ac hV h1 h2 hm) (by simp [hm]),
   fun V h m hV h1 h2 hm => l2_seats_d 0 hV (by decide) (w_spec hV (by have := hV.n1; omega)) (l2_div_W hV h1 h2 false hm) (l2_div_Wc hV h1 h2 hm) (by simp [hm]),
   fun V S M hV hS hM => l2_chg 2 hV hS hM⟩
theorem l2_plain (ks : List Int) : FF l2_fns 4 8 [DI ks] = some (.ok (.bool true)) := by
  have e : FF l2_fns 4 8 [DI ks] = (evSL l2_law.own (FF l2_fns 3) (fun _ => true) l2_law_b (l2_law.start [DI ks])).map resOf := rfl
  have e2 : l2_law_b = b_law := rfl
  rw [e, l2_own_l, e2, b_law_ev (F := FF l2_fns 3) (ks := ks) l2_told (σ := l2_law.start [DI ks]) rfl]
  rfl
end Mine
end

section
open PySem PySem.W PyProof.Rows
set_option maxRecDepth 100000
set_option maxHeartbeats 8000000
namespace Mine

theorem ns_find {h : Heap} {a : Addr} {m : PySem.Str → Option Value} {o : Obj} {es : Array DictEntry} {ep : Nat} (n : h.Ns a m) (g : h.get? a = some o) (d : o.data = .dict es ep) (x : PySem.Str) : m x = nsFind es x := by
  obtain ⟨o', es', ep', g', d', _, hm⟩ := n
  rw [g] at g'; cases g'
  rw [d] at d'; cases d'
  exact (hm x).symm

theorem l2_gl {p : Program} {loose : List PySem.Str} {mean : ExcName → Option Value} {mg mb : PySem.Str → Option Value} {w : World} {h : Heap} (KX : (Mine.hd.heap_39 w.params).In h) (T : Top p loose mean mg mb h) : Gl (cxP h fun _ => False) l2_fnm l2_fa mg mb := by
  have e := ns_find T.g (KX 3 _ rfl) rfl
  refine ⟨T.g, T.b, fun x => ?_, fun x hx => ?_, fun f x hf => ?_⟩
  · rw [T.builtins _ (by cases x <;> decide +kernel), e]
    cases x <;> exact ⟨rfl, by decide +kernel⟩
  · simp only [srcE, List.mem_cons, List.not_mem_nil, or_false] at hx
    rcases hx with rfl | rfl | rfl <;> (rw [T.builtins _ (by decide +kernel), e]; exact ⟨rfl, by decide +kernel⟩)
  · have hlt : f < 14 := (List.getElem?_eq_some_iff.mp hf).1
    rw [e]
    match f, hlt with
    | 0, _ => cases hf; exact ⟨rfl, _, _, KX 35 _ rfl, rfl⟩
    | 1, _ => cases hf; exact ⟨rfl, _, _, KX 42 _ rfl, rfl⟩
    | 2, _ => cases hf; exact ⟨rfl, _, _, KX 48 _ rfl, rfl⟩
    | 3, _ => cases hf; exact ⟨rfl, _, _, KX 54 _ rfl, rfl⟩
    | 4, _ => cases hf; exact ⟨rfl, _, _, KX 61 _ rfl, rfl⟩
    | 5, _ => cases hf; exact ⟨rfl, _, _, KX 67 _ rfl, rfl⟩
    | 6, _ => cases hf; exact ⟨rfl, _, _, KX 72 _ rfl, rfl⟩
    | 7, _ => cases hf; exact ⟨rfl, _, _, KX 77 _ rfl, rfl⟩
    | 8, _ => cases hf; exact ⟨rfl, _, _, KX 82 _ rfl, rfl⟩
    | 9, _ => cases hf; exact ⟨rfl, _, _, KX 35 _ rfl, rfl⟩
    | 10, _ => cases hf; exact ⟨rfl, _, _, KX 42 _ rfl, rfl⟩
    | 11, _ => cases hf; exact ⟨rfl, _, _, KX 48 _ rfl, rfl⟩
    | 12, _ => cases hf; exact ⟨rfl, _, _, KX 54 _ rfl, rfl⟩
    | 13, _ => cases hf; exact ⟨rfl, _, _, KX 61 _ rfl, rfl⟩

theorem l2_at {w : World} {h : Heap} (KX : (Mine.hd.heap_39 w.params).In h) (f : Nat) (fd : FnD) (hf : l2_fns[f]? = some fd) : FnAt h (l2_fa f) fd := by
  have hlt : f < 14 := (List.getElem?_eq_some_iff.mp hf).1
  match f, hlt with
  | 0, _ => cases hf; exact l2_at_compute KX
  | 1, _ => cases hf; exact l2_at_apply_threshold KX
  | 2, _ => cases hf; exact l2_at_largest_remainder KX
  | 3, _ => cases hf; exact l2_at_divisor KX
  | 4, _ => cases hf; exact l2_at_divzero_fewerseatsthanparties KX
  | 5, _ => cases hf; exact l2_at_quota KX
  | 6, _ => cases hf; exact l2_at_law_seats KX
  | 7, _ => cases hf; exact l2_at_law_changes KX
  | 8, _ => cases hf; exact l2_at_law KX
  | 9, _ => cases hf; exact (l2_at_compute KX).like rfl rfl rfl rfl rfl
  | 10, _ => cases hf; exact (l2_at_apply_threshold KX).like rfl rfl rfl rfl rfl
  | 11, _ => cases hf; exact (l2_at_largest_remainder KX).like rfl rfl rfl rfl rfl
  | 12, _ => cases hf; exact (l2_at_divisor KX).like rfl rfl rfl rfl rfl
  | 13, _ => cases hf; exact (l2_at_divzero_fewerseatsthanparties KX).like rfl rfl rfl rfl rfl

theorem l2_ties {p : Program} {loose : List PySem.Str} {mean : ExcName → Option Value} {mg mb : PySem.Str → Option Value} {w : World} {h : Heap} (KX : (Mine.hd.heap_39 w.params).In h) (T : Top p loose mean mg mb h) :
    OwnCls tiesN 24 [.type "Exception", .type "BaseException", .type "object"] "Exception.__new__" mg h :=
  own_of_in KX (topRead_of T) rfl (by kernel_rfl)

theorem l2_code {p : Program} {loose : List PySem.Str} {mean : ExcName → Option Value} {mg mb : PySem.Str → Option Value} {w : World} {prog : Program} {s : Shared} (KX : (Mine.hd.heap_39 w.params).In s.heap) (T : Top p loose mean mg mb s.heap)
    {l : Addr} {vs : List Value} {ks : List Int} (hl : s.heap.IsList l vs.toArray) (hi : IntsAre vs ks) (hn : ¬ ((63 : Nat) : Int) < (ks.length : Int)) {R : Result → Shared → Prop}
    (hR : ∀ h' tk, (∀ b o, s.heap.get? b = some o → h'.get? b = some o) → R (.ok (.ret (.bool true))) { s with heap := h', toks := tk }) :
    codeAny (model prog w) callerA (.call (.ref 82) ⟨[.ref l], []⟩) R s := by
  have hn' : ks.length ≤ 63 := by omega
  refine fns_code (prog := prog) (w := w) l2_good l2_calm PySem.F.excBase_Exception 4 s.heap callerA [] (fun _ => False) (l2_gl KX T) T.nolimit (l2_at KX) (l2_ties KX T) rfl (fun e m => by cases m) (fun a => ⟨fun z => z.elim, fun z => by simp [fr] at z⟩) (fun a m => by simp [fr] at m) (by decide +kernel) (by decide +kernel)
    8 _ _ (.inl rfl) (l2_plain ks) s [.ref l] (fun _ => True) (.cons (.list trivial hl (by simp [LB]; omega) (.of_ints hi)) .nil) (fun _ _ => trivial) (fun _ _ e => e) (fun _ h => h.elim) R fun v s' L r => ?_
  obtain rfl := r.bool_inv
  have ex := L.exact
  obtain ⟨h', tk, rfl, _⟩ := L
  exact hR h' tk fun b o e => ex b o id e
end Mine
end

open PySem PySem.W PyProof.Rows
set_option maxRecDepth 100000
set_option maxHeartbeats 8000000
theorem PySem.Challenge.cw_br0001_02_holds : PySem.Challenge.rw_br0001_02.Holds :=
  Mine.hd (by
  k_fill
  intro w s₀ s₁ mg mb G Y fa o pm cd doc dV kV ho hd hcd hD hmg hg args vals as hpre hlay hrd hwl hlo
  have KX := kIn_of Y
  refine Ground.open G ?_
  intro T B D TE TW
  wrow_args hpre hlay hrd hwl hlo
  all_goals (first | refine callC_kw (enter_call ?_) | refine enter_call ?_ | refine callC_kw (enter_callW ?_) | refine enter_callW ?_ | w_how)
  w_top on
  try refine codeAny_mono ?_ (fun _ _ g => GoodW.toG g)
  have e82 : mg (PySem.Str.ofString "law") = some (.ref 82) := (Mine.ns_find T.g (KX 3 _ rfl) rfl _).trans rfl
  have e : some (Value.ref fa) = some (.ref 82) := hmg.symm.trans e82
  cases e
  refine Mine.l2_code KX T (by assumption) (by assumption) (by assumption) fun h' tk hk => ⟨.inl ⟨.bool true, .bool true, [], rfl, fun _ => rfl, .bool true, by kernel_rfl, fun _ => ⟨List.nodup_nil, fun _ m => by cases m⟩⟩, hk, rfl, hg⟩)
