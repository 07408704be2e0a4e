import PyProof.Rows.All
import Wide.All
import OpenK.AllK
import Wide.FinOn
import PySem.Challenge.RW_gb5018_02
open PySem PySem.W PyProof.Rows
set_option Elab.async false
section
namespace Mine
set_option maxRecDepth 100000 in
set_option maxHeartbeats 8000000 in
open_top hd02 for PySem.Challenge.rw_gb5018_02
end Mine
end

section
open PySem.Calls
namespace Mine
section zip
structure ZApart (z TI TO i1 i2 : Addr) : Prop where
  TIz : TI ≠ z
  TOz : TO ≠ z
  i1z : i1 ≠ z
  i2z : i2 ≠ z
  TITO : TI ≠ TO
  TIi1 : TI ≠ i1
  TIi2 : TI ≠ i2
  TOi1 : TO ≠ i1
  TOi2 : TO ≠ i2
  i12 : i1 ≠ i2
variable {prog : Program} {w : World} {A : Around} {E : Value → Shared → Prop} {s : Shared}

theorem stAt {it : Addr} {n : Nat} {P : Nat → Value → Prop} {St : Nat → Heap → Prop} (D : Draws prog w A it [it] n P St) {i : Nat} {h h' : Heap} (x : St i h) (k : ∀ o, h.get? it = some o → h'.get? it = some o) : St i h' :=
  D.frame _ _ _ x fun b hb o e => by rw [List.mem_singleton.mp hb] at e ⊢; exact k o e

theorem zipd_next_item {z TI TO i1 i2 : Addr} {n1 n2 k1 k2 : Nat} {P1 P2 : Nat → Value → Prop} {S1 S2 : Nat → Heap → Prop} {a b : Value} {Q : Value → Shared → Prop} (D : ZApart z TI TO i1 i2)
    (D1 : Draws prog w A i1 [i1] n1 P1 S1) (D2 : Draws prog w A i2 [i2] n2 P2 S2)
    (hz : IsZip s.heap z TI TO .none) (hTI : IsPair s.heap TI (.ref i1) (.ref i2)) (hTO : IsPair s.heap TO a b)
    (h1 : S1 k1 s.heap) (h2 : S2 k2 s.heap) (hk1 : k1 < n1) (hk2 : k2 < n2)
    (hQ : ∀ h' tk x y, P1 k1 x → P2 k2 y → IsZip h' z TI TO (rawInt s.heap.objs.size) → IsPair h' TO x y → S1 (k1 + 1) h' → S2 (k2 + 1) h' → IsPair h' s.heap.objs.size x y → h'.objs.size = s.heap.objs.size + 1 →
      (∀ c o, c ≠ z → c ≠ TO → c ≠ i1 → c ≠ i2 → s.heap.get? c = some o → h'.get? c = some o) → Q (.ref s.heap.objs.size) { s with heap := h', toks := tk }) :
    wpAny (model prog w) A (Builtin.«zip.__next__» ⟨[.ref z], []⟩) (fun fin s' => ∃ v, fin = .done (.ret v) ∧ Q v s') E s := by
  show wpAny _ _ (field (.ref z) 2 >>= _) _ _ _
  refine wpAny_bind (wpAny_field hz rfl (x := .bool false) rfl ?_)
  show wpAny _ _ (field (.ref z) 3 >>= _) _ _ _
  refine wpAny_bind (wpAny_field hz rfl (x := .ref TI) rfl ?_)
  refine wpAny_bind (wpAny_seqItems hTI rfl ?_)
  show wpAny _ _ (Builtin.SmallTypes.ownedTupleIsFree (.ref z) >>= _) _ _ _
  refine wpAny_bind ?_
  unfold Builtin.SmallTypes.ownedTupleIsFree
  refine wpAny_bind (wpAny_field hz rfl (x := .none) rfl (wpAny_pure ?_))
  simp only [if_true]
  refine wpAny_bind (wpAny_rule ?_)
  refine wpAny_bind (wpAny_field hz rfl (x := .ref TO) rfl ?_)
  refine wpAny_bind (wpAny_setField_rec hz (by simp) fun h₁ hz₁ hs₁ => ?_)
  replace hz₁ : IsZip h₁ z TI TO .ellipsis := hz₁
  refine wpAny_bind ?_
  simp only [List.zipIdx_cons, List.zipIdx_nil, List.forIn_cons, List.forIn_nil]
  refine wpAny_bind (wpAny_bind (wpAny_onRaise ?_))
  show wpAny _ _ (Builtin.SmallTypes.nextOf (.ref i1) >>= _) _ _ _
  refine wpAny_bind (D1.item k1 _ _ _ hk1 (stAt D1 h1 fun o e => hs₁.extBut _ _ D.i1z e) fun x h₂ tk₂ px h1₂ hs₂ => wpAny_pure ?_)
  have hTO₂ : IsPair h₂ TO a b := hs₂.extBut _ _ D.TOi1 (hs₁.extBut _ _ D.TOz hTO)
  refine wpAny_bind (wpAny_seqItems hTO₂ rfl ?_)
  refine wpAny_bind (wpAny_updateSeq_pair hTO₂ fun h₃ hTO₃ hs₃ => ?_)
  replace hTO₃ : IsPair h₃ TO x b := hTO₃
  refine wpAny_bind (wpAny_letGo (wpAny_pure ?_))
  refine wpAny_bind (wpAny_bind (wpAny_onRaise ?_))
  show wpAny _ _ (Builtin.SmallTypes.nextOf (.ref i2) >>= _) _ _ _
  refine wpAny_bind (D2.item k2 _ _ _ hk2 (stAt D2 h2 fun o e => hs₃.extBut _ _ D.TOi2.symm (hs₂.extBut _ _ D.i12.symm (hs₁.extBut _ _ D.i2z e))) fun y h₄ tk₄ py h2₄ hs₄ => wpAny_pure ?_)
  have hTO₄ : IsPair h₄ TO x b := hs₄.extBut _ _ D.TOi2 hTO₃
  refine wpAny_bind (wpAny_seqItems hTO₄ rfl ?_)
  refine wpAny_bind (wpAny_updateSeq_pair hTO₄ fun h₅ hTO₅ hs₅ => ?_)
  replace hTO₅ : IsPair h₅ TO x y := hTO₅
  refine wpAny_bind (wpAny_letGo (wpAny_pure (wpAny_pure ?_)))
  refine wpAny_bind (wpAny_seqItems hTO₅ rfl ?_)
  refine wpAny_bind (wpAny_newTuple ?_)
  have hsz : h₅.objs.size = s.heap.objs.size := by rw [hs₅.1, hs₄.1, hs₃.1, hs₂.1, hs₁.1]
  have hz₅ : IsZip h₅ z TI TO .ellipsis := hs₅.extBut _ _ D.TOz.symm (hs₄.extBut _ _ D.i2z.symm (hs₃.extBut _ _ D.TOz.symm (hs₂.extBut _ _ D.i1z.symm hz₁)))
  have hk₅ : ∀ c o, c ≠ z → c ≠ TO → c ≠ i1 → c ≠ i2 → s.heap.get? c = some o → h₅.get? c = some o := fun c o c1 c2 c3 c4 e =>
    hs₅.extBut _ _ c2 (hs₄.extBut _ _ c4 (hs₃.extBut _ _ c2 (hs₂.extBut _ _ c3 (hs₁.extBut _ _ c1 e))))
  have h1₅ : S1 (k1 + 1) h₅ := stAt D1 h1₂ fun o e => hs₅.extBut _ _ D.TOi1.symm (hs₄.extBut _ _ D.i12 (hs₃.extBut _ _ D.TOi1.symm e))
  have h2₅ : S2 (k2 + 1) h₅ := stAt D2 h2₄ fun o e => hs₅.extBut _ _ D.TOi2.symm e
  have hzlt : z < h₅.objs.size := Heap.lt_size hz₅
  have hTOlt : TO < h₅.objs.size := Heap.lt_size hTO₅
  show wpAny _ _ (Builtin.SmallTypes.ownedTupleHandOut (.ref z) (.ref h₅.objs.size) >>= _) _ _ _
  refine wpAny_bind ?_
  unfold Builtin.SmallTypes.ownedTupleHandOut
  have hz₆ : IsZip (h₅.push { cls := .type "tuple", data := .seq #[x, y] }) z TI TO .ellipsis := Heap.get?_push_of_some _ hz₅
  refine wpAny_bind (wpAny_setField_rec hz₆ (by simp) fun h₇ hz₇ hs₇ => ?_)
  replace hz₇ : IsZip h₇ z TI TO (rawInt h₅.objs.size) := hz₇
  refine wpAny_setField_rec hz₇ (by simp) fun h₈ hz₈ hs₈ => ?_
  replace hz₈ : IsZip h₈ z TI TO (rawInt h₅.objs.size) := hz₈
  have up : ∀ c o, c ≠ z → h₅.get? c = some o → h₈.get? c = some o := fun c o c1 e => hs₈.extBut _ _ c1 (hs₇.extBut _ _ c1 (Heap.get?_push_of_some _ e))
  have hT₈ : IsPair h₈ h₅.objs.size x y := hs₈.extBut _ _ (Nat.ne_of_gt hzlt) (hs₇.extBut _ _ (Nat.ne_of_gt hzlt) (Heap.get?_push_size _ rfl))
  have hz8 : h₈.objs.size = h₅.objs.size + 1 := by rw [hs₈.1, hs₇.1, Heap.size_push]
  rw [hsz] at hz₈ hT₈ hz8
  refine wpAny_pure ⟨_, rfl, ?_⟩
  show Q (.ref h₅.objs.size) _
  rw [hsz]
  exact hQ h₈ tk₄ x y px py hz₈ (up _ _ D.TOz hTO₅) (stAt D1 h1₅ fun o e => up _ o D.i1z e) (stAt D2 h2₅ fun o e => up _ o D.i2z e) hT₈ hz8 fun c o c1 c2 c3 c4 e => up c o c1 (hk₅ c o c1 c2 c3 c4 e)

theorem zipd_next_end {z TI TO i1 i2 : Addr} {n1 n2 k : Nat} {P1 P2 : Nat → Value → Prop} {S1 S2 : Nat → Heap → Prop} {a b : Value} {Q : Fin → Shared → Prop} (D : ZApart z TI TO i1 i2)
    (D1 : Draws prog w A i1 [i1] n1 P1 S1) (D2 : Draws prog w A i2 [i2] n2 P2 S2)
    (hz : IsZip s.heap z TI TO .none) (hTI : IsPair s.heap TI (.ref i1) (.ref i2)) (hTO : IsPair s.heap TO a b)
    (h1 : S1 k s.heap) (h2 : S2 k s.heap) (hk : k = min n1 n2)
    (hE : ∀ h' tk e, (∀ c o, c ≠ z → c ≠ TO → c ≠ i1 → c ≠ i2 → s.heap.get? c = some o → h'.get? c = some o) → (∃ o, h'.get? e = some o ∧ o.cls = .type "StopIteration") → E (.ref e) { s with heap := h', toks := tk }) :
    wpAny (model prog w) A (Builtin.«zip.__next__» ⟨[.ref z], []⟩) Q E s := by
  show wpAny _ _ (field (.ref z) 2 >>= _) _ _ _
  refine wpAny_bind (wpAny_field hz rfl (x := .bool false) rfl ?_)
  show wpAny _ _ (field (.ref z) 3 >>= _) _ _ _
  refine wpAny_bind (wpAny_field hz rfl (x := .ref TI) rfl ?_)
  refine wpAny_bind (wpAny_seqItems hTI rfl ?_)
  show wpAny _ _ (Builtin.SmallTypes.ownedTupleIsFree (.ref z) >>= _) _ _ _
  refine wpAny_bind ?_
  unfold Builtin.SmallTypes.ownedTupleIsFree
  refine wpAny_bind (wpAny_field hz rfl (x := .none) rfl (wpAny_pure ?_))
  simp only [if_true]
  refine wpAny_bind (wpAny_rule ?_)
  refine wpAny_bind (wpAny_field hz rfl (x := .ref TO) rfl ?_)
  refine wpAny_bind (wpAny_setField_rec hz (by simp) fun h₁ hz₁ hs₁ => ?_)
  replace hz₁ : IsZip h₁ z TI TO .ellipsis := hz₁
  refine wpAny_bind ?_
  simp only [List.zipIdx_cons, List.zipIdx_nil, List.forIn_cons, List.forIn_nil]
  refine wpAny_bind (wpAny_bind (wpAny_onRaise ?_))
  show wpAny _ _ (Builtin.SmallTypes.nextOf (.ref i1) >>= _) _ _ _
  have h1₁ : S1 k h₁ := stAt D1 h1 fun o e => hs₁.extBut _ _ D.i1z e
  by_cases hx : k < n1
  · have hy : k = n2 := by omega
    refine wpAny_bind (D1.item k _ _ _ hx h1₁ fun x h₂ tk₂ px h1₂ hs₂ => wpAny_pure ?_)
    have hTO₂ : IsPair h₂ TO a b := hs₂.extBut _ _ D.TOi1 (hs₁.extBut _ _ D.TOz hTO)
    refine wpAny_bind (wpAny_seqItems hTO₂ rfl ?_)
    refine wpAny_bind (wpAny_updateSeq_pair hTO₂ fun h₃ hTO₃ hs₃ => ?_)
    refine wpAny_bind (wpAny_letGo (wpAny_pure ?_))
    refine wpAny_bind (wpAny_bind (wpAny_onRaise ?_))
    show wpAny _ _ (Builtin.SmallTypes.nextOf (.ref i2) >>= _) _ _ _
    refine wpAny_bind (D2.done _ _ _ (hy ▸ (stAt D2 h2 fun o e => hs₃.extBut _ _ D.TOi2.symm (hs₂.extBut _ _ D.i12.symm (hs₁.extBut _ _ D.i2z e)))) fun h₄ e hs₄ he => ?_)
    obtain ⟨oe, hoe, hce⟩ := he
    have hz₄ : IsZip h₄ z TI TO .ellipsis := hs₄ _ _ D.i2z.symm (hs₃.extBut _ _ D.TOz.symm (hs₂.extBut _ _ D.i1z.symm hz₁))
    have hez : e ≠ z := fun x => by subst x; rw [hz₄] at hoe; cases hoe; simp at hce
    refine wpAny_setField_rec hz₄ (by simp) fun h₅ _ hs₅ => hE h₅ _ e (fun c o c1 c2 c3 c4 x => hs₅.extBut _ _ c1 (hs₄ _ _ c4 (hs₃.extBut _ _ c2 (hs₂.extBut _ _ c3 (hs₁.extBut _ _ c1 x))))) ⟨oe, hs₅.extBut _ _ hez hoe, hce⟩
  · have hy : k = n1 := by omega
    refine wpAny_bind (D1.done _ _ _ (hy ▸ h1₁) fun h₂ e hs₂ he => ?_)
    obtain ⟨oe, hoe, hce⟩ := he
    have hz₂ : IsZip h₂ z TI TO .ellipsis := hs₂ _ _ D.i1z.symm hz₁
    have hez : e ≠ z := fun x => by subst x; rw [hz₂] at hoe; cases hoe; simp at hce
    refine wpAny_setField_rec hz₂ (by simp) fun h₃ _ hs₃ => hE h₃ _ e (fun c o c1 _ c3 _ x => hs₃.extBut _ _ c1 (hs₂ _ _ c3 (hs₁.extBut _ _ c1 x))) ⟨oe, hs₃.extBut _ _ hez hoe, hce⟩

theorem zipd_walks {z TI TO i1 i2 : Addr} {n1 n2 : Nat} {P1 P2 : Nat → Value → Prop} {S1 S2 : Nat → Heap → Prop} (D : ZApart z TI TO i1 i2)
    (D1 : Draws prog w A.in1 i1 [i1] n1 P1 S1) (D2 : Draws prog w A.in1 i2 [i2] n2 P2 S2) :
    WalksT prog w A z [z, TI, TO, i1, i2] [z, TO, i1, i2] (min n1 n2)
      (fun i vals => ∃ x y, P1 i x ∧ P2 i y ∧ vals = #[x, y])
      (fun i h => IsZip h z TI TO .none ∧ IsPair h TI (.ref i1) (.ref i2) ∧ (∃ a b, IsPair h TO a b) ∧ S1 i h ∧ S2 i h)
      (fun i T h => IsZip h z TI TO (rawInt T) ∧ IsPair h TI (.ref i1) (.ref i2) ∧ (∃ a b, IsPair h TO a b) ∧ S1 (i + 1) h ∧ S2 (i + 1) h ∧ T ≠ z ∧ T ≠ TO ∧ T ≠ i1 ∧ T ≠ i2) where
  sub := fun c hc => by simp at hc ⊢; rcases hc with rfl | rfl | rfl | rfl <;> simp
  frame := fun i h h' hst hk => by
    obtain ⟨hz, hTI, ⟨a, b, hTO⟩, h1, h2⟩ := hst
    exact ⟨hk z (by simp) _ hz, hk TI (by simp) _ hTI, ⟨a, b, hk TO (by simp) _ hTO⟩, stAt D1 h1 fun o e => hk i1 (by simp) o e, stAt D2 h2 fun o e => hk i2 (by simp) o e⟩
  item := fun i s Q E hi hst hQ => by
    obtain ⟨hz, hTI, ⟨a, b, hTO⟩, h1, h2⟩ := hst
    have hT : s.TypeIs (.ref z) "zip" := ⟨_, hz, rfl⟩
    unfold pyNext
    refine wpAny_bind (wpAny_attempt (wpAny_callSpecial?_slot (name := Str.ofString "__next__") hT F.slot_zip_next
      (wpAny_call_entry F.slot_zip_next hT F.entry_zip_next (zipd_next_item D D1 D2 hz hTI hTO h1 h2 (Nat.lt_of_lt_of_le hi (Nat.min_le_left ..)) (Nat.lt_of_lt_of_le hi (Nat.min_le_right ..))
        fun h' tk x y px py a1 a2 a3 a4 a5 a6 hk => wpAny_pure ?_) (F.args_zip_next_1 _))))
    have lt : ∀ {c o}, s.heap.get? c = some o → s.heap.objs.size ≠ c := fun e => Nat.ne_of_gt (Heap.lt_size e)
    exact hQ s.heap.objs.size #[x, y] h' tk ⟨x, y, px, py, rfl⟩ (Nat.le_refl _) ⟨_, a5, rfl, _, rfl⟩
      ⟨a1, hk _ _ D.TIz D.TITO D.TIi1 D.TIi2 hTI, ⟨_, _, a2⟩, a3, a4,
        lt hz, lt hTO, (by obtain ⟨_, e⟩ := D1.live _ _ h1; exact lt e), (by obtain ⟨_, e⟩ := D2.live _ _ h2; exact lt e)⟩
      fun c o hc e => hk c o (fun x => hc (by simp [x])) (fun x => hc (by simp [x])) (fun x => hc (by simp [x])) (fun x => hc (by simp [x])) e
  go := fun elts k pos i T s Q E hm hQ => by
    obtain ⟨hz, hTI, ⟨a, b, hTO⟩, h1, h2, _⟩ := hm
    refine wpAny_letOwnedTupleGo_zip hz fun h' hz' hs' => hQ h' ⟨hz', hs'.extBut _ _ D.TIz hTI, ⟨a, b, hs'.extBut _ _ D.TOz hTO⟩, stAt D1 h1 fun o e => hs'.extBut _ _ D.i1z e, stAt D2 h2 fun o e => hs'.extBut _ _ D.i2z e⟩
      fun c o hc e => hs'.extBut _ _ (fun x => hc (by simp [x])) e
  apart := fun i T h hm hT => by
    obtain ⟨_, _, _, _, _, t1, t2, t3, t4⟩ := hm
    simp at hT
    rcases hT with rfl | rfl | rfl | rfl
    · exact t1 rfl
    · exact t2 rfl
    · exact t3 rfl
    · exact t4 rfl
  done := fun s Q E hst hQ => by
    obtain ⟨hz, hTI, ⟨a, b, hTO⟩, h1, h2⟩ := hst
    have hT : s.TypeIs (.ref z) "zip" := ⟨_, hz, rfl⟩
    unfold pyNext
    refine wpAny_bind (wpAny_attempt (wpAny_callSpecial?_slot (name := Str.ofString "__next__") hT F.slot_zip_next
      (wpAny_call_entry F.slot_zip_next hT F.entry_zip_next (zipd_next_end D D1 D2 hz hTI hTO h1 h2 rfl fun h' tk e hk he => ?_) (F.args_zip_next_1 _))))
    obtain ⟨o, ho, hc⟩ := he
    refine wpAny_bind (wpAny_isInstance (T := "StopIteration") (b := true) ⟨o, ho, hc⟩ isSubtype_stop ?_)
    exact wpAny_pure (hQ _ _ fun c o hc e => hk c o (fun x => hc (by simp [x])) (fun x => hc (by simp [x])) (fun x => hc (by simp [x])) (fun x => hc (by simp [x])) e)
  self := fun i s Q E hst hQ => wpAny_pyIter_zip hst.1 hQ
end zip
end Mine
end

section
open PySem.Calls
namespace Mine
def itKind (x : Str) : String := if x.cps.all (· < 128) then "str_ascii_iterator" else "str_iterator"
def itObj (x : Str) (t : Tok) : Obj := { cls := .type (itKind x), data := .fields #[.str x t, .int 0 0] }
def chAt (x : Str) (i : Nat) (v : Value) : Prop := ∃ c u, x.cps[i]? = some c ∧ v = .str ⟨#[c]⟩ u
section
variable {prog : Program} {w : World} {A : Around} {E : Value → Shared → Prop} {s : Shared}
theorem pyIter_strK {x : Str} {t : Tok} {Q : Value → Shared → Prop} (hQ : Q (.ref s.heap.objs.size) { s with heap := s.heap.push (itObj x t) }) :
    wpAny (model prog w) A (pyIter (.str x t)) Q E s := by
  cases ha : x.cps.all (· < 128)
  · exact wpAny_pyIter_wide ha (by simpa [itObj, itKind, ha] using hQ)
  · exact wpAny_pyIter_ascii ha (by simpa [itObj, itKind, ha] using hQ)
theorem draws_str (hh : A.handled = none) (I : Addr) (x : Str) (t : Tok) : Draws prog w A I [I] x.cps.size (chAt x) (fun i h => h.IsStrIter I (itKind x) x t i) := by
  cases ha : x.cps.all (· < 128)
  · have e : itKind x = "str_iterator" := by simp [itKind, ha]
    rw [e]; exact Draws.strWide hh I x t
  · have e : itKind x = "str_ascii_iterator" := by simp [itKind, ha]
    rw [e]; exact Draws.strAscii hh I x t
theorem walks_str (hh : A.handled = none) (I : Addr) (x : Str) (t : Tok) : Walks prog w A I [I] [I] x.cps.size (chAt x) (fun i h => h.IsStrIter I (itKind x) x t i) := by
  cases ha : x.cps.all (· < 128)
  · have e : itKind x = "str_iterator" := by simp [itKind, ha]
    rw [e]; exact Walks.strWide hh I x t
  · have e : itKind x = "str_ascii_iterator" := by simp [itKind, ha]
    rw [e]; exact Walks.strAscii hh I x t
theorem isStrIter_new {h : Heap} (x : Str) (t : Tok) : (h.push (itObj x t)).IsStrIter h.objs.size (itKind x) x t 0 := ⟨_, Heap.get?_push_size _ rfl, rfl, rfl⟩
end

abbrev zH1 (h : Heap) (o1 : Obj) : Heap := h.push o1
abbrev zH2 (h : Heap) (o1 o2 : Obj) : Heap := (zH1 h o1).push o2
abbrev zH3 (h : Heap) (o1 o2 : Obj) : Heap := (zH2 h o1 o2).push { cls := .type "tuple", data := .seq #[.ref h.objs.size, .ref (zH1 h o1).objs.size] }
abbrev zH4 (h : Heap) (o1 o2 : Obj) : Heap := (zH3 h o1 o2).push { cls := .type "tuple", data := .seq #[.none, .none] }
abbrev zH5 (h : Heap) (o1 o2 : Obj) : Heap := (zH4 h o1 o2).push { cls := .type "zip", data := .fields #[.none, .bool false, .bool false, .ref (zH2 h o1 o2).objs.size, .ref (zH3 h o1 o2).objs.size] }

set_option maxHeartbeats 2000000 in
theorem meets_zip_strs (a b : Str) (ta tb : Tok) (o1 o2 : Obj)
    (k1 : ∀ (prog : Program) (w : World) (A : Around) (E : Value → Shared → Prop) (hp : Heap) (g : Array GenState) (d : Drawn) (tk : Nat) (os : OsState) (Q : Value → Shared → Prop), Q (.ref hp.objs.size) ⟨hp.push o1, g, d, tk, os⟩ → wpAny (model prog w) A (pyIter (.str a ta)) Q E ⟨hp, g, d, tk, os⟩)
    (k2 : ∀ (prog : Program) (w : World) (A : Around) (E : Value → Shared → Prop) (hp : Heap) (g : Array GenState) (d : Drawn) (tk : Nat) (os : OsState) (Q : Value → Shared → Prop), Q (.ref hp.objs.size) ⟨hp.push o2, g, d, tk, os⟩ → wpAny (model prog w) A (pyIter (.str b tb)) Q E ⟨hp, g, d, tk, os⟩) :
    Meets (Builtin.«zip.__new__» ⟨[.type "zip", .str a ta, .str b tb], []⟩) (fun _ R s =>
      R (.ok (.ret (.ref (zH4 s.heap o1 o2).objs.size))) { s with heap := zH5 s.heap o1 o2 }) :=
  .of_wp fun prog w A R s h => by
    obtain ⟨hp, g, d, tk, os⟩ := s
    have hsub := sub_zip
    wp_walk using k1, k2
    exact ⟨_, rfl, h⟩
section
variable {prog : Program} {w : World} {A : Around} {E : Value → Shared → Prop} {s : Shared}
theorem call_zip_strs {a b : Str} {ta tb : Tok} {Q : Value → Shared → Prop}
    (h : ∀ h' n, n = s.heap.objs.size → IsZip h' (n + 4) (n + 2) (n + 3) .none → IsPair h' (n + 2) (.ref n) (.ref (n + 1)) →
      IsPair h' (n + 3) .none .none → h'.IsStrIter n (itKind a) a ta 0 → h'.IsStrIter (n + 1) (itKind b) b tb 0 → h'.objs.size = n + 5 →
      (∀ c o, s.heap.get? c = some o → h'.get? c = some o) → Q (.ref (n + 4)) { s with heap := h' }) :
    wpAny (model prog w) A (call (.type "zip") [.str a ta, .str b tb]) Q E s := by
  refine callType_new F.called_zip (by decide) (F.typeCall_zip_2 _ _) (F.newCall_zip_2 _ _) (fun obj => F.args_object_init_3 obj _ _) F.entry_zip_new
    (meets_zip_strs a b ta tb (itObj a ta) (itObj b tb) (fun _ _ _ _ _ _ _ _ _ _ h => pyIter_strK h) (fun _ _ _ _ _ _ _ _ _ _ h => pyIter_strK h)) ?_
  have z1 : (zH1 s.heap (itObj a ta)).objs.size = s.heap.objs.size + 1 := Heap.size_push ..
  have z2 : (zH2 s.heap (itObj a ta) (itObj b tb)).objs.size = s.heap.objs.size + 2 := by rw [Heap.size_push, z1]
  have z3 : (zH3 s.heap (itObj a ta) (itObj b tb)).objs.size = s.heap.objs.size + 3 := by rw [Heap.size_push, z2]
  have z4 : (zH4 s.heap (itObj a ta) (itObj b tb)).objs.size = s.heap.objs.size + 4 := by rw [Heap.size_push, z3]
  have z5 : (zH5 s.heap (itObj a ta) (itObj b tb)).objs.size = s.heap.objs.size + 5 := by rw [Heap.size_push, z4]
  have g5 : (zH5 s.heap (itObj a ta) (itObj b tb)).get? (zH4 s.heap (itObj a ta) (itObj b tb)).objs.size = some _ := Heap.get?_push_size _ rfl
  have g4 : (zH5 s.heap (itObj a ta) (itObj b tb)).get? (zH3 s.heap (itObj a ta) (itObj b tb)).objs.size = some _ := Heap.get?_push_of_some _ (Heap.get?_push_size _ rfl)
  have g3 : (zH5 s.heap (itObj a ta) (itObj b tb)).get? (zH2 s.heap (itObj a ta) (itObj b tb)).objs.size = some _ := Heap.get?_push_of_some _ (Heap.get?_push_of_some _ (Heap.get?_push_size _ rfl))
  have g2 : (zH5 s.heap (itObj a ta) (itObj b tb)).get? (zH1 s.heap (itObj a ta)).objs.size = some _ := Heap.get?_push_of_some _ (Heap.get?_push_of_some _ (Heap.get?_push_of_some _ (Heap.get?_push_size _ rfl)))
  have g1 : (zH5 s.heap (itObj a ta) (itObj b tb)).get? s.heap.objs.size = some _ := Heap.get?_push_of_some _ (Heap.get?_push_of_some _ (Heap.get?_push_of_some _ (Heap.get?_push_of_some _ (Heap.get?_push_size _ rfl))))
  show _ ∧ _
  rw [z2, z3, z4] at g5
  rw [z1, z2] at g3
  rw [z3] at g4
  rw [z1] at g2
  rw [z4]
  exact ⟨⟨_, g5, rfl⟩, h _ _ rfl g5 g3 g4 ⟨_, g1, rfl, rfl⟩ ⟨_, g2, rfl, rfl⟩ z5 fun c o x =>
    Heap.get?_push_of_some _ (Heap.get?_push_of_some _ (Heap.get?_push_of_some _ (Heap.get?_push_of_some _ (Heap.get?_push_of_some _ x))))⟩
theorem zApart_new {n : Nat} : ZApart (n + 4) (n + 2) (n + 3) n (n + 1) where
  TIz := (by omega : ∀ n : Nat, n + 2 ≠ n + 4) n
  TOz := (by omega : ∀ n : Nat, n + 3 ≠ n + 4) n
  i1z := (by omega : ∀ n : Nat, n + 0 ≠ n + 4) n
  i2z := (by omega : ∀ n : Nat, n + 1 ≠ n + 4) n
  TITO := (by omega : ∀ n : Nat, n + 2 ≠ n + 3) n
  TIi1 := (by omega : ∀ n : Nat, n + 2 ≠ n + 0) n
  TIi2 := (by omega : ∀ n : Nat, n + 2 ≠ n + 1) n
  TOi1 := (by omega : ∀ n : Nat, n + 3 ≠ n + 0) n
  TOi2 := (by omega : ∀ n : Nat, n + 3 ≠ n + 1) n
  i12 := (by omega : ∀ n : Nat, n + 0 ≠ n + 1) n
end
end Mine
end

section
open PySem.Calls
namespace Mine
section
variable {prog : Program} {w : World} {A : Around} {E : Value → Shared → Prop} {s : Shared} {env : Env}

theorem paired_len {α β : Type} {F : α → β → Prop} : ∀ {l₁ : List α} {l₂ : List β}, Paired F l₁ l₂ → l₁.length = l₂.length
  | _, _, .nil => rfl
  | _, _, .cons _ t => congrArg (· + 1) (paired_len t)
theorem paired_imp {α β : Type} {F G : α → β → Prop} (h : ∀ a b, F a b → G a b) : ∀ {l₁ : List α} {l₂ : List β}, Paired F l₁ l₂ → Paired G l₁ l₂
  | _, _, .nil => .nil
  | _, _, .cons h₁ t => .cons (h _ _ h₁) (paired_imp h t)
/-- from sources that stand for data, and turns by the source: the results stand for the data's image -/
theorem paired_map {α β : Type} {R : Value → α → Prop} {F : Value → Value → Prop} {S : Value → β → Prop} (f : α → β) (hF : ∀ v a y, R v a → F v y → S y (f a)) :
    ∀ {vs : List Value} {as : List α} {ys : List Value}, Paired R vs as → Paired F vs ys → Paired S ys (as.map f)
  | _, _, _, .nil, .nil => .nil
  | _, _, _, .cons r rs, .cons h hs => .cons (hF _ _ _ r h) (paired_map f hF rs hs)
theorem paired_mem {α β : Type} {F : α → β → Prop} : ∀ {l₁ : List α} {l₂ : List β}, Paired F l₁ l₂ → ∀ a ∈ l₁, ∃ b, b ∈ l₂ ∧ F a b
  | _, _, .cons h t, a, hm => by
    rcases List.mem_cons.mp hm with rfl | hm
    · exact ⟨_, List.mem_cons_self, h⟩
    · obtain ⟨b, hb, hf⟩ := paired_mem t a hm; exact ⟨b, List.mem_cons_of_mem _ hb, hf⟩
theorem paired_get {α β : Type} {F : α → β → Prop} : ∀ {l₁ : List α} {l₂ : List β}, Paired F l₁ l₂ → ∀ (i : Nat) (b : β), l₂[i]? = some b → ∃ a, l₁[i]? = some a ∧ F a b
  | _, _, .cons h _, 0, b, e => ⟨_, rfl, by simpa using (Option.some.inj e) ▸ h⟩
  | _, _, .cons _ t, i + 1, b, e => paired_get t i b (by simpa using e)
theorem paired_get' {α β : Type} {F : α → β → Prop} : ∀ {l₁ : List α} {l₂ : List β}, Paired F l₁ l₂ → ∀ (i : Nat) (a : α), l₁[i]? = some a → ∃ b, l₂[i]? = some b ∧ F a b
  | _, _, .cons h _, 0, a, e => ⟨_, rfl, by simpa using (Option.some.inj e) ▸ h⟩
  | _, _, .cons _ t, i + 1, a, e => paired_get' t i a (by simpa using e)
theorem paired_drop {α β : Type} {F : α → β → Prop} : ∀ {l₁ : List α} {l₂ : List β}, Paired F l₁ l₂ → ∀ k : Nat, Paired F (l₁.drop k) (l₂.drop k)
  | _, _, h, 0 => h
  | _, _, .nil, _ + 1 => .nil
  | _, _, .cons _ t, k + 1 => paired_drop t k
theorem paired_take {α β : Type} {F : α → β → Prop} : ∀ {l₁ : List α} {l₂ : List β}, Paired F l₁ l₂ → ∀ k : Nat, Paired F (l₁.take k) (l₂.take k)
  | _, _, _, 0 => .nil
  | _, _, .nil, _ + 1 => .nil
  | _, _, .cons h t, k + 1 => .cons h (paired_take t k)

def IsS (v : Value) (x : Str) : Prop := ∃ t, v = .str x t
def IsI (v : Value) (k : Int) : Prop := ∃ t, v = .int k t
theorem strsAre_of {vs : List Value} {xs : List Str} (h : Paired IsS vs xs) : StrsAre vs xs := by
  induction h with
  | nil => exact .nil
  | cons a _ ih => obtain ⟨t, rfl⟩ := a; exact .cons _ t ih
theorem ints_paired {vs : List Value} {ks : List Int} (h : IntsAre vs ks) : Paired IsI vs ks := by
  induction h with
  | nil => exact .nil
  | cons n t _ ih => exact .cons ⟨t, rfl⟩ ih
theorem ints_of {vs : List Value} {ks : List Int} (h : Paired IsI vs ks) : IntsAre vs ks := by
  induction h with
  | nil => exact .nil
  | cons a _ ih => obtain ⟨t, rfl⟩ := a; exact .cons _ t ih

theorem not_new_of_old {h : Heap} {b : Addr} {o : Obj} (e : h.get? b = some o) : b ∉ [h.objs.size] := fun hb =>
  absurd (Heap.lt_size e) ((List.mem_singleton.mp hb) ▸ Nat.lt_irrefl _)

theorem walks_bound {I : Addr} {fp wr : List Addr} {n : Nat} {P : Nat → Value → Prop} {St : Nat → Heap → Prop} (W : Walks prog w A I fp wr n P St) : Walks prog w A I fp wr n (fun i v => i < n ∧ P i v) St where
  sub := W.sub
  frame := W.frame
  item := fun i s Q E hi st hQ => W.item i s Q E hi st fun v h' tk hP => hQ v h' tk ⟨hi, hP⟩
  done := W.done
  self := W.self

/-- a list comprehension over a list, its element pure -/
theorem comp_list {elt iter : Expr} {x : Str} {px : Pos} {scope : Scope} {cl : List (Str × Addr)} {pos : Pos} {Q : Value → Shared → Prop} (F : Value → Value → Prop)
    (hclos : closureFor scope env = pure cl) (hcell : ∀ y ∈ scope.names, y.2 ≠ .cell) (hkind : scope.kind = .function)
    (hnames : ∀ y ∈ scope.names, y.2 = .local → scope.names.lookup y.1 = some .local) (hx : scope.names.lookup x = some .local) (hh : A.handled = none)
    (h : wpAny (model prog w) A (eval iter env) (fun xv s₁ => ∃ l items, xv = .ref l ∧ s₁.heap.IsList l items ∧ items.size ≤ sizeLine ∧
      (∀ C v s₃ m₃ E', v ∈ items.toList → s₃.heap.Ns C m₃ → m₃ x = some v → (∀ b o, s₁.heap.get? b = some o → s₃.heap.get? b = some o) →
        wpAny (model prog w) A (eval elt (compEnvC scope cl C env)) (fun y s₄ => F v y ∧ Keeps s₃ s₄) E' s₃) ∧
      (∀ D h' tk ys, s₁.heap.get? D = none → h'.PlainList D ys → Paired F items.toList ys.toList → (∀ b o, s₁.heap.get? b = some o → h'.get? b = some o) → Q (.ref D) { s₁ with heap := h', toks := tk })) E s)
    (hs : ∀ x, foldedSetIterable iter env x = pure x := by intro _; rfl) :
    wpAny (model prog w) A (eval (.ListComp elt [⟨.Name x px, iter, [], 0⟩] scope pos) env) Q E s := by
  refine wpAny_ListComp_free (fun _ => true) F hclos hcell hkind hnames hx (wpAny_mono h (fun xv s₁ h₁ => ?_) fun _ _ e => e) hs
  obtain ⟨l, items, rfl, hl, hsz, helt, hQ⟩ := h₁
  have hlt : l < s₁.heap.objs.size := by obtain ⟨_, e, _⟩ := hl; exact Heap.lt_size e
  refine wpAny_pyIter_list hl ?_
  refine ⟨s₁.heap.objs.size, [s₁.heap.objs.size, l], [s₁.heap.objs.size], items.size, _, _, rfl, Walks.list hh _ l (Nat.ne_of_lt hlt) items, hsz,
    ⟨⟨_, Heap.get?_push_size _ rfl, rfl, rfl⟩, hl.at fun o e => Heap.get?_push_of_some _ e⟩, ?_, ⟨?_, ?_⟩, ?_⟩
  · intro b hb
    show b < (s₁.heap.push _).objs.size
    rw [Heap.size_push]
    rcases List.mem_cons.mp hb with rfl | hb
    · exact Nat.lt_succ_self _
    · rw [List.mem_singleton.mp hb]; exact Nat.lt_succ_of_lt hlt
  · intro C i v s₃ m₃ E' _ _ _ _ _ _
    exact wpAny_pure ⟨rfl, s₃.heap, s₃.toks, rfl, fun _ _ e => e⟩
  · intro C i v s₃ m₃ E' _ hP _ hn hm hk _
    exact helt C v s₃ m₃ E' (by obtain ⟨h1, rfl⟩ := Array.getElem?_eq_some_iff.mp hP; simp) hn hm fun b o e => hk b o (not_new_of_old e) (Heap.get?_push_of_some _ e)
  · intro D h' tk ys vs hnew _ hplD hlen hP hF hk
    have e' : vs = items.toList := walked_is hlen hP
    subst e'
    refine hQ D h' tk ys ?_ hplD (by rw [List.filter_eq_self.mpr (fun _ _ => rfl)] at hF; exact hF) fun b o e => hk b o (not_new_of_old e) (Heap.get?_push_of_some _ e)
    cases e : s₁.heap.get? D with
    | none => rfl
    | some o' => rw [Heap.get?_push_of_some _ e] at hnew; cases hnew

/-- a list comprehension over a range by ones from nought -/
theorem comp_range {elt iter : Expr} {x : Str} {px : Pos} {scope : Scope} {cl : List (Str × Addr)} {pos : Pos} {Q : Value → Shared → Prop} (G : Nat → Value → Prop)
    (hclos : closureFor scope env = pure cl) (hcell : ∀ y ∈ scope.names, y.2 ≠ .cell) (hkind : scope.kind = .function)
    (hnames : ∀ y ∈ scope.names, y.2 = .local → scope.names.lookup y.1 = some .local) (hx : scope.names.lookup x = some .local) (hh : A.handled = none)
    (h : wpAny (model prog w) A (eval iter env) (fun xv s₁ => ∃ r n t u v, xv = .ref r ∧ IsRange s₁.heap r 0 (n : Nat) 1 t u v ∧ n ≤ 1000000 ∧
      (∀ C i t s₃ m₃ E', i < n → s₃.heap.Ns C m₃ → m₃ x = some (.int (i : Nat) t) → (∀ b o, s₁.heap.get? b = some o → s₃.heap.get? b = some o) →
        wpAny (model prog w) A (eval elt (compEnvC scope cl C env)) (fun y s₄ => G i y ∧ Keeps s₃ s₄) E' s₃) ∧
      (∀ D h' tk ys, s₁.heap.get? D = none → h'.PlainList D ys → Paired (fun i y => G i y) (List.range n) ys.toList → (∀ b o, s₁.heap.get? b = some o → h'.get? b = some o) → Q (.ref D) { s₁ with heap := h', toks := tk })) E s)
    (hs : ∀ x, foldedSetIterable iter env x = pure x := by intro _; rfl) :
    wpAny (model prog w) A (eval (.ListComp elt [⟨.Name x px, iter, [], 0⟩] scope pos) env) Q E s := by
  refine wpAny_ListComp_free (fun _ => true) (fun v y => ∃ (i : Nat) (t : Tok), v = .int (i : Nat) t ∧ G i y) hclos hcell hkind hnames hx (wpAny_mono h (fun xv s₁ h₁ => ?_) fun _ _ e => e) hs
  obtain ⟨r, n, t, u, v, rfl, hr, hsz, helt, hQ⟩ := h₁
  have e2 : Builtin.Range.rangeSize 0 (n : Nat) 1 = (n : Nat) := by simp [Builtin.Range.rangeSize]; omega
  have hsm : Builtin.Range.small 0 (n : Nat) 1 = true := by
    unfold Builtin.Range.small
    rw [e2]
    simp [Builtin.Range.rangeFitsLong]
    omega
  refine wpAny_pyIter_range hr hsm ?_
  rw [e2]
  refine ⟨s₁.heap.objs.size, [s₁.heap.objs.size], [s₁.heap.objs.size], n, _, _, rfl, walks_bound (Walks.range hh _ 0 1 n), Nat.le_trans hsz (by decide), ?_, ?_, ⟨?_, ?_⟩, ?_⟩
  · show IsRangeIter _ _ _ _ _
    simpa using Heap.get?_push_size s₁.heap (o := { cls := .type "range_iterator", data := .fields #[rawInt 0, rawInt (n : Nat), rawInt 1] }) rfl
  · intro b hb
    show b < (s₁.heap.push _).objs.size
    rw [Heap.size_push, List.mem_singleton.mp hb]
    exact Nat.lt_succ_self _
  · intro C i v s₃ m₃ E' _ _ _ _ _ _
    exact wpAny_pure ⟨rfl, s₃.heap, s₃.toks, rfl, fun _ _ e => e⟩
  · intro C i v s₃ m₃ E' _ hP _ hn hm hk _
    obtain ⟨hi, t', rfl⟩ := hP
    have e3 : (0 : Int) + (i : Int) * 1 = (i : Nat) := by omega
    rw [e3] at hm ⊢
    exact wpAny_mono (helt C i t' s₃ m₃ E' hi hn hm fun b o e => hk b o (not_new_of_old e) (Heap.get?_push_of_some _ e)) (fun y s₄ hy => ⟨⟨i, t', rfl, hy.1⟩, hy.2⟩) fun _ _ e => e
  · intro D h' tk ys vs hnew _ hplD hlen hP hF hk
    rw [List.filter_eq_self.mpr (fun _ _ => rfl)] at hF
    have hi : Paired (fun i v => ∃ t, v = Value.int (i : Nat) t) (List.range n) vs := by
      subst hlen
      clear hF hk hplD hnew hQ helt hsm e2 hsz hr
      have : ∀ (k : Nat) (us : List Value), (∀ j v, us[j]? = some v → ∃ t, v = Value.int ((k + j : Nat) : Int) t) → Paired (fun i v => ∃ t, v = Value.int (i : Nat) t) (List.range' k us.length) us := by
        intro k us
        induction us generalizing k with
        | nil => intro _; exact .nil
        | cons u us ih =>
          intro hu
          rw [List.length_cons, List.range'_succ]
          refine .cons (by simpa using hu 0 u rfl) (ih (k + 1) fun j v e => ?_)
          obtain ⟨t, e'⟩ := hu (j + 1) v (by simpa using e)
          exact ⟨t, by rw [e']; congr 1; omega⟩
      rw [List.range_eq_range']
      exact this 0 vs fun j v e => by
        obtain ⟨_, t, e'⟩ := hP j v e
        exact ⟨t, by rw [e']; congr 1; omega⟩
    refine hQ D h' tk ys ?_ hplD ?_ fun b o e => hk b o (not_new_of_old e) (Heap.get?_push_of_some _ e)
    · cases e : s₁.heap.get? D with
      | none => rfl
      | some o' => rw [Heap.get?_push_of_some _ e] at hnew; cases hnew
    · have go : ∀ {ks : List Nat} {us zs : List Value}, Paired (fun i v => ∃ t, v = Value.int (i : Nat) t) ks us → Paired (fun v y => ∃ (i : Nat) (t : Tok), v = .int (i : Nat) t ∧ G i y) us zs → Paired (fun i y => G i y) ks zs := by
        intro ks us zs h1
        induction h1 generalizing zs with
        | nil => intro h2; cases h2; exact .nil
        | cons a _ ih =>
          intro h2
          cases h2 with
          | cons b bs =>
            obtain ⟨t, rfl⟩ := a
            obtain ⟨i, t', e, g⟩ := b
            injection e with e _
            have : i = _ := (Int.ofNat_inj.mp e).symm
            subst this
            exact .cons g (ih bs)
      exact go hi hF

/-- a list comprehension over a text's signs -/
theorem comp_str {elt iter : Expr} {x : Str} {px : Pos} {scope : Scope} {cl : List (Str × Addr)} {pos : Pos} {Q : Value → Shared → Prop} (f : Nat → Str)
    (hclos : closureFor scope env = pure cl) (hcell : ∀ y ∈ scope.names, y.2 ≠ .cell) (hkind : scope.kind = .function)
    (hnames : ∀ y ∈ scope.names, y.2 = .local → scope.names.lookup y.1 = some .local) (hx : scope.names.lookup x = some .local) (hh : A.handled = none)
    (h : wpAny (model prog w) A (eval iter env) (fun xv s₁ => ∃ a ta, xv = .str a ta ∧ a.cps.size ≤ sizeLine ∧
      (∀ C c t s₃ m₃ E', c ∈ a.cps.toList → s₃.heap.Ns C m₃ → m₃ x = some (.str ⟨#[c]⟩ t) → (∀ b o, s₁.heap.get? b = some o → s₃.heap.get? b = some o) →
        wpAny (model prog w) A (eval elt (compEnvC scope cl C env)) (fun y s₄ => IsS y (f c) ∧ Keeps s₃ s₄) E' s₃) ∧
      (∀ D h' tk ys, s₁.heap.get? D = none → h'.PlainList D ys → Paired IsS ys.toList (a.cps.toList.map f) → (∀ b o, s₁.heap.get? b = some o → h'.get? b = some o) → Q (.ref D) { s₁ with heap := h', toks := tk })) E s)
    (hs : ∀ x, foldedSetIterable iter env x = pure x := by intro _; rfl) :
    wpAny (model prog w) A (eval (.ListComp elt [⟨.Name x px, iter, [], 0⟩] scope pos) env) Q E s := by
  refine wpAny_ListComp_free (fun _ => true) (fun v y => ∃ c t, v = .str ⟨#[c]⟩ t ∧ IsS y (f c)) hclos hcell hkind hnames hx (wpAny_mono h (fun xv s₁ h₁ => ?_) fun _ _ e => e) hs
  obtain ⟨a, ta, rfl, hsz, helt, hQ⟩ := h₁
  refine pyIter_strK ?_
  refine ⟨s₁.heap.objs.size, [s₁.heap.objs.size], [s₁.heap.objs.size], a.cps.size, _, _, rfl, walks_str hh _ a ta, hsz, isStrIter_new a ta, ?_, ⟨?_, ?_⟩, ?_⟩
  · intro b hb
    show b < (s₁.heap.push _).objs.size
    rw [Heap.size_push, List.mem_singleton.mp hb]
    exact Nat.lt_succ_self _
  · intro C i v s₃ m₃ E' _ _ _ _ _ _
    exact wpAny_pure ⟨rfl, s₃.heap, s₃.toks, rfl, fun _ _ e => e⟩
  · intro C i v s₃ m₃ E' _ hP _ hn hm hk _
    obtain ⟨c, t, hc, rfl⟩ := hP
    exact wpAny_mono (helt C c t s₃ m₃ E' (by obtain ⟨h1, rfl⟩ := Array.getElem?_eq_some_iff.mp hc; simp) hn hm fun b o e => hk b o (not_new_of_old e) (Heap.get?_push_of_some _ e)) (fun y s₄ hy => ⟨⟨c, t, rfl, hy.1⟩, hy.2⟩) fun _ _ e => e
  · intro D h' tk ys vs hnew _ hplD hlen hP hF hk
    rw [List.filter_eq_self.mpr (fun _ _ => rfl)] at hF
    have hv : Paired (fun v c => ∃ t, v = Value.str ⟨#[c]⟩ t) vs a.cps.toList := by
      have : ∀ (us : List Value) (cs : List Nat), us.length = cs.length → (∀ (j : Nat) (v : Value), us[j]? = some v → ∃ c t, cs[j]? = some c ∧ v = Value.str ⟨#[c]⟩ t) → Paired (fun v c => ∃ t, v = Value.str ⟨#[c]⟩ t) us cs := by
        intro us
        induction us with
        | nil => intro cs hl _; cases cs with
          | nil => exact .nil
          | cons _ _ => cases hl
        | cons u us ih =>
          intro cs hl hu
          cases cs with
          | nil => cases hl
          | cons c cs =>
            obtain ⟨c', t, e, e'⟩ := hu 0 u rfl
            injection e with e; subst e
            exact .cons ⟨t, e'⟩ (ih cs (by simpa using hl) fun j v e => by simpa using hu (j + 1) v (by simpa using e))
      exact this vs a.cps.toList (by simpa using hlen) fun (j : Nat) (v : Value) e => by
        obtain ⟨c, t, hc, e'⟩ := hP j v e
        exact ⟨c, t, by simpa using hc, e'⟩
    refine hQ D h' tk ys ?_ hplD (paired_map (R := fun v c => ∃ t, v = Value.str ⟨#[c]⟩ t) f (fun v c y hr hf => ?_) hv hF) fun b o e => hk b o (not_new_of_old e) (Heap.get?_push_of_some _ e)
    · cases e : s₁.heap.get? D with
      | none => rfl
      | some o' => rw [Heap.get?_push_of_some _ e] at hnew; cases hnew
    · obtain ⟨t, rfl⟩ := hr
      obtain ⟨c', t', e, hy⟩ := hf
      injection e with e _
      injection e with e
      have : c = c' := by simpa using e
      subst this; exact hy
end
end Mine
end

section
open PySem.Calls
namespace Mine
section
variable {prog : Program} {w : World} {A : Around} {E : Value → Shared → Prop} {s : Shared} {env : Env}

theorem comp_zip {elt iter : Expr} {x x₂ : Str} {px px₂ tp : Pos} {tk₀ : Nat} {scope : Scope} {cl : List (Str × Addr)} {pos : Pos} {Q : Value → Shared → Prop} {a b : Str} (f : Nat → Nat → Str)
    (hclos : closureFor scope env = pure cl) (hcell : ∀ y ∈ scope.names, y.2 ≠ .cell) (hkind : scope.kind = .function)
    (hnames : ∀ y ∈ scope.names, y.2 = .local → scope.names.lookup y.1 = some .local) (hx : scope.names.lookup x = some .local) (hx₂ : scope.names.lookup x₂ = some .local) (hxx : x ≠ x₂) (hh : A.handled = none)
    (hsz : a.cps.size ≤ 1000000)
    (h : wpAny (model prog w) A (eval iter env) (fun xv s₁ => ∃ n ta tb, n = s.heap.objs.size ∧ xv = .ref (n + 4) ∧ IsZip s₁.heap (n + 4) (n + 2) (n + 3) .none ∧ IsPair s₁.heap (n + 2) (.ref n) (.ref (n + 1)) ∧
      IsPair s₁.heap (n + 3) .none .none ∧ s₁.heap.IsStrIter n (itKind a) a ta 0 ∧ s₁.heap.IsStrIter (n + 1) (itKind b) b tb 0 ∧ s₁.heap.objs.size = n + 5 ∧ (∀ c o, s.heap.get? c = some o → s₁.heap.get? c = some o) ∧
      (∀ C c d t u s₃ m₃ E', s₃.heap.Ns C m₃ → m₃ x = some (.str ⟨#[c]⟩ t) → m₃ x₂ = some (.str ⟨#[d]⟩ u) → (∀ b o, s.heap.get? b = some o → s₃.heap.get? b = some o) →
        wpAny (model prog w) A (eval elt (compEnvC scope cl C env)) (fun y s₄ => IsS y (f c d) ∧ Keeps s₃ s₄) E' s₃) ∧
      (∀ D h' tk ys, s.heap.get? D = none → h'.PlainList D ys → Paired IsS ys.toList (List.zipWith f a.cps.toList b.cps.toList) → (∀ b o, s.heap.get? b = some o → h'.get? b = some o) → Q (.ref D) { s₁ with heap := h', toks := tk })) E s)
    (hs : ∀ x, foldedSetIterable iter env x = pure x := by intro _; rfl) :
    wpAny (model prog w) A (eval (.ListComp elt [⟨.Tuple [.Name x px, .Name x₂ px₂] tk₀ tp, iter, [], 0⟩] scope pos) env) Q E s := by
  rw [eval_ListComp]
  refine wpAny_comprehension_free (use := none) rfl hs hclos hkind hnames (wpAny_mono h (fun xv s₁ h₁ => ?_) fun _ _ e => e)
  obtain ⟨n, ta, tb, hn, rfl, hz, hTI, hTO, hi1, hi2, hsz1, hk1, helt, hQ⟩ := h₁
  refine wpAny_pyIter_zip hz ?_
  have hA : A.in1.handled = none := hh
  have W := zipd_walks (prog := prog) (w := w) (A := A) (zApart_new (n := n)) (draws_str hA n a ta) (draws_str hA (n + 1) b tb)
  have hst : IsZip s₁.heap (n + 4) (n + 2) (n + 3) .none ∧ IsPair s₁.heap (n + 2) (.ref n) (.ref (n + 1)) ∧ (∃ a b, IsPair s₁.heap (n + 3) a b) ∧ s₁.heap.IsStrIter n (itKind a) a ta 0 ∧ s₁.heap.IsStrIter (n + 1) (itKind b) b tb 0 :=
    ⟨hz, hTI, ⟨_, _, hTO⟩, hi1, hi2⟩
  generalize hN : min a.cps.size b.cps.size = N at W
  generalize hSt : (fun (i : Nat) (h : Heap) => IsZip h (n + 4) (n + 2) (n + 3) .none ∧ IsPair h (n + 2) (.ref n) (.ref (n + 1)) ∧ (∃ a b, IsPair h (n + 3) a b) ∧ h.IsStrIter n (itKind a) a ta i ∧ h.IsStrIter (n + 1) (itKind b) b tb i) = St at W
  replace hst : St 0 s₁.heap := by rw [← hSt]; exact hst
  have hold : ∀ (c : Nat) (o : Obj), s.heap.get? c = some o → @LT.lt Nat _ c n := fun c o e => hn ▸ Heap.lt_size e
  have hwr : ∀ (c : Nat), @LT.lt Nat _ c n → c ∉ [n + 4, n + 3, n, n + 1] := fun c hc hm => by simp at hm; omega
  refine wpAny_newObj_type (wpAny_newFunctionEnv hcell (by intro y hy; simp at hy) (fun h₁ hns₁ hsb₁ => ?_) hkind)
  dsimp only at hns₁ hsb₁ ⊢
  generalize hH2 : s₁.heap.push { cls := .type "list", dict := none, data := .seq ([] : List Value).toArray } = H2 at hns₁ hsb₁ ⊢
  have hC : H2.objs.size = s₁.heap.objs.size + 1 := by rw [← hH2, Heap.size_push]
  have hCn : H2.objs.size = n + 6 := by rw [hC, hsz1]
  have hDC : s₁.heap.objs.size ≠ H2.objs.size := by rw [hC]; exact Nat.ne_of_lt (Nat.lt_succ_self _)
  have old : ∀ b o, s₁.heap.get? b = some o → h₁.get? b = some o := fun b o e => hsb₁.extBut b o (Nat.ne_of_lt (by rw [hC]; exact Nat.lt_succ_of_lt (Heap.lt_size e))) (Heap.get?_push_of_some _ (hH2 ▸ Heap.get?_push_of_some _ e))
  have hacc : h₁.PlainList s₁.heap.objs.size #[] := ⟨_, hsb₁.extBut _ _ hDC (Heap.get?_push_of_some _ (hH2 ▸ Heap.get?_push_size _ rfl))⟩
  have hst₁ : St 0 h₁ := W.frame _ _ _ hst fun b _ o e => old b o e
  generalize hD : s₁.heap.objs.size = D at hDC hacc hC
  generalize hCC : H2.objs.size = C at hDC hns₁ hC hCn
  have hDn : D = n + 5 := by omega
  have hDw : D ∉ [n + 4, n + 3, n, n + 1] := fun hm => by simp at hm; omega
  have hDf : D ∉ [n + 4, n + 2, n + 3, n, n + 1] := fun hm => by simp at hm; omega
  have hCf : C ∉ [n + 4, n + 2, n + 3, n, n + 1] := fun hm => by simp at hm; omega
  have hCw : C ∉ [n + 4, n + 3, n, n + 1] := fun hm => by simp at hm; omega
  have old2 : ∀ b o, s.heap.get? b = some o → h₁.get? b = some o := fun b o e => old b o (hk1 b o e)
  have hDs : s.heap.get? D = none := by
    cases e : s.heap.get? D with
    | none => rfl
    | some o => have := hold _ _ e; omega
  have hCs : s.heap.get? C = none := by
    cases e : s.heap.get? C with
    | none => rfl
    | some o => have := hold _ _ e; omega
  have loop : ∀ s₃ : Shared, s₃ = { s₁ with heap := h₁, toks := s₁.toks + ([] : List (Str × Value)).length } →
      codeAny (model prog w) A (.compLoop (.ListComp elt [⟨.Tuple [.Name x px, .Name x₂ px₂] tk₀ tp, iter, [], 0⟩] scope pos) 0 (.ref (n + 4)) (.ref D) (compEnvC scope cl C env))
        (compPost (model prog w) A E none Q (.ref D) C) s₃ := by
    rintro s₃ rfl
    refine LCp.codeAny_compLoop_pair
      (fun k s' => ∃ h' tk i ys m', s' = { s₁ with heap := h', toks := tk } ∧ i ≤ N ∧ k = N + 1 - i ∧ St i h' ∧ h'.Ns C m' ∧ h'.PlainList D ys ∧
        Paired IsS ys.toList ((List.zipWith f a.cps.toList b.cps.toList).take i) ∧ (∀ b o, s.heap.get? b = some o → h'.get? b = some o)) ?_ (N + 1)
      ⟨h₁, _, 0, #[], _, rfl, Nat.zero_le _, rfl, hst₁, hns₁, hacc, .nil, old2⟩
    rintro k s' ⟨h', tk, i, ys, m', rfl, hi, rfl, hst', hn', hacc', hP', hk'⟩
    have hyl : ys.size = i := by
      have := paired_len hP'
      simp at this; omega
    by_cases hlt : i < N
    · refine W.item i _ _ _ hlt hst' fun T vals h₂ tk₂ hv _ hT hm hk₂ => ?_
      obtain ⟨v, u, ⟨c, tc, hc, rfl⟩, ⟨d, td, hd, rfl⟩, rfl⟩ := hv
      have hTw := W.apart _ _ _ hm
      refine W.go _ _ _ i T _ _ _ hm fun h₃ hst₃ hk₃ => ?_
      refine assign_Tuple_tuple hh (items := #[.str ⟨#[c]⟩ tc, .str ⟨#[d]⟩ td]) (by obtain ⟨o, ho, r⟩ := hT; exact ⟨o, hk₃ _ _ hTw ho, r⟩) rfl rfl fun h₄ he => ?_
      have he' : ∀ b o, h₃.get? b = some o → h₄.get? b = some o := fun b o e => he b o (Nat.ne_of_lt (Heap.lt_size e)) e
      have up4 : ∀ b o, b ∉ [n + 4, n + 3, n, n + 1] → h'.get? b = some o → h₄.get? b = some o := fun b o hb e => he' b o (hk₃ b o hb (hk₂ b o hb e))
      refine assignInOrder_cons (wpAny_assign_Name (wpAny_storeName_local (lookup_relabel_local hx) (hn'.at' fun o e => up4 _ o hCw e) (fun h₅ hn₅ hs₅ => ?_) (by simp [compEnvC, relabel, hkind])))
      refine assignInOrder_cons (wpAny_assign_Name (wpAny_storeName_local (lookup_relabel_local hx₂) hn₅ (fun h₆ hn₆ hs₆ => ?_) (by simp [compEnvC, relabel, hkind])))
      refine assignInOrder_nil ?_
      have up6 : ∀ b o, b ≠ C → h₄.get? b = some o → h₆.get? b = some o := fun b o hb e => hs₆.extBut b o hb (hs₅.extBut b o hb e)
      have keep6 : ∀ b o, s.heap.get? b = some o → h₆.get? b = some o := fun b o e => up6 b o (fun q => by rw [q, hCs] at e; cases e) (up4 b o (hwr _ (hold _ _ e)) (hk' b o e))
      have hst₆ : St (i + 1) h₆ := W.frame _ _ _ hst₃ fun b hb o e => up6 b o (fun q => hCf (q ▸ hb)) (he' b o e)
      refine wpAny_mono (helt C c d tc td _ _ _ hn₆ (by simp [hxx]) (by simp) keep6) (fun y s₇ hy => ?_) fun _ _ e => e
      obtain ⟨hy, h₇, tk₇, rfl, hk₇⟩ := hy
      refine wpAny_list_append_plain (hsz := by rw [hyl]; exact Nat.le_trans hi (Nat.le_trans (hN ▸ Nat.min_le_left _ _) (Nat.le_trans hsz (by decide)))) ((hacc'.at fun o e => up4 _ o hDw e).at fun o e => hk₇ _ o (up6 _ o hDC e)) fun h₈ hl₈ hs₈ => ?_
      refine ⟨N + 1 - (i + 1), by omega, h₈, tk₇, i + 1, ys.push y, _, rfl, hlt, rfl, ?_, (hn₆.keeps hk₇).sameBut hs₈ (Ne.symm hDC), hl₈, ?_, fun b o e => hs₈.extBut b o (fun q => by rw [q, hDs] at e; cases e) (hk₇ b o (keep6 b o e))⟩
      · exact W.frame _ _ _ hst₆ fun b hb o e => hs₈.extBut b o (fun q => hDf (q ▸ hb)) (hk₇ b o e)
      · rw [List.take_add_one]
        have : (List.zipWith f a.cps.toList b.cps.toList)[i]? = some (f c d) := by
          rw [List.getElem?_zipWith]
          have e1 : a.cps.toList[i]? = some c := by simpa using hc
          have e2 : b.cps.toList[i]? = some d := by simpa using hd
          rw [e1, e2]
        rw [this]
        simpa using hP'.snoc hy
    · obtain rfl : i = N := Nat.le_antisymm hi (Nat.not_lt.mp hlt)
      refine W.done _ _ _ hst' fun h₂ tk₂ hk₂ => ?_
      refine ⟨m', hn'.at' fun o e => hk₂ _ o hCw e, fun h₃ hs₃ => ?_⟩
      refine hQ D h₃ tk₂ ys hDs ((hacc'.at fun o e => hk₂ _ o hDw e).extBut hs₃.extBut hDC) ?_ fun b o e => hs₃.extBut b o (fun q => by rw [q, hCs] at e; cases e) (hk₂ b o (hwr _ (hold _ _ e)) (hk' b o e))
      rw [List.take_of_length_le (by simp; omega)] at hP'
      exact hP'
  exact codeAny_compStart_list (loop _ rfl) (W.self 0 _ _ _ hst₁ (loop _ rfl))
end
end Mine
end

section
open PySem.Calls
namespace Mine
section
variable {prog : Program} {w : World} {A : Around} {E : Value → Shared → Prop} {s : Shared} {env : Env}

theorem keeps_refl (s : Shared) : Keeps s s := ⟨s.heap, s.toks, rfl, fun _ _ e => e⟩
theorem keeps_trans {a b c : Shared} (x : Keeps a b) (y : Keeps b c) : Keeps a c := by
  obtain ⟨h1, t1, rfl, k1⟩ := x
  obtain ⟨h2, t2, rfl, k2⟩ := y
  exact ⟨h2, t2, rfl, fun b o e => k2 b o (k1 b o e)⟩

/-- a def without cells, entered; its body raises nothing -/
theorem enter_def {K : Frag} {R : Result → Shared → Prop} {name qual : Str} {params : Arguments} {body : List Stmt} {scope : Scope} {dV kV doc pm cdv ct oc : Value} {an od : Option Addr} {osl : Array (Option Value)} {f : Addr} {args : Args} (binds : List (Str × Value))
    (X : K.In s.heap) (hlim : s.heap.NoLimit) (ho : K.lookup f = some ⟨oc, od, .func (fnOf name qual params body scope dV kV doc pm an cdv ct), osl⟩) (hcd : codeIn K cdv qual = true) (hroom : A.depth < recursionLimit)
    (hbind : BindsTo s (fnOf name qual params body scope dV kV doc pm an cdv ct) args binds) (hloc : ∀ y ∈ binds, scope.names.lookup y.1 = some .local) (hcell : ∀ x ∈ scope.names, x.2 ≠ .cell)
    (hco : scope.isCoroutine = false) (hgen : scope.isGenerator = false) (hk : scope.kind = .function)
    (h : ∀ (L : Nat) (h₁ : Heap), L = s.heap.objs.size → Fr s.heap L h₁ (fun y => binds.reverse.lookup y) →
      wpAny (model prog w) (A.deeper (envOf qual scope L f cdv)) (execs body (envOf qual scope L f cdv))
        (fun fl s' => R (.ok (.ret (match fl with | .ret v => v | _ => .none))) s') (fun _ _ => False)
        { s with heap := h₁, toks := s.toks + binds.length }) :
    codeAny (model prog w) A (.call (.ref f) args) R s := by
  refine codeAny_call_def (fd := fnOf name qual params body scope dV kV doc pm an cdv ct) (body := body) (binds := binds) hroom (X _ _ ho) rfl hlim (codeRec_of X hcd) rfl hbind hcell hloc (fun h₁ hns hk₁ => ?_) hco hgen hk
  exact wpAny_mono (h _ h₁ rfl ⟨hns, hk₁, Nat.le_refl _⟩) (fun _ _ x => x) fun _ _ x => x.elim

/-- a def with cells, entered; its body raises nothing -/
theorem enter_defC {K : Frag} {R : Result → Shared → Prop} {name qual : Str} {params : Arguments} {body : List Stmt} {scope : Scope} {dV kV doc pm cdv ct oc : Value} {an od : Option Addr} {osl : Array (Option Value)} {f : Addr} {args : Args} (binds : List (Str × Value))
    (X : K.In s.heap) (hlim : s.heap.NoLimit) (ho : K.lookup f = some ⟨oc, od, .func (fnOf name qual params body scope dV kV doc pm an cdv ct), osl⟩) (hcd : codeIn K cdv qual = true) (hroom : A.depth < recursionLimit)
    (hbind : BindsTo s (fnOf name qual params body scope dV kV doc pm an cdv ct) args binds) 
    (hkind : (binds.all fun y => scope.names.lookup y.1 == some .local || scope.names.lookup y.1 == some .cell) = true)
    (hco : scope.isCoroutine = false) (hgen : scope.isGenerator = false) (hk : scope.kind = .function)
    (h : ∀ (L : Nat) (h₁ : Heap) tk, L = s.heap.objs.size → Fr s.heap L h₁ (bindL (envOfC qual scope L f cdv).kindOf binds fun _ => none) →
      Cl L (cellsFrom (L + 1) scope.names []) h₁ (bindC (envOfC qual scope L f cdv).kindOf binds fun _ => none) →
      wpAny (model prog w) (A.deeper (envOfC qual scope L f cdv)) (execs body (envOfC qual scope L f cdv))
        (fun fl s' => R (.ok (.ret (match fl with | .ret v => v | _ => .none))) s') (fun _ _ => False)
        { s with heap := h₁, toks := tk }) :
    codeAny (model prog w) A (.call (.ref f) args) R s := by
  refine codeAny_call_function (fd := fnOf name qual params body scope dV kV doc pm an cdv ct) hroom (X _ _ ho) rfl hco hgen rfl (codeRec_of X hcd) (hbind _ _ _ _ ?_)
  refine wpAny_newFunctionEnv_cells hk (kindsX hkind _) fun env' he s' x => ?_
  subst he
  refine ⟨hlim.keeps x.toInCall.keep, codeAny_func ?_⟩
  obtain ⟨h₁, tk, rfl, _⟩ := x.done
  exact wpAny_mono (h s.heap.objs.size h₁ tk rfl ⟨x.toInCall.ns, x.toInCall.keep, Nat.le_refl _⟩ ⟨x.cell, x.apart, x.above⟩) (fun _ _ y => y) fun _ _ y => y.elim

theorem nmG {M : Model} {K : Frag} {h₀ : Heap} {mg mb : Str → Option Value} {p : Program} {loose : List Str} {x : Str} {pos : Pos} {v : Value} {Q : Value → Shared → Prop} (X : K.In h₀) (T : TopRead p loose mg mb h₀)
    (k : ∀ b o, h₀.get? b = some o → s.heap.get? b = some o) (e : nsIn K mainGlobals x = some (some v)) (h : Q v s) (hg : env.globals = mainGlobals) (hk : env.scope.kind = .function) (hx : env.kindOf x = some .globalImplicit) (hd : (x == ("__debug__" : Str)) = false) :
    wpAny M A (eval (.Name x pos) env) Q E s :=
  Name_function_global hk hx (loadGlobal_global (env := env) (by rw [hg]; exact T.g.keeps k) (mg_of X T.g e) h) hd
theorem nmB {M : Model} {K : Frag} {h₀ : Heap} {mg mb : Str → Option Value} {p : Program} {loose : List Str} {x : Str} {pos : Pos} {v : Value} {Q : Value → Shared → Prop} (X : K.In h₀) (T : TopRead p loose mg mb h₀)
    (k : ∀ b o, h₀.get? b = some o → s.heap.get? b = some o) (e : nsIn K mainGlobals x = some none) (hv : bootBuiltins x = some v) (hn : x ≠ "__name__") (h : Q v s) (hg : env.globals = mainGlobals) (hb : env.builtins = builtinsNs) (hk : env.scope.kind = .function) (hx : env.kindOf x = some .globalImplicit) (hd : (x == ("__debug__" : Str)) = false) :
    wpAny M A (eval (.Name x pos) env) Q E s :=
  Name_function_global hk hx (loadGlobal_builtin (env := env) (by rw [hg]; exact T.g.keeps k) (mg_none_of X T.g e) (by rw [hb]; exact T.b.keeps k) ((T.builtins x hn).trans hv) h) hd
end
end Mine
end

section
open PySem.Calls
namespace Mine
/-- the texts one behind the other -/
def cat (l : List Str) : Str := ⟨(l.flatMap fun y => y.cps.toList).toArray⟩
theorem cat_nil : cat [] = ⟨#[]⟩ := rfl
theorem cat_append (l m : List Str) : cat (l ++ m) = cat l ++ cat m := by
  apply Str.ext'
  show _ = (cat l).cps ++ (cat m).cps
  simp [cat]
theorem cat_cons (x : Str) (l : List Str) : cat (x :: l) = x ++ cat l := by
  apply Str.ext'
  show _ = x.cps ++ (cat l).cps
  simp [cat]
theorem join_empty' : ∀ l : List Str, Str.join (Str.ofString "") l = cat l
  | [] => by rw [cat_nil]; rfl
  | [x] => by
    rw [cat_cons, cat_nil]
    show x = x ++ (⟨#[]⟩ : Str)
    apply Str.ext'
    show x.cps = x.cps ++ #[]
    simp
  | x :: y :: r => by
    rw [cat_cons, ← join_empty' (y :: r)]
    show x ++ Str.ofString "" ++ Str.join (Str.ofString "") (y :: r) = _
    have e : x ++ Str.ofString "" = x := by
      apply Str.ext'
      show x.cps ++ (Str.ofString "").cps = x.cps
      have : (Str.ofString "").cps = #[] := by decide
      rw [this]; simp
    rw [e]
theorem join_empty (l : List Str) : Txt.join (Str.ofString "") l = cat l := by
  rw [← join_empty']; exact StrLaws.glued_eq_join _ _
theorem len_cat (l : List Str) : (cat l).length = (l.map (·.length)).sum := by
  show ((l.flatMap fun y => y.cps.toList).toArray).size = _
  induction l with
  | nil => rfl
  | cons x l ih =>
    simp only [List.flatMap_cons, List.size_toArray, List.length_append, List.map_cons, List.sum_cons] at ih ⊢
    rw [ih]; simp [Str.length]
theorem len_cat_le {B : Nat} : ∀ {l : List Str}, (∀ y ∈ l, y.length ≤ B) → (cat l).length ≤ B * l.length := by
  intro l h
  rw [len_cat]
  have := StrLaws.sumLen_le l h
  rw [Nat.mul_comm]; exact this

section
variable {prog : Program} {w : World} {A : Around} {E : Value → Shared → Prop} {s : Shared} {env : Env}

theorem len_s {x : Str} {t : Tok} {Q : Value → Shared → Prop} (hx : x.length ≤ 1000000) (h : ∀ t' k, Q (.int x.length t') { s with toks := k }) : wpAny (model prog w) A (call (.builtin "len") [.str x t]) Q E s :=
  P.len_str (by omega) (h _ _)
theorem len_l {l : Addr} {items : Array Value} {Q : Value → Shared → Prop} (hl : s.heap.IsList l items) (hx : items.size ≤ 1000000) (h : ∀ t' k, Q (.int items.size t') { s with toks := k }) : wpAny (model prog w) A (call (.builtin "len") [.ref l]) Q E s :=
  len_list hl (by omega) (h _ _)
theorem upper_s {x : Str} {t : Tok} {Q : Value → Shared → Prop} (hx : x.length ≤ 1000000) (h : ∀ t' k, Q (.str (Txt.upper x) t') { s with toks := k }) : wpAny (model prog w) A (call (.builtin "str.upper") [.str x t]) Q E s :=
  SCL.upper (by omega) fun _ => h _ _
theorem lower_s {x : Str} {t : Tok} {Q : Value → Shared → Prop} (hx : x.length ≤ 1000000) (h : ∀ t' k, Q (.str (Txt.lower x) t') { s with toks := k }) : wpAny (model prog w) A (call (.builtin "str.lower") [.str x t]) Q E s :=
  SCL.lower (by omega) fun _ => h _ _
theorem isupper_s {x : Str} {t : Tok} {Q : Value → Shared → Prop} (h : Q (.bool (Txt.isupper x)) s) : wpAny (model prog w) A (call (.builtin "str.isupper") [.str x t]) Q E s := SC.isupper h
theorem join_s {D : Addr} {t : Tok} {items : Array Value} {ys : List Str} {Q : Value → Shared → Prop} (hl : s.heap.IsList D items) (hi : Paired IsS items.toList ys) (hB : ∀ y ∈ ys, y.length ≤ 1000) (hn : ys.length ≤ 1000)
    (h : ∀ t' k, Q (.str (cat ys) t') { s with toks := k }) : wpAny (model prog w) A (call (.builtin "str.join") [.str (Str.ofString "") t, .ref D]) Q E s := by
  refine join_list hl (strsAre_of hi) ?_ fun t' k => by rw [join_empty]; exact h t' k
  have h1 := StrLaws.sumLen_le ys hB
  have h2 : (Str.ofString "").length = 0 := by decide
  have h3 : ys.length * 1000 ≤ 1000 * 1000 := Nat.mul_le_mul_right _ hn
  rw [h2]; omega
theorem add_s {x y : Str} {t u : Tok} {Q : Value → Shared → Prop} (hx : x.length ≤ 1000000) (hy : y.length ≤ 1000000) (h : ∀ t' k, Q (.str (x ++ y) t') { s with toks := k }) : wpAny (model prog w) A (binaryOp .Add (.str x t) (.str y u)) Q E s :=
  SB.add h (by unfold sizeLine; omega)
theorem iadd_s {x y : Str} {t u : Tok} {Q : Value → Shared → Prop} (hx : x.length ≤ 1000000) (hy : y.length ≤ 1000000) (h : ∀ t' k, Q (.str (x ++ y) t') { s with toks := k }) : wpAny (model prog w) A (inplaceOp .Add (.str x t) (.str y u)) Q E s :=
  SB.iadd h (by unfold sizeLine; omega)
theorem str_beq (x y : Str) : (x.cps.toList == y.cps.toList) = decide (x = y) := by
  by_cases h : x = y
  · subst h; simp
  · rw [decide_eq_false h, beq_eq_false_iff_ne]
    intro e
    exact h (Str.ext' (by rw [← Array.toArray_toList (xs := x.cps), e, Array.toArray_toList]))
theorem eq_s {x y : Str} {t u : Tok} {Q : Value → Shared → Prop} (h : Q (.bool (decide (x = y))) s) : wpAny (model prog w) A (compareOp .Eq (.str x t) (.str y u)) Q E s := P.eq_str (by rw [str_beq]; exact h)
theorem ne_s {x y : Str} {t u : Tok} {Q : Value → Shared → Prop} (h : Q (.bool (!decide (x = y))) s) : wpAny (model prog w) A (compareOp .NotEq (.str x t) (.str y u)) Q E s := P.ne_str (by rw [bne, str_beq]; exact h)
end
end Mine
end

section
open PySem.Calls
set_option maxRecDepth 100000
namespace Mine
section
variable {prog : Program} {w : World} {A : Around} {E : Value → Shared → Prop} {s : Shared} {env : Env}

theorem call_join {elt : Expr} {gens : List Comprehension} {sc : Scope} {lp p apos pos : Pos} {k : Nat} {Q : Value → Shared → Prop} (hline : (apos.endLine == pos.line) = true)
    (h : ∀ t, wpAny (model prog w) A (eval (.ListComp elt gens sc lp) env) (fun v s₁ => ∃ D items ys, v = .ref D ∧ s₁.heap.IsList D items ∧ Paired IsS items.toList ys ∧ (∀ y ∈ ys, y.length ≤ 1000) ∧ ys.length ≤ 1000 ∧
      ∀ t' k, Q (.str (cat ys) t') { s₁ with toks := k }) E { s with toks := t }) :
    wpAny (model prog w) A (eval (.Call (.Attribute (.Constant (.str (Str.ofString "")) k p) (Str.ofString "join") apos) [.ListComp elt gens sc lp] [] pos) env) Q E s := by
  refine Call_method1 rfl rfl hline (Calls.Constant_str ?_)
  refine SB.join (wpAny_mono (h _) (fun v s₁ h₁ => ?_) fun _ _ e => e)
  obtain ⟨D, items, ys, rfl, hl, hp, hB, hn, hq⟩ := h₁
  obtain ⟨l, hv, ht⟩ := strsAre_values (strsAre_of hp)
  refine ⟨D, l, rfl, by rw [← hv]; exact hl, ys, ht, joinOk_of ?_, fun t' k => by rw [join_empty]; exact hq t' k⟩
  have h1 := StrLaws.sumLen_le ys hB
  have h2 : (Str.ofString "").length = 0 := by decide
  have h3 : ys.length * 1000 ≤ 1000 * 1000 := Nat.mul_le_mul_right _ hn
  rw [h2]; omega
theorem call_upper {x : Str} {p apos pos : Pos} {Q : Value → Shared → Prop} (hline : (apos.endLine == pos.line) = true)
    (h : wpAny (model prog w) A (eval (.Name x p) env) (fun v s₁ => ∃ a t, v = .str a t ∧ a.length ≤ 1000000 ∧ ∀ t' k, Q (.str (Txt.upper a) t') { s₁ with toks := k }) E s) :
    wpAny (model prog w) A (eval (.Call (.Attribute (.Name x p) (Str.ofString "upper") apos) [] [] pos) env) Q E s := by
  refine Call_method0 rfl hline (wpAny_mono h (fun v s₁ h₁ => ?_) fun _ _ e => e)
  obtain ⟨a, t, rfl, hl, hq⟩ := h₁
  exact SBL.upper (by omega) fun _ => hq _ _
theorem call_lower {x : Str} {p apos pos : Pos} {Q : Value → Shared → Prop} (hline : (apos.endLine == pos.line) = true)
    (h : wpAny (model prog w) A (eval (.Name x p) env) (fun v s₁ => ∃ a t, v = .str a t ∧ a.length ≤ 1000000 ∧ ∀ t' k, Q (.str (Txt.lower a) t') { s₁ with toks := k }) E s) :
    wpAny (model prog w) A (eval (.Call (.Attribute (.Name x p) (Str.ofString "lower") apos) [] [] pos) env) Q E s := by
  refine Call_method0 rfl hline (wpAny_mono h (fun v s₁ h₁ => ?_) fun _ _ e => e)
  obtain ⟨a, t, rfl, hl, hq⟩ := h₁
  exact SBL.lower (by omega) fun _ => hq _ _
theorem call_isupper {x : Str} {p apos pos : Pos} {Q : Value → Shared → Prop} (hline : (apos.endLine == pos.line) = true)
    (h : wpAny (model prog w) A (eval (.Name x p) env) (fun v s₁ => ∃ a t, v = .str a t ∧ Q (.bool (Txt.isupper a)) s₁) E s) :
    wpAny (model prog w) A (eval (.Call (.Attribute (.Name x p) (Str.ofString "isupper") apos) [] [] pos) env) Q E s := by
  refine Call_method0 rfl hline (wpAny_mono h (fun v s₁ h₁ => ?_) fun _ _ e => e)
  obtain ⟨a, t, rfl, hq⟩ := h₁
  exact SB.isupper hq
/-- the same upon a cut or an item -/
theorem call_upperX {v i : Expr} {sp apos pos : Pos} {Q : Value → Shared → Prop} (hline : (apos.endLine == pos.line) = true)
    (h : wpAny (model prog w) A (eval (.Subscript v i sp) env) (fun v s₁ => ∃ a t, v = .str a t ∧ a.length ≤ 1000000 ∧ ∀ t' k, Q (.str (Txt.upper a) t') { s₁ with toks := k }) E s) :
    wpAny (model prog w) A (eval (.Call (.Attribute (.Subscript v i sp) (Str.ofString "upper") apos) [] [] pos) env) Q E s := by
  refine Call_method0 rfl hline (wpAny_mono h (fun v s₁ h₁ => ?_) fun _ _ e => e)
  obtain ⟨a, t, rfl, hl, hq⟩ := h₁
  exact SBL.upper (by omega) fun _ => hq _ _
theorem call_lowerX {v i : Expr} {sp apos pos : Pos} {Q : Value → Shared → Prop} (hline : (apos.endLine == pos.line) = true)
    (h : wpAny (model prog w) A (eval (.Subscript v i sp) env) (fun v s₁ => ∃ a t, v = .str a t ∧ a.length ≤ 1000000 ∧ ∀ t' k, Q (.str (Txt.lower a) t') { s₁ with toks := k }) E s) :
    wpAny (model prog w) A (eval (.Call (.Attribute (.Subscript v i sp) (Str.ofString "lower") apos) [] [] pos) env) Q E s := by
  refine Call_method0 rfl hline (wpAny_mono h (fun v s₁ h₁ => ?_) fun _ _ e => e)
  obtain ⟨a, t, rfl, hl, hq⟩ := h₁
  exact SBL.lower (by omega) fun _ => hq _ _
theorem call_isupperX {v i : Expr} {sp apos pos : Pos} {Q : Value → Shared → Prop} (hline : (apos.endLine == pos.line) = true)
    (h : wpAny (model prog w) A (eval (.Subscript v i sp) env) (fun v s₁ => ∃ a t, v = .str a t ∧ Q (.bool (Txt.isupper a)) s₁) E s) :
    wpAny (model prog w) A (eval (.Call (.Attribute (.Subscript v i sp) (Str.ofString "isupper") apos) [] [] pos) env) Q E s := by
  refine Call_method0 rfl hline (wpAny_mono h (fun v s₁ h₁ => ?_) fun _ _ e => e)
  obtain ⟨a, t, rfl, hq⟩ := h₁
  exact SB.isupper hq

theorem isTrue_call {f : Expr} {args : List Expr} {kw : List Keyword} {pos : Pos} {Q : Bool → Shared → Prop} (h : wpAny (model prog w) A (eval (.Call f args kw pos) env) (fun v s₁ => ∃ b, v = .bool b ∧ Q b s₁) E s) :
    wpAny (model prog w) A (isTrue (.Call f args kw pos) env (eval (.Call f args kw pos) env)) Q E s := by
  refine wpAny_isTrue_value (wpAny_mono h (fun v s₁ h₁ => ?_) fun _ _ e => e) rfl
  obtain ⟨b, rfl, hq⟩ := h₁
  exact wpAny_truthy_bool hq
end
end Mine
end

section
open PySem.Calls
set_option maxRecDepth 100000
namespace Mine
section
variable {prog : Program} {w : World} {A : Around} {E : Value → Shared → Prop} {s : Shared} {env : Env}

theorem wp_false {α : Type} {M : Model} {t : Sem α} {Q : α → Shared → Prop} (h : wpAny M A t Q (fun _ _ => False) s) : wpAny M A t Q E s := wpAny_mono h (fun _ _ x => x) fun _ _ x => x.elim

/-- a for with a tuple of names over a list -/
theorem for_list_tup {elts : List Expr} {tk₀ : Nat} {tp pos : Pos} {iter : Expr} {body : List Stmt} {Q : Flow → Shared → Prop} (hh : A.handled = none)
    (h : wpAny (model prog w) A (eval iter env) (fun xv s₁ => ∃ l items, ∃ Inv : Nat → Heap → Prop, xv = .ref l ∧ Inv 0 s₁.heap ∧ (∀ i h, Inv i h → h.IsList l items) ∧ (∀ (i : Nat) v, items[i]? = some v → ∃ T, v = .ref T) ∧
      (∀ i h h', Inv i h → (∀ b o, b ≠ s₁.heap.objs.size → h.get? b = some o → h'.get? b = some o) → Inv i h') ∧
      (∀ i v h tk, items[i]? = some v → Inv i h → (∃ o, h.get? s₁.heap.objs.size = some o) → wpAny (model prog w) A (assign (.Tuple elts tk₀ tp) env v) (fun _ s₂ => wpAny (model prog w) A (execs body env)
        (fun f s₃ => (f = .next ∨ f = .cont) ∧ ∃ h' tk', s₃ = { s₁ with heap := h', toks := tk' } ∧ Inv (i + 1) h' ∧ (∀ o, h.get? s₁.heap.objs.size = some o → h'.get? s₁.heap.objs.size = some o)) (fun _ _ => False) s₂) (fun _ _ => False) { s₁ with heap := h, toks := tk }) ∧
      (∀ h tk, Inv items.size h → Q .next { s₁ with heap := h, toks := tk })) E s)
    (hs : ∀ x, foldedSetIterable iter env x = pure x := by intro _; rfl) :
    wpAny (model prog w) A (exec (.For (.Tuple elts tk₀ tp) iter body [] pos) env) Q E s := by
  refine wpAny_For (wpAny_mono h (fun xv s₁ h₁ => ?_) fun _ _ e => e) hs
  obtain ⟨l, items, Inv, rfl, h0, hL, hT, hst, turn, hend⟩ := h₁
  have hl := hL _ _ h0
  have hlt : l < s₁.heap.objs.size := by obtain ⟨_, e, _⟩ := hl; exact Heap.lt_size e
  refine wpAny_pyIter_list hl ?_
  refine codeAny_forLoop_any (fun k s' => ∃ i h tk, s' = { s₁ with heap := h, toks := tk } ∧ i ≤ items.size ∧ k = items.size + 1 - i ∧ Inv i h ∧ h.IsListIter s₁.heap.objs.size l i) ?_ (items.size + 1)
    ⟨0, _, s₁.toks, rfl, Nat.zero_le _, rfl, hst _ _ _ h0 fun b o _ e => Heap.get?_push_of_some _ e, ⟨_, Heap.get?_push_size _ rfl, rfl, rfl⟩⟩
  rintro k s' ⟨i, h, tk, rfl, hi, rfl, hI, hit⟩
  cases hv : items[i]? with
  | none =>
    have hle : items.size ≤ i := by simpa using hv
    obtain rfl : i = items.size := Nat.le_antisymm hi hle
    refine wpAny_pyNext_list_end hh hit (hL _ _ hI) hv fun h₁ he₁ => wpAny_execs_nil ?_
    exact hend h₁ tk (hst _ _ _ hI fun b o hb e => he₁ b o hb e)
  | some v =>
    have hlt' : i < items.size := (Array.getElem?_eq_some_iff.mp hv).1
    refine wpAny_pyNext_list_item hit (hL _ _ hI) hv fun h₁ hit₁ hs₁ => ?_
    obtain ⟨T, rfl⟩ := hT i v hv
    refine wpAny_letOwnedTupleGo_listiter (s := { s₁ with heap := h₁, toks := tk }) hit₁ ?_
    have hI₁ : Inv i h₁ := hst _ _ _ hI fun b o hb e => hs₁.extBut b o hb e
    refine wp_false (wpAny_mono (turn i _ h₁ tk hv hI₁ (by obtain ⟨o, ho, _⟩ := hit₁; exact ⟨o, ho⟩)) (fun _ s₂ h₂ => ?_) fun _ _ e => e)
    refine wp_false (wpAny_mono h₂ (fun f s₃ h₃ => ?_) fun _ _ e => e)
    obtain ⟨hf, h', tk', rfl, hI', hkI⟩ := h₃
    have : ∃ m, m < items.size + 1 - i ∧ ∃ j h tk, ({ s₁ with heap := h', toks := tk' } : Shared) = { s₁ with heap := h, toks := tk } ∧ j ≤ items.size ∧ m = items.size + 1 - j ∧ Inv j h ∧ h.IsListIter s₁.heap.objs.size l j :=
      ⟨items.size + 1 - (i + 1), by omega, i + 1, h', tk', rfl, hlt', rfl, hI', hit₁.at hkI⟩
    rcases hf with rfl | rfl <;> exact this

/-- a for with two names over a zip of two texts -/
theorem for_zip {x x₂ : Str} {px px₂ tp pos : Pos} {tk₀ : Nat} {iter : Expr} {body : List Stmt} {Q : Flow → Shared → Prop} {a b : Str} (hh : A.handled = none)
    (h : wpAny (model prog w) A (eval iter env) (fun xv s₁ => ∃ (n : Nat) (ta tb : Tok), ∃ Inv : Nat → Heap → Prop, xv = .ref (n + 4) ∧ IsZip s₁.heap (n + 4) (n + 2) (n + 3) .none ∧ IsPair s₁.heap (n + 2) (.ref n) (.ref (n + 1)) ∧
      IsPair s₁.heap (n + 3) .none .none ∧ s₁.heap.IsStrIter n (itKind a) a ta 0 ∧ s₁.heap.IsStrIter (n + 1) (itKind b) b tb 0 ∧ Inv 0 s₁.heap ∧
      (∀ i h h', Inv i h → (∀ (b : Nat) o, (b < n ∨ n + 5 ≤ b) → h.get? b = some o → h'.get? b = some o) → Inv i h') ∧
      (∀ i c d t u T h tk, a.cps.toList[i]? = some c → b.cps.toList[i]? = some d → Inv i h → h.IsTuple T #[.str ⟨#[c]⟩ t, .str ⟨#[d]⟩ u] → wpAny (model prog w) A (assign (.Tuple [.Name x px, .Name x₂ px₂] tk₀ tp) env (.ref T)) (fun _ s₂ => wpAny (model prog w) A (execs body env)
        (fun f s₃ => (f = .next ∨ f = .cont) ∧ ∃ h' tk', s₃ = { s₁ with heap := h', toks := tk' } ∧ Inv (i + 1) h' ∧ (∀ (b : Nat) o, n ≤ b → b < n + 5 → h.get? b = some o → h'.get? b = some o)) (fun _ _ => False) s₂) (fun _ _ => False) { s₁ with heap := h, toks := tk }) ∧
      (∀ h tk, Inv (min a.cps.size b.cps.size) h → Q .next { s₁ with heap := h, toks := tk })) E s)
    (hs : ∀ x, foldedSetIterable iter env x = pure x := by intro _; rfl) :
    wpAny (model prog w) A (exec (.For (.Tuple [.Name x px, .Name x₂ px₂] tk₀ tp) iter body [] pos) env) Q E s := by
  refine wpAny_For (wpAny_mono h (fun xv s₁ h₁ => ?_) fun _ _ e => e) hs
  obtain ⟨n, ta, tb, Inv, rfl, hz, hTI, hTO, hi1, hi2, h0, hst, turn, hend⟩ := h₁
  refine wpAny_pyIter_zip hz ?_
  have hA : A.in1.handled = none := hh
  have W := zipd_walks (prog := prog) (w := w) (A := A) (zApart_new (n := n)) (draws_str hA n a ta) (draws_str hA (n + 1) b tb)
  have hs0 : IsZip s₁.heap (n + 4) (n + 2) (n + 3) .none ∧ IsPair s₁.heap (n + 2) (.ref n) (.ref (n + 1)) ∧ (∃ a b, IsPair s₁.heap (n + 3) a b) ∧ s₁.heap.IsStrIter n (itKind a) a ta 0 ∧ s₁.heap.IsStrIter (n + 1) (itKind b) b tb 0 :=
    ⟨hz, hTI, ⟨_, _, hTO⟩, hi1, hi2⟩
  generalize hN : min a.cps.size b.cps.size = N at W hend
  generalize hSt : (fun (i : Nat) (h : Heap) => IsZip h (n + 4) (n + 2) (n + 3) .none ∧ IsPair h (n + 2) (.ref n) (.ref (n + 1)) ∧ (∃ a b, IsPair h (n + 3) a b) ∧ h.IsStrIter n (itKind a) a ta i ∧ h.IsStrIter (n + 1) (itKind b) b tb i) = St at W
  replace hs0 : St 0 s₁.heap := by rw [← hSt]; exact hs0
  have hwr : ∀ (c : Nat), (c < n ∨ n + 5 ≤ c) → c ∉ [n + 4, n + 3, n, n + 1] := fun c hc hm => by simp at hm; omega
  refine codeAny_forLoop_any (fun k s' => ∃ i h tk, s' = { s₁ with heap := h, toks := tk } ∧ i ≤ N ∧ k = N + 1 - i ∧ Inv i h ∧ St i h) ?_ (N + 1)
    ⟨0, s₁.heap, s₁.toks, rfl, Nat.zero_le _, rfl, h0, hs0⟩
  rintro k s' ⟨i, h, tk, rfl, hi, rfl, hI, hS⟩
  by_cases hlt : i < N
  · refine W.item i _ _ _ hlt hS fun T vals h₂ tk₂ hv _ hT hm hk₂ => ?_
    obtain ⟨v, u, ⟨c, tc, hc, rfl⟩, ⟨d, td, hd, rfl⟩, rfl⟩ := hv
    have hTw := W.apart _ _ _ hm
    refine W.go _ _ _ i T _ _ _ hm fun h₃ hS₃ hk₃ => ?_
    have hI₃ : Inv i h₃ := hst _ _ _ hI fun b o hb e => hk₃ _ _ (hwr b hb) (hk₂ _ _ (hwr b hb) e)
    have hT₃ : h₃.IsTuple T #[.str ⟨#[c]⟩ tc, .str ⟨#[d]⟩ td] := by obtain ⟨o, ho, r⟩ := hT; exact ⟨o, hk₃ _ _ hTw ho, r⟩
    refine wp_false (wpAny_mono (turn i c d tc td T h₃ tk₂ (by simpa using hc) (by simpa using hd) hI₃ hT₃) (fun _ s₂ h₂ => ?_) fun _ _ e => e)
    refine wp_false (wpAny_mono h₂ (fun f s₃ h₃ => ?_) fun _ _ e => e)
    obtain ⟨hf, h', tk', rfl, hI', hkI⟩ := h₃
    have hS' : St (i + 1) h' := W.frame _ _ _ hS₃ fun b hb o e => by
      have : n ≤ b ∧ @LT.lt Nat _ b (n + 5) := by simp at hb; rcases hb with rfl | rfl | rfl | rfl | rfl <;> exact ⟨by omega, by omega⟩
      exact hkI b o this.1 this.2 e
    have : ∃ m, m < N + 1 - i ∧ ∃ j h tk, ({ s₁ with heap := h', toks := tk' } : Shared) = { s₁ with heap := h, toks := tk } ∧ j ≤ N ∧ m = N + 1 - j ∧ Inv j h ∧ St j h :=
      ⟨N + 1 - (i + 1), by omega, i + 1, h', tk', rfl, hlt, rfl, hI', hS'⟩
    rcases hf with rfl | rfl <;> exact this
  · obtain rfl : i = N := Nat.le_antisymm hi (Nat.not_lt.mp hlt)
    refine W.done _ _ _ hS fun h₂ tk₂ hk₂ => wpAny_execs_nil ?_
    exact hend h₂ tk₂ (hst _ _ _ hI fun b o hb e => hk₂ _ _ (hwr b hb) e)

/-- a for with one name over a range of a step -/
theorem for_range {x : Str} {px pos : Pos} {iter : Expr} {body : List Stmt} {Q : Flow → Shared → Prop} {a c : Int} {n : Nat} (hh : A.handled = none)
    (h : wpAny (model prog w) A (eval iter env) (fun xv s₁ => ∃ r b t u v, ∃ Inv : Nat → Heap → Prop, xv = .ref r ∧ IsRange s₁.heap r a b c t u v ∧ Builtin.Range.small a b c = true ∧ Builtin.Range.rangeSize a b c = (n : Nat) ∧ Inv 0 s₁.heap ∧
      (∀ i h h', Inv i h → (∀ b o, b ≠ s₁.heap.objs.size → h.get? b = some o → h'.get? b = some o) → Inv i h') ∧
      (∀ i t h tk, i < n → Inv i h → (∃ o, h.get? s₁.heap.objs.size = some o) → wpAny (model prog w) A (assign (.Name x px) env (.int (a + (i : Nat) * c) t)) (fun _ s₂ => wpAny (model prog w) A (execs body env)
        (fun f s₃ => (f = .next ∨ f = .cont) ∧ ∃ h' tk', s₃ = { s₁ with heap := h', toks := tk' } ∧ Inv (i + 1) h' ∧ (∀ o, h.get? s₁.heap.objs.size = some o → h'.get? s₁.heap.objs.size = some o)) (fun _ _ => False) s₂) (fun _ _ => False) { s₁ with heap := h, toks := tk }) ∧
      (∀ h tk, Inv n h → Q .next { s₁ with heap := h, toks := tk })) E s)
    (hs : ∀ x, foldedSetIterable iter env x = pure x := by intro _; rfl) :
    wpAny (model prog w) A (exec (.For (.Name x px) iter body [] pos) env) Q E s := by
  refine wpAny_For (wpAny_mono h (fun xv s₁ h₁ => ?_) fun _ _ e => e) hs
  obtain ⟨r, b, t, u, v, Inv, rfl, hr, hsm, hn, h0, hst, turn, hend⟩ := h₁
  refine wpAny_pyIter_range hr hsm ?_
  rw [hn]
  have W := Walks.range (prog := prog) (w := w) hh s₁.heap.objs.size a c n
  refine codeAny_forLoop_any (fun k s' => ∃ i h tk, s' = { s₁ with heap := h, toks := tk } ∧ i ≤ n ∧ k = n + 1 - i ∧ Inv i h ∧ IsRangeIter h s₁.heap.objs.size (a + (i : Nat) * c) ((n : Int) - (i : Nat)) c) ?_ (n + 1)
    ⟨0, _, s₁.toks, rfl, Nat.zero_le _, rfl, hst _ _ _ h0 fun b o _ e => Heap.get?_push_of_some _ e, by simpa using Heap.get?_push_size s₁.heap (o := { cls := .type "range_iterator", data := .fields #[rawInt a, rawInt (n : Nat), rawInt c] }) rfl⟩
  rintro k s' ⟨i, h, tk, rfl, hi, rfl, hI, hit⟩
  by_cases hlt : i < n
  · refine W.item i _ _ _ hlt hit fun v h₁ tk₁ hv hit₁ hk₁ => ?_
    obtain ⟨t', rfl⟩ := hv
    have hI₁ : Inv i h₁ := hst _ _ _ hI fun b o hb e => hk₁ b o (by simpa using hb) e
    refine wpAny_pure (a := ()) ?_
    refine wp_false (wpAny_mono (turn i t' h₁ tk₁ hlt hI₁ ⟨_, hit₁⟩) (fun _ s₂ h₂ => ?_) fun _ _ e => e)
    refine wp_false (wpAny_mono h₂ (fun f s₃ h₃ => ?_) fun _ _ e => e)
    obtain ⟨hf, h', tk', rfl, hI', hkI⟩ := h₃
    have : ∃ m, m < n + 1 - i ∧ ∃ j h tk, ({ s₁ with heap := h', toks := tk' } : Shared) = { s₁ with heap := h, toks := tk } ∧ j ≤ n ∧ m = n + 1 - j ∧ Inv j h ∧ IsRangeIter h s₁.heap.objs.size (a + (j : Nat) * c) ((n : Int) - (j : Nat)) c :=
      ⟨n + 1 - (i + 1), by omega, i + 1, h', tk', rfl, hlt, rfl, hI', hkI _ hit₁⟩
    rcases hf with rfl | rfl <;> exact this
  · obtain rfl : i = n := Nat.le_antisymm hi (Nat.not_lt.mp hlt)
    refine W.done _ _ _ hit fun h₁ tk₁ hk₁ => wpAny_execs_nil ?_
    exact hend h₁ tk₁ (hst _ _ _ hI fun b o hb e => hk₁ b o (by simpa using hb) e)
end
end Mine
end

section
open PySem.Calls
set_option maxRecDepth 100000
namespace Mine
/-- x[i:j], the bounds in x -/
def sub (x : Str) (i j : Nat) : Str := ⟨((x.cps.toList.drop i).take (j - i)).toArray⟩
theorem app_nil (x : Str) : x ++ (⟨#[]⟩ : Str) = x := by
  apply Str.ext'
  show x.cps ++ #[] = x.cps
  simp
theorem nil_app (x : Str) : (⟨#[]⟩ : Str) ++ x = x := by
  apply Str.ext'
  show #[] ++ x.cps = x.cps
  simp
theorem app_assoc (x y z : Str) : x ++ y ++ z = x ++ (y ++ z) := by
  apply Str.ext'
  show x.cps ++ y.cps ++ z.cps = x.cps ++ (y.cps ++ z.cps)
  simp
theorem is_blank (c : Nat) : (⟨#[c]⟩ : Str) = Str.ofString " " ↔ c = 32 := by
  have e : Str.ofString " " = ⟨#[32]⟩ := by decide
  rw [e]
  constructor
  · intro h
    have := congrArg (fun x : Str => x.cps.toList) h
    simpa using this
  · rintro rfl; rfl
theorem cat_one (x : Str) : cat [x] = x := by rw [cat_cons, cat_nil, app_nil]
theorem len_sub (x : Str) {i j : Nat} (h : j ≤ x.length) : (sub x i j).length = j - i := by
  show (((x.cps.toList.drop i).take (j - i)).toArray).size = _
  have : x.cps.toList.length = x.length := by simp [Str.length]
  rw [List.size_toArray, List.length_take, List.length_drop, this]
  omega
section
variable {prog : Program} {w : World} {A : Around} {E : Value → Shared → Prop} {s : Shared} {env : Env}
theorem sub_any {value slice : Expr} {o i : Value} {ops : List Value} {Q : Value → Shared → Prop} (h : ItemOn (model prog w) A E o i Q s) (hs : subscripted slice false o i = operate ops (getItem o i)) :
    wpAny (model prog w) A (subscriptTail value slice o i) Q E s := by
  obtain ⟨T, id, hl, hT, hg⟩ := h
  exact kba_turn (value' := Expr.Name (Str.ofString "_") ⟨0, 0, 0, 0⟩) (fun _ => rfl) (subscriptTail_ops hT hl hg hs fun _ => rfl)

theorem cut_ss {value : Expr} {lo up : Option Expr} {p : Pos} {x : Str} {t ti tj : Tok} {i j : Int} {Q : Value → Shared → Prop} (hi : 0 ≤ i) (hij : i ≤ j) (hj : j ≤ x.length) (hx : x.length ≤ 1000000)
    (h : ∀ h' t' k, (∀ b o, s.heap.get? b = some o → h'.get? b = some o) → Q (.str (sub x i.toNat j.toNat) t') { s with heap := h', toks := k }) :
    wpAny (model prog w) A (subscriptTail value (.Slice lo up none p) (.str x t) (.ref s.heap.objs.size)) Q E { s with heap := s.heap.push { cls := .type "slice", data := .fields #[.int i ti, .int j tj, .none] } } := by
  refine sub_any (ops := [.ref s.heap.objs.size, .str x t]) ⟨"str", _, F.slot_str_getitem.lookup, typeIs_str _ _ _, wpAny_getItem_str_slice (l := some (i, ti)) (u := some (j, tj)) (st := none) ⟨_, Heap.get?_push_size _ rfl, rfl, rfl⟩ rfl
    (post_val_or_str ⟨Nat.le_trans (Txt.slice_le x _ _) (Nat.le_trans hx (by decide)), fun t' k => ?_⟩)⟩ rfl
  have e : Txt.slice x (some i) (some j) = sub x i.toNat j.toNat := by
    have := beq_iff_eq.mp (slice_closesL hi hij hj)
    rw [this]; unfold sub; congr 3; omega
  have := h (s.heap.push { cls := .type "slice", data := .fields #[.int i ti, .int j tj, .none] }) t' k fun b o e => Heap.get?_push_of_some _ e
  rw [← e] at this
  exact this
theorem cut_sn {value : Expr} {lo up : Option Expr} {p : Pos} {x : Str} {t ti : Tok} {i : Int} {Q : Value → Shared → Prop} (hi : 0 ≤ i) (hij : i ≤ x.length) (hx : x.length ≤ 1000000)
    (h : ∀ h' t' k, (∀ b o, s.heap.get? b = some o → h'.get? b = some o) → Q (.str (sub x i.toNat x.length) t') { s with heap := h', toks := k }) :
    wpAny (model prog w) A (subscriptTail value (.Slice lo up none p) (.str x t) (.ref s.heap.objs.size)) Q E { s with heap := s.heap.push { cls := .type "slice", data := .fields #[.int i ti, .none, .none] } } := by
  refine sub_any (ops := [.ref s.heap.objs.size, .str x t]) ⟨"str", _, F.slot_str_getitem.lookup, typeIs_str _ _ _, wpAny_getItem_str_slice (l := some (i, ti)) (u := none) (st := none) ⟨_, Heap.get?_push_size _ rfl, rfl, rfl⟩ rfl
    (post_val_or_str ⟨Nat.le_trans (Txt.slice_le x _ _) (Nat.le_trans hx (by decide)), fun t' k => ?_⟩)⟩ rfl
  have e : Txt.slice x (some i) none = sub x i.toNat x.length := by
    rw [slice_from_eq hi hij rfl]; unfold sub; congr 3; omega
  have := h (s.heap.push { cls := .type "slice", data := .fields #[.int i ti, .none, .none] }) t' k fun b o e => Heap.get?_push_of_some _ e
  rw [← e] at this
  exact this
theorem cut_ns {value : Expr} {lo up : Option Expr} {p : Pos} {x : Str} {t tj : Tok} {j : Int} {Q : Value → Shared → Prop} (hj0 : 0 ≤ j) (hj : j ≤ x.length) (hx : x.length ≤ 1000000)
    (h : ∀ h' t' k, (∀ b o, s.heap.get? b = some o → h'.get? b = some o) → Q (.str (sub x 0 j.toNat) t') { s with heap := h', toks := k }) :
    wpAny (model prog w) A (subscriptTail value (.Slice lo up none p) (.str x t) (.ref s.heap.objs.size)) Q E { s with heap := s.heap.push { cls := .type "slice", data := .fields #[.none, .int j tj, .none] } } := by
  refine sub_any (ops := [.ref s.heap.objs.size, .str x t]) ⟨"str", _, F.slot_str_getitem.lookup, typeIs_str _ _ _, wpAny_getItem_str_slice (l := none) (u := some (j, tj)) (st := none) ⟨_, Heap.get?_push_size _ rfl, rfl, rfl⟩ rfl
    (post_val_or_str ⟨Nat.le_trans (Txt.slice_le x _ _) (Nat.le_trans hx (by decide)), fun t' k => ?_⟩)⟩ rfl
  have e : Txt.slice x none (some j) = sub x 0 j.toNat := by
    have := beq_iff_eq.mp (slice_closes_toL hj0 hj)
    rw [this]; unfold sub; congr 3; omega
  have := h (s.heap.push { cls := .type "slice", data := .fields #[.none, .int j tj, .none] }) t' k fun b o e => Heap.get?_push_of_some _ e
  rw [← e] at this
  exact this
theorem seqIdx_last {n : Nat} (h : 0 < n) : seqIndex? (-1) n = some (n - 1) := by
  have e : seqIndex? (-1) n = if (decide (0 ≤ (-1 : Int) + n) && decide ((-1 : Int) + n < n)) = true then some ((-1 : Int) + n).toNat else none := rfl
  rw [e, if_pos (by simp; omega)]
  congr 1; omega
/-- one sign of a text -/
theorem item_s {value slice : Expr} {x : Str} {t u : Tok} {i : Int} {c : Nat} {Q : Value → Shared → Prop} (hi : 0 ≤ i) (hl : x.length ≤ 1000000) (hc : x.cps.toList[i.toNat]? = some c)
    (hs : subscripted slice false (.str x t) (.int i u) = operate [.str x t, .int i u] (getItem (.str x t) (.int i u)))
    (h : ∀ t' k, Q (.str ⟨#[c]⟩ t') { s with toks := k }) : wpAny (model prog w) A (subscriptTail value slice (.str x t) (.int i u)) Q E s := by
  have hlt : i.toNat < x.length := by
    have := (List.getElem?_eq_some_iff.mp hc).1
    simpa [Str.length] using this
  refine sub_any (ops := [.str x t, .int i u]) ⟨"str", _, F.slot_str_getitem.lookup, typeIs_str _ _ _, P.getItem_str (c := c) ?_ ?_ (h _ _)⟩ hs
  · simp; omega
  · rw [seqIndex_of hi (by omega)]
    simpa using hc
/-- the last sign of a text -/
theorem item_s1 {value slice : Expr} {x : Str} {t u : Tok} {c : Nat} {Q : Value → Shared → Prop} (hl : x.length ≤ 1000000) (hc : x.cps.toList[x.length - 1]? = some c)
    (hs : subscripted slice false (.str x t) (.int (-1) u) = operate [.str x t, .int (-1) u] (getItem (.str x t) (.int (-1) u)))
    (h : ∀ t' k, Q (.str ⟨#[c]⟩ t') { s with toks := k }) : wpAny (model prog w) A (subscriptTail value slice (.str x t) (.int (-1) u)) Q E s := by
  have hlt : x.length - 1 < x.length := by
    have := (List.getElem?_eq_some_iff.mp hc).1
    simpa [Str.length] using this
  refine sub_any (ops := [.str x t, .int (-1) u]) ⟨"str", _, F.slot_str_getitem.lookup, typeIs_str _ _ _, P.getItem_str (c := c) (by decide) ?_ (h _ _)⟩ hs
  rw [seqIdx_last (by omega)]
  simpa using hc
theorem truthy_s {x : Str} {t : Tok} {Q : Bool → Shared → Prop} (hx : x.length ≤ 1000000) (h : ∀ k, Q (decide (0 < x.length)) { s with toks := k }) : wpAny (model prog w) A (truthy (.str x t)) Q E s := by
  refine P.truthy_str (by omega) ?_
  have e : ((x.length : Int) != 0) = decide (0 < x.length) := by
    by_cases h0 : x.length = 0
    · rw [h0]; rfl
    · rw [decide_eq_true (by omega)]
      exact bne_iff_ne.mpr (by omega)
  rw [e]; exact h _
/-- a store into a local name -/
theorem st_any {M : Model} {x : Str} {v : Value} {h₀ : Heap} {L : Nat} {m : Str → Option Value} {Q : Unit → Shared → Prop} (F : Fr h₀ L s.heap m) (hL : env.locals = L) (hl : env.kindOf x = some .local)
    (hp : (env.scope.kind == .class || (env.scope.kind == .module && env.locals != env.globals)) = false)
    (h : ∀ h' k, Fr h₀ L h' (fun y => if y = x then some v else m y) → Heap.SameBut L s.heap h' → Q () { s with heap := h', toks := k }) : wpAny M A (storeName env x v) Q E s := by
  subst hL
  exact wpAny_storeName_local hl F.ns (fun h' hn hs => h h' _ (F.set hn hs) hs) hp
theorem isTrue_nm {x : Str} {p : Pos} {Q : Bool → Shared → Prop} (h : wpAny (model prog w) A (eval (.Name x p) env) (fun v s₁ => wpAny (model prog w) A (truthy v) Q E s₁) E s) :
    wpAny (model prog w) A (isTrue (.Name x p) env (eval (.Name x p) env)) Q E s := wpAny_isTrue_value h rfl
/-- an item of a list, an item of a tuple -/
theorem item_l {value slice : Expr} {l : Addr} {items : Array Value} {i : Int} {u : Tok} {v : Value} {Q : Value → Shared → Prop} (hl : s.heap.IsList l items) (hi : 0 ≤ i) (hf : i < 2 ^ 63) (hv : items[i.toNat]? = some v)
    (hs : subscripted slice false (.ref l) (.int i u) = operate [.ref l, .int i u] (getItem (.ref l) (.int i u))) (h : Q v s) : wpAny (model prog w) A (subscriptTail value slice (.ref l) (.int i u)) Q E s :=
  sub_any (ops := [.ref l, .int i u]) ⟨"list", _, list_getitem_lookup, hl.typeIs, wpAny_getItem_list hl hi hf hv h⟩ hs
theorem item_l1 {value slice : Expr} {l : Addr} {items : Array Value} {u : Tok} {v : Value} {Q : Value → Shared → Prop} (hl : s.heap.IsList l items) (hv : items[items.size - 1]? = some v)
    (hs : subscripted slice false (.ref l) (.int (-1) u) = operate [.ref l, .int (-1) u] (getItem (.ref l) (.int (-1) u))) (h : Q v s) : wpAny (model prog w) A (subscriptTail value slice (.ref l) (.int (-1) u)) Q E s := by
  have hlt : items.size - 1 < items.size := (Array.getElem?_eq_some_iff.mp hv).1
  exact sub_any (ops := [.ref l, .int (-1) u]) ⟨"list", _, list_getitem_lookup, hl.typeIs, wpAny_getItem_list_neg hl (by decide) (by omega) (by decide) (by rw [show ((-1 : Int) + items.size).toNat = items.size - 1 by omega]; exact hv) h⟩ hs
theorem item_t {value slice : Expr} {l : Addr} {items : Array Value} {i : Int} {u : Tok} {v : Value} {Q : Value → Shared → Prop} (hl : IsTup s.heap l items) (hi : 0 ≤ i) (hf : i < 2 ^ 63) (hv : items[i.toNat]? = some v)
    (hs : subscripted slice false (.ref l) (.int i u) = operate [.ref l, .int i u] (getItem (.ref l) (.int i u))) (h : Q v s) : wpAny (model prog w) A (subscriptTail value slice (.ref l) (.int i u)) Q E s := by
  have hlt : i.toNat < items.size := (Array.getElem?_eq_some_iff.mp hv).1
  exact sub_any (ops := [.ref l, .int i u]) ⟨"tuple", _, slot_tuple_getitem.lookup, hl.typeIs, getItem_tuple hl (by omega) hf (seqIndex_of hi (by omega)) hv h⟩ hs
/-- a cut of a list -/
theorem cut_l {value : Expr} {lo up : Option Expr} {p : Pos} {l : Addr} {items : Array Value} {vl vu : Value} {a b : Option Int} {Q : Value → Shared → Prop} (hl : s.heap.IsList l items) (pl : IsPart vl a) (pu : IsPart vu b) (hsz : items.size ≤ 1000000)
    (h : ∀ D h', s.heap.get? D = none → h'.PlainList D (slicePick items a b none) → (∀ b o, s.heap.get? b = some o → h'.get? b = some o) → Q (.ref D) { s with heap := h' }) :
    wpAny (model prog w) A (subscriptTail value (.Slice lo up none p) (.ref l) (.ref s.heap.objs.size)) Q E { s with heap := s.heap.push { cls := .type "slice", data := .fields #[vl, vu, .none] } } := by
  refine sub_any (ops := [.ref s.heap.objs.size, .ref l]) ⟨"list", _, list_getitem_lookup, Heap.IsList.typeIs (s := { s with heap := s.heap.push { cls := .type "slice", data := .fields #[vl, vu, .none] } }) (hl.push _),
    wpAny_getItem_list_slice (hl.push _) (Heap.IsSliceOf.new ..) pl pu .none (by simp) ?_ (Nat.le_trans hsz (by decide))⟩ rfl
  refine h _ _ ?_ ⟨_, Heap.get?_push_size _ rfl⟩ fun b o e => Heap.get?_push_of_some _ (Heap.get?_push_of_some _ e)
  exact Heap.get?_none_of_le (by show _ ≤ (s.heap.push _).objs.size; rw [Heap.size_push]; exact Nat.le_succ _)
end
end Mine
end

section
open PySem.Calls
set_option maxRecDepth 100000
set_option linter.unusedVariables false
namespace Mine
/-! the rules upon a state that is written out, and giving such states back -/
section
variable {prog : Program} {w : World} {A : Around} {E : Value → Shared → Prop} {env : Env} {hp : Heap} {ge : Array GenState} {dr : Drawn} {k₀ : Nat} {os : OsState} {Q : Value → Shared → Prop}

theorem c_int {M : Model} {i : Int} {k : Nat} {pos : Pos} (h : ∀ t k', Q (.int i t) ⟨hp, ge, dr, k', os⟩) : wpAny M A (eval (.Constant (.int i) k pos) env) Q E ⟨hp, ge, dr, k₀, os⟩ := wpAny_Constant_int (h _ _)
theorem c_str {M : Model} {x : Str} {k : Nat} {pos : Pos} (h : ∀ t k', Q (.str x t) ⟨hp, ge, dr, k', os⟩) : wpAny M A (eval (.Constant (.str x) k pos) env) Q E ⟨hp, ge, dr, k₀, os⟩ := Calls.Constant_str (h _ _)
theorem c_add {a b : Int} {t u : Tok} (h : ∀ t k', Q (.int (a + b) t) ⟨hp, ge, dr, k', os⟩) : wpAny (model prog w) A (binaryOp .Add (.int a t) (.int b u)) Q E ⟨hp, ge, dr, k₀, os⟩ := P.add_int (h _ _)
theorem c_sub {a b : Int} {t u : Tok} (h : ∀ t k', Q (.int (a - b) t) ⟨hp, ge, dr, k', os⟩) : wpAny (model prog w) A (binaryOp .Sub (.int a t) (.int b u)) Q E ⟨hp, ge, dr, k₀, os⟩ := P.sub_int (h _ _)
theorem c_neg {a : Int} {t : Tok} (h : ∀ t k', Q (.int (-a) t) ⟨hp, ge, dr, k', os⟩) : wpAny (model prog w) A (unaryOp .USub (.int a t)) Q E ⟨hp, ge, dr, k₀, os⟩ := P.neg_int (h _ _)
theorem c_mod {a b : Int} {t u : Tok} (hb : b ≠ 0) (h : ∀ t k', Q (.int (Int.fmod a b) t) ⟨hp, ge, dr, k', os⟩) : wpAny (model prog w) A (binaryOp .Mod (.int a t) (.int b u)) Q E ⟨hp, ge, dr, k₀, os⟩ := mod_int hb (h _ _)
theorem c_fdiv {a b : Int} {t u : Tok} (hb : b ≠ 0) (hn : Builtin.divisionGoesByPylong a b = false) (h : ∀ t k', Q (.int (Int.fdiv a b) t) ⟨hp, ge, dr, k', os⟩) : wpAny (model prog w) A (binaryOp .FloorDiv (.int a t) (.int b u)) Q E ⟨hp, ge, dr, k₀, os⟩ := floordiv_int hb (h _ _) (.inl hn)
theorem c_slice {M : Model} {lower upper step : Option Expr} {p : Pos} {s : Shared}
    (h : wpAny M A (evalPart lower env) (fun l s₁ => wpAny M A (evalPart upper env) (fun u s₂ => wpAny M A (evalPart step env) (fun st s₃ => ∀ h g d k o, s₃ = ⟨h, g, d, k, o⟩ →
      Q (.ref h.objs.size) ⟨h.push { cls := .type "slice", data := .fields #[l, u, st] }, g, d, k, o⟩) E s₂) E s₁) E s) :
    wpAny M A (eval (.Slice lower upper step p) env) Q E s :=
  wpAny_Slice (wpAny_mono h (fun _ _ h₁ => wpAny_mono h₁ (fun _ _ h₂ => wpAny_mono h₂ (fun _ s₃ h₃ => h₃ _ _ _ _ _ rfl) fun _ _ e => e) fun _ _ e => e) fun _ _ e => e)

theorem c_len {x : Str} {t : Tok} (hx : x.length ≤ 1000000) (h : ∀ t' k, Q (.int x.length t') ⟨hp, ge, dr, k, os⟩) : wpAny (model prog w) A (call (.builtin "len") [.str x t]) Q E ⟨hp, ge, dr, k₀, os⟩ := len_s hx h
theorem c_lenl {l : Addr} {items : Array Value} (hl : hp.IsList l items) (hx : items.size ≤ 1000000) (h : ∀ t' k, Q (.int items.size t') ⟨hp, ge, dr, k, os⟩) : wpAny (model prog w) A (call (.builtin "len") [.ref l]) Q E ⟨hp, ge, dr, k₀, os⟩ := len_l (s := ⟨hp, ge, dr, k₀, os⟩) hl hx h
theorem c_adds {x y : Str} {t u : Tok} (hx : x.length ≤ 1000000) (hy : y.length ≤ 1000000) (h : ∀ t' k, Q (.str (x ++ y) t') ⟨hp, ge, dr, k, os⟩) : wpAny (model prog w) A (binaryOp .Add (.str x t) (.str y u)) Q E ⟨hp, ge, dr, k₀, os⟩ := add_s hx hy h
theorem c_iadds {x y : Str} {t u : Tok} (hx : x.length ≤ 1000000) (hy : y.length ≤ 1000000) (h : ∀ t' k, Q (.str (x ++ y) t') ⟨hp, ge, dr, k, os⟩) : wpAny (model prog w) A (inplaceOp .Add (.str x t) (.str y u)) Q E ⟨hp, ge, dr, k₀, os⟩ := iadd_s hx hy h
theorem c_truthy {x : Str} {t : Tok} {Q : Bool → Shared → Prop} (hx : x.length ≤ 1000000) (h : ∀ k, Q (decide (0 < x.length)) ⟨hp, ge, dr, k, os⟩) : wpAny (model prog w) A (truthy (.str x t)) Q E ⟨hp, ge, dr, k₀, os⟩ := truthy_s hx h
theorem c_cut_ss {value : Expr} {lo up : Option Expr} {p : Pos} {x : Str} {t ti tj : Tok} {i j : Int} (hi : 0 ≤ i) (hij : i ≤ j) (hj : j ≤ x.length) (hx : x.length ≤ 1000000)
    (h : ∀ h' t' k, (∀ b o, hp.get? b = some o → h'.get? b = some o) → Q (.str (sub x i.toNat j.toNat) t') ⟨h', ge, dr, k, os⟩) :
    wpAny (model prog w) A (subscriptTail value (.Slice lo up none p) (.str x t) (.ref hp.objs.size)) Q E ⟨hp.push { cls := .type "slice", data := .fields #[.int i ti, .int j tj, .none] }, ge, dr, k₀, os⟩ :=
  cut_ss (s := ⟨hp, ge, dr, k₀, os⟩) hi hij hj hx h
theorem c_cut_sn {value : Expr} {lo up : Option Expr} {p : Pos} {x : Str} {t ti : Tok} {i : Int} (hi : 0 ≤ i) (hij : i ≤ x.length) (hx : x.length ≤ 1000000)
    (h : ∀ h' t' k, (∀ b o, hp.get? b = some o → h'.get? b = some o) → Q (.str (sub x i.toNat x.length) t') ⟨h', ge, dr, k, os⟩) :
    wpAny (model prog w) A (subscriptTail value (.Slice lo up none p) (.str x t) (.ref hp.objs.size)) Q E ⟨hp.push { cls := .type "slice", data := .fields #[.int i ti, .none, .none] }, ge, dr, k₀, os⟩ :=
  cut_sn (s := ⟨hp, ge, dr, k₀, os⟩) hi hij hx h
theorem c_cut_ns {value : Expr} {lo up : Option Expr} {p : Pos} {x : Str} {t tj : Tok} {j : Int} (hj0 : 0 ≤ j) (hj : j ≤ x.length) (hx : x.length ≤ 1000000)
    (h : ∀ h' t' k, (∀ b o, hp.get? b = some o → h'.get? b = some o) → Q (.str (sub x 0 j.toNat) t') ⟨h', ge, dr, k, os⟩) :
    wpAny (model prog w) A (subscriptTail value (.Slice lo up none p) (.str x t) (.ref hp.objs.size)) Q E ⟨hp.push { cls := .type "slice", data := .fields #[.none, .int j tj, .none] }, ge, dr, k₀, os⟩ :=
  cut_ns (s := ⟨hp, ge, dr, k₀, os⟩) hj0 hj hx h
theorem c_item_s {value slice : Expr} {x : Str} {t u : Tok} {i : Int} {c : Nat} (hi : 0 ≤ i) (hl : x.length ≤ 1000000) (hc : x.cps.toList[i.toNat]? = some c)
    (hs : subscripted slice false (.str x t) (.int i u) = operate [.str x t, .int i u] (getItem (.str x t) (.int i u)))
    (h : ∀ t' k, Q (.str ⟨#[c]⟩ t') ⟨hp, ge, dr, k, os⟩) : wpAny (model prog w) A (subscriptTail value slice (.str x t) (.int i u)) Q E ⟨hp, ge, dr, k₀, os⟩ := item_s hi hl hc hs h
theorem c_item_s1 {value slice : Expr} {x : Str} {t u : Tok} {c : Nat} (hl : x.length ≤ 1000000) (hc : x.cps.toList[x.length - 1]? = some c)
    (hs : subscripted slice false (.str x t) (.int (-1) u) = operate [.str x t, .int (-1) u] (getItem (.str x t) (.int (-1) u)))
    (h : ∀ t' k, Q (.str ⟨#[c]⟩ t') ⟨hp, ge, dr, k, os⟩) : wpAny (model prog w) A (subscriptTail value slice (.str x t) (.int (-1) u)) Q E ⟨hp, ge, dr, k₀, os⟩ := item_s1 hl hc hs h
theorem c_cut_l {value : Expr} {lo up : Option Expr} {p : Pos} {l : Addr} {items : Array Value} {vl vu : Value} {a b : Option Int} (hl : hp.IsList l items) (pl : IsPart vl a) (pu : IsPart vu b) (hsz : items.size ≤ 1000000)
    (h : ∀ D h', hp.get? D = none → h'.PlainList D (slicePick items a b none) → (∀ b o, hp.get? b = some o → h'.get? b = some o) → Q (.ref D) ⟨h', ge, dr, k₀, os⟩) :
    wpAny (model prog w) A (subscriptTail value (.Slice lo up none p) (.ref l) (.ref hp.objs.size)) Q E ⟨hp.push { cls := .type "slice", data := .fields #[vl, vu, .none] }, ge, dr, k₀, os⟩ :=
  cut_l (s := ⟨hp, ge, dr, k₀, os⟩) hl pl pu hsz h
theorem c_st {M : Model} {x : Str} {v : Value} {h₀ : Heap} {L : Nat} {m : Str → Option Value} {Q : Unit → Shared → Prop} (F : Fr h₀ L hp m) (hL : env.locals = L) (hl : env.kindOf x = some .local)
    (hpp : (env.scope.kind == .class || (env.scope.kind == .module && env.locals != env.globals)) = false)
    (h : ∀ h' k, Fr h₀ L h' (fun y => if y = x then some v else m y) → Heap.SameBut L hp h' → Q () ⟨h', ge, dr, k, os⟩) : wpAny M A (storeName env x v) Q E ⟨hp, ge, dr, k₀, os⟩ :=
  st_any (s := ⟨hp, ge, dr, k₀, os⟩) F hL hl hpp h

theorem c_join {elt : Expr} {gens : List Comprehension} {sc : Scope} {lp p apos pos : Pos} {k : Nat} (hline : (apos.endLine == pos.line) = true)
    (h : ∀ t, wpAny (model prog w) A (eval (.ListComp elt gens sc lp) env) (fun v s₁ => ∃ D items ys, v = .ref D ∧ s₁.heap.IsList D items ∧ Paired IsS items.toList ys ∧ (∀ y ∈ ys, y.length ≤ 1000) ∧ ys.length ≤ 1000 ∧
      ∀ h g d k o, s₁ = ⟨h, g, d, k, o⟩ → ∀ t' k', Q (.str (cat ys) t') ⟨h, g, d, k', o⟩) E ⟨hp, ge, dr, t, os⟩) :
    wpAny (model prog w) A (eval (.Call (.Attribute (.Constant (.str (Str.ofString "")) k p) (Str.ofString "join") apos) [.ListComp elt gens sc lp] [] pos) env) Q E ⟨hp, ge, dr, k₀, os⟩ := by
  refine call_join hline fun t => wpAny_mono (h t) (fun v s₁ h₁ => ?_) fun _ _ e => e
  obtain ⟨D, items, ys, a1, a2, a3, a4, a5, hq⟩ := h₁
  exact ⟨D, items, ys, a1, a2, a3, a4, a5, fun t' k' => hq _ _ _ _ _ rfl t' k'⟩
theorem c_upper {x : Str} {p apos pos : Pos} {s : Shared} (hline : (apos.endLine == pos.line) = true)
    (h : wpAny (model prog w) A (eval (.Name x p) env) (fun v s₁ => ∃ a t, v = .str a t ∧ a.length ≤ 1000000 ∧ ∀ h g d k o, s₁ = ⟨h, g, d, k, o⟩ → ∀ t' k', Q (.str (Txt.upper a) t') ⟨h, g, d, k', o⟩) E s) :
    wpAny (model prog w) A (eval (.Call (.Attribute (.Name x p) (Str.ofString "upper") apos) [] [] pos) env) Q E s :=
  call_upper hline (wpAny_mono h (fun v s₁ ⟨a, t, e, hl, hq⟩ => ⟨a, t, e, hl, fun t' k' => hq _ _ _ _ _ rfl t' k'⟩) fun _ _ e => e)
theorem c_lower {x : Str} {p apos pos : Pos} {s : Shared} (hline : (apos.endLine == pos.line) = true)
    (h : wpAny (model prog w) A (eval (.Name x p) env) (fun v s₁ => ∃ a t, v = .str a t ∧ a.length ≤ 1000000 ∧ ∀ h g d k o, s₁ = ⟨h, g, d, k, o⟩ → ∀ t' k', Q (.str (Txt.lower a) t') ⟨h, g, d, k', o⟩) E s) :
    wpAny (model prog w) A (eval (.Call (.Attribute (.Name x p) (Str.ofString "lower") apos) [] [] pos) env) Q E s :=
  call_lower hline (wpAny_mono h (fun v s₁ ⟨a, t, e, hl, hq⟩ => ⟨a, t, e, hl, fun t' k' => hq _ _ _ _ _ rfl t' k'⟩) fun _ _ e => e)
theorem c_upperX {v i : Expr} {sp apos pos : Pos} {s : Shared} (hline : (apos.endLine == pos.line) = true)
    (h : wpAny (model prog w) A (eval (.Subscript v i sp) env) (fun v s₁ => ∃ a t, v = .str a t ∧ a.length ≤ 1000000 ∧ ∀ h g d k o, s₁ = ⟨h, g, d, k, o⟩ → ∀ t' k', Q (.str (Txt.upper a) t') ⟨h, g, d, k', o⟩) E s) :
    wpAny (model prog w) A (eval (.Call (.Attribute (.Subscript v i sp) (Str.ofString "upper") apos) [] [] pos) env) Q E s :=
  call_upperX hline (wpAny_mono h (fun v s₁ ⟨a, t, e, hl, hq⟩ => ⟨a, t, e, hl, fun t' k' => hq _ _ _ _ _ rfl t' k'⟩) fun _ _ e => e)
theorem c_lowerX {v i : Expr} {sp apos pos : Pos} {s : Shared} (hline : (apos.endLine == pos.line) = true)
    (h : wpAny (model prog w) A (eval (.Subscript v i sp) env) (fun v s₁ => ∃ a t, v = .str a t ∧ a.length ≤ 1000000 ∧ ∀ h g d k o, s₁ = ⟨h, g, d, k, o⟩ → ∀ t' k', Q (.str (Txt.lower a) t') ⟨h, g, d, k', o⟩) E s) :
    wpAny (model prog w) A (eval (.Call (.Attribute (.Subscript v i sp) (Str.ofString "lower") apos) [] [] pos) env) Q E s :=
  call_lowerX hline (wpAny_mono h (fun v s₁ ⟨a, t, e, hl, hq⟩ => ⟨a, t, e, hl, fun t' k' => hq _ _ _ _ _ rfl t' k'⟩) fun _ _ e => e)
end
end Mine
end

section
open PySem.Calls
set_option maxRecDepth 100000
set_option linter.unusedVariables false
namespace Mine
section
variable {prog : Program} {w : World} {A : Around} {E : Value → Shared → Prop} {env : Env} {hp : Heap} {ge : Array GenState} {dr : Drawn} {k₀ : Nat} {os : OsState} {Q : Value → Shared → Prop}

theorem c_list {M : Model} {elts : List Expr} {pos : Pos} {s : Shared}
    (h : wpAny M A (spliced (backTo pos (starEach elts env))) (fun vs s₁ => vs.length ≤ 1000000 ∧ ∀ h g d k o, s₁ = ⟨h, g, d, k, o⟩ → ∀ D h', h.get? D = none → h'.PlainList D vs.toArray → (∀ b o, h.get? b = some o → h'.get? b = some o) → Q (.ref D) ⟨h', g, d, k, o⟩) E s) :
    wpAny M A (eval (.List elts pos) env) Q E s :=
  wpAny_List (wpAny_mono h (fun vs s₁ ⟨hl, h₁⟩ => ⟨Nat.le_trans hl (by decide), h₁ _ _ _ _ _ rfl _ _ (Heap.get?_none_of_le (Nat.le_refl _)) ⟨0, Heap.get?_push_size _ rfl⟩ fun b o e => Heap.get?_push_of_some _ e⟩) fun _ _ e => e)
theorem c_tuple {M : Model} {elts : List Expr} {k : Nat} {pos : Pos} {s : Shared}
    (h : wpAny M A (spliced (backTo pos (starEach elts env))) (fun vs s₁ => vs.length ≤ 1000000 ∧ ∀ h g d k o, s₁ = ⟨h, g, d, k, o⟩ → ∀ D h', h.get? D = none → IsTup h' D vs.toArray → (∀ b o, h.get? b = some o → h'.get? b = some o) → Q (.ref D) ⟨h', g, d, k, o⟩) E s) :
    wpAny M A (eval (.Tuple elts k pos) env) Q E s :=
  wpAny_Tuple (wpAny_mono h (fun vs s₁ ⟨hl, h₁⟩ => ⟨Nat.le_trans hl (by decide), h₁ _ _ _ _ _ rfl _ _ (Heap.get?_none_of_le (Nat.le_refl _)) ⟨_, Heap.get?_push_size _ rfl, rfl, 0, rfl⟩ fun b o e => Heap.get?_push_of_some _ e⟩) fun _ _ e => e)

theorem c_addl {l b : Addr} {vs ws : Array Value} (hl : hp.IsList l vs) (hb : hp.IsList b ws) (hsz : vs.size + ws.size ≤ 1000000)
    (h : ∀ D h', hp.get? D = none → h'.PlainList D (vs ++ ws) → (∀ b o, hp.get? b = some o → h'.get? b = some o) → Q (.ref D) ⟨h', ge, dr, k₀, os⟩) : wpAny (model prog w) A (binaryOp .Add (.ref l) (.ref b)) Q E ⟨hp, ge, dr, k₀, os⟩ := by
  obtain ⟨⟨cls, dd, data, sl⟩, ho, hc, n, hd⟩ := id hl
  obtain ⟨⟨cls2, dd2, data2, sl2⟩, ho2, hc2, n2, hd2⟩ := id hb
  simp only at hc hd hc2 hd2
  subst hc hd hc2 hd2
  refine concat_meets (s := ⟨hp, ge, dr, k₀, os⟩) ⟨_, ho, rfl⟩ ⟨_, ho2, rfl⟩ noFill_list_add seq_list_add PySem.F.slot_list_add PySem.F.entry_list_add (PySem.F.args_list_add_2 _ _) (list_addW l b vs ws n n2 dd dd2 sl sl2 (Nat.le_trans hsz (by decide))) ⟨ho, ho2, ?_⟩
  exact h _ _ (Heap.get?_none_of_le (Nat.le_refl _)) ⟨_, Heap.get?_push_size _ rfl⟩ fun b o e => Heap.get?_push_of_some _ e

theorem c_mull {l : Addr} {items : Array Value} {u : Tok} (hl : hp.PlainList l items) (hne : 0 < items.size) (hsz : items.size ≤ 1000)
    (h : ∀ D h', hp.get? D = none → h'.PlainList D (items ++ items) → (∀ b o, hp.get? b = some o → h'.get? b = some o) → Q (.ref D) ⟨h', ge, dr, k₀, os⟩) : wpAny (model prog w) A (binaryOp .Mult (.ref l) (.int 2 u)) Q E ⟨hp, ge, dr, k₀, os⟩ := by
  obtain ⟨n, hl⟩ := hl
  refine wpAny_binaryOp_repeat_ref (s := ⟨hp, ge, dr, k₀, os⟩) (T := "list") (U := "int") (by decide) ⟨_, hl, rfl⟩ (fun s' => typeIs_int s' 2 u) noFill_list_mul F.fills_int_mul F.slot_int_rmul repeat_list F.slot_int_index.lookup
    (call_meets F.slot_int_rmul (typeIs_int _ 2 u) F.entry_int_rmul (F.args_int_rmul_2 _ _) (int___rmul___int_list 2 u l items n)
      ⟨hl, rfl, ⟨_, hl, rfl⟩, call_meets F.slot_list_mul ⟨_, hl, rfl⟩ F.entry_list_mul (F.args_list_mul_2 _ _)
        (AutoListH.list___mul___list_int_3 l items n 2 u (by simp [Builtin.List.listFitsIndex]) (by have q : items.size * (2 : Int).toNat = items.size * 2 := rfl; omega) (by simp [Builtin.List.listTooLong, sizeLine]; omega))
        ⟨hl, ?_⟩⟩)
  have e : List.foldl (fun x1 x2 => x1 ++ x2) #[] (List.replicate (if items.isEmpty = true then 0 else (2 : Int).toNat) items) = items ++ items := by
    rw [if_neg (by simp; intro q; rw [q] at hne; exact absurd hne (by decide))]
    show ((#[] : Array Value) ++ items) ++ items = _
    simp
  rw [e]
  exact h _ _ (Heap.get?_none_of_le (Nat.le_refl _)) ⟨_, Heap.get?_push_size _ rfl⟩ fun b o e => Heap.get?_push_of_some _ e

theorem c_range1 {n : Int} {t : Tok} (h : ∀ r h' k t u v, IsRange h' r 0 n 1 t u v → (∀ b o, hp.get? b = some o → h'.get? b = some o) → Q (.ref r) ⟨h', ge, dr, k, os⟩) : wpAny (model prog w) A (call (.type "range") [.int n t]) Q E ⟨hp, ge, dr, k₀, os⟩ :=
  call_range_1 (s := ⟨hp, ge, dr, k₀, os⟩) (h _ _ _ _ _ _ (Heap.get?_push_size _ rfl) fun b o e => Heap.get?_push_of_some _ e)
theorem c_range3 {a b c : Int} {t u v : Tok} (hc : c ≠ 0) (hd : Builtin.divisionGoesByPylong (b - a) c = false) (h : ∀ r h' k t u v, IsRange h' r a b c t u v → (∀ b o, hp.get? b = some o → h'.get? b = some o) → Q (.ref r) ⟨h', ge, dr, k, os⟩) : wpAny (model prog w) A (call (.type "range") [.int a t, .int b u, .int c v]) Q E ⟨hp, ge, dr, k₀, os⟩ :=
  call_range_3 (s := ⟨hp, ge, dr, k₀, os⟩) hc (h _ _ _ _ _ _ (Heap.get?_push_size _ rfl) fun b o e => Heap.get?_push_of_some _ e) (.inl hd)
theorem c_min {a b : Int} {t u : Tok} (hh : A.handled = none) (h : ∀ h' k t', (∀ b o, hp.get? b = some o → h'.get? b = some o) → Q (.int (min a b) t') ⟨h', ge, dr, k, os⟩) : wpAny (model prog w) A (call (.builtin "min") [.int a t, .int b u]) Q E ⟨hp, ge, dr, k₀, os⟩ := by
  refine min_two_ints (s := ⟨hp, ge, dr, k₀, os⟩) hh fun h' tk hk => ?_
  by_cases hc : b < a
  · rw [if_pos hc]
    have := h h' tk u hk
    rw [show min a b = b by omega] at this
    exact this
  · rw [if_neg hc]
    have := h h' tk t hk
    rw [show min a b = a by omega] at this
    exact this
theorem c_stc {M : Model} {x : Str} {v : Value} {h₀ : Heap} {L c : Nat} {m : Str → Option Value} {v₀ : Option Value} {Q : Unit → Shared → Prop} (F : Fr h₀ L hp m) (hk : env.scope.kind = .function) (hl : env.kindOf x = some .cell) (hc : env.cells.lookup x = some c) (hv : hp.IsCell c v₀) (hLc : L < c)
    (h : ∀ h', Fr h₀ L h' m → h'.IsCell c (some v) → Heap.SameBut c hp h' → Q () ⟨h', ge, dr, k₀, os⟩) : wpAny M A (storeName env x v) Q E ⟨hp, ge, dr, k₀, os⟩ :=
  wpAny_storeName_cell (s := ⟨hp, ge, dr, k₀, os⟩) hk hl hc hv fun h' hc' hs => h h' ⟨F.ns.sameBut hs (Nat.ne_of_lt hLc), fun b o e => hs.extBut b o (Nat.ne_of_lt (Nat.lt_trans (Nat.lt_of_lt_of_le (Heap.lt_size e) F.above) hLc)) (F.keep b o e), F.above⟩ hc' hs
end
end Mine
end

section
open PySem.Calls
set_option maxRecDepth 100000
namespace Mine
section
variable {prog : Program} {w : World} {A : Around} {E : Value → Shared → Prop} {s : Shared} {env : Env}
/-- a list comprehension over a list, bound to a local name in one go -/
theorem asg_comp_list {elt iter : Expr} {x y : Str} {px py : Pos} {scope : Scope} {cl : List (Str × Addr)} {pos spos : Pos} {Q : Flow → Shared → Prop} {g : Heap} {L : Nat} {m₀ : Str → Option Value} (_F₀ : Fr g L s.heap m₀) (F : Value → Value → Prop)
    (hsw : swapsWith (.ListComp elt [⟨.Name x px, iter, [], 0⟩] scope pos) (some (.Name y py)) spos.line env = pure true)
    (hclos : closureFor scope env = pure cl) (hcell : ∀ y ∈ scope.names, y.2 ≠ .cell) (hkind : scope.kind = .function)
    (hnames : ∀ y ∈ scope.names, y.2 = .local → scope.names.lookup y.1 = some .local) (hx : scope.names.lookup x = some .local) (hh : A.handled = none)
    (hy : env.kindOf y = some .local) (hp : (env.scope.kind == .class || (env.scope.kind == .module && env.locals != env.globals)) = false) (hL : env.locals = L)
    (h : wpAny (model prog w) A (eval iter env) (fun xv s₁ => ∃ l items m, xv = .ref l ∧ Fr g L s₁.heap m ∧ s₁.heap.IsList l items ∧ items.size ≤ sizeLine ∧
      (∀ C v s₃ m₃ E', v ∈ items.toList → s₃.heap.Ns C m₃ → m₃ x = some v → (∀ b o, s₁.heap.get? b = some o → s₃.heap.get? b = some o) →
        wpAny (model prog w) A (eval elt (compEnvC scope cl C env)) (fun y s₄ => F v y ∧ Keeps s₃ s₄) E' s₃) ∧
      (∀ D h' tk ys, s₁.heap.get? D = none → h'.PlainList D ys → Paired F items.toList ys.toList → Fr g L h' (fun z => if z = y then some (.ref D) else m z) → (∀ b o, b ≠ L → s₁.heap.get? b = some o → h'.get? b = some o) → Q .next { s₁ with heap := h', toks := tk })) E s)
    (hs : ∀ x, foldedSetIterable iter env x = pure x := by intro _; rfl) :
    wpAny (model prog w) A (exec (.Assign [.Name y py] (.ListComp elt [⟨.Name x px, iter, [], 0⟩] scope pos) spos) env) Q E s := by
  subst hL
  refine wpAny_Assign_ListComp_free (fun _ => true) F hsw hclos hcell hkind hnames hx hy hp (wpAny_mono h (fun xv s₁ h₁ => ?_) fun _ _ e => e) hs
  obtain ⟨l, items, m, rfl, Fm, hl, hsz, helt, hQ⟩ := h₁
  have hlt : l < s₁.heap.objs.size := by obtain ⟨_, e, _⟩ := hl; exact Heap.lt_size e
  refine wpAny_pyIter_list hl ?_
  refine ⟨s₁.heap.objs.size, [s₁.heap.objs.size, l], [s₁.heap.objs.size], items.size, _, _, m, rfl, Walks.list hh _ l (Nat.ne_of_lt hlt) items, hsz,
    ⟨⟨_, Heap.get?_push_size _ rfl, rfl, rfl⟩, hl.at fun o e => Heap.get?_push_of_some _ e⟩, ?_, ?_, ?_, ⟨?_, ?_⟩, ?_⟩
  · intro b hb
    show b < (s₁.heap.push _).objs.size
    rw [Heap.size_push]
    rcases List.mem_cons.mp hb with rfl | hb
    · exact Nat.lt_succ_self _
    · rw [List.mem_singleton.mp hb]; exact Nat.lt_succ_of_lt hlt
  · intro hm
    have := Fm.ns.lt
    rw [List.mem_singleton.mp hm] at this
    exact Nat.lt_irrefl _ this
  · exact Fm.ns.at' fun o e => Heap.get?_push_of_some _ e
  · intro C i v s₃ m₃ E' _ _ _ _ _ _
    exact wpAny_pure ⟨rfl, s₃.heap, s₃.toks, rfl, fun _ _ e => e⟩
  · intro C i v s₃ m₃ E' _ hP _ hn hm hk _
    exact helt C v s₃ m₃ E' (by obtain ⟨h1, rfl⟩ := Array.getElem?_eq_some_iff.mp hP; simp) hn hm fun b o e => hk b o (not_new_of_old e) (Heap.get?_push_of_some _ e)
  · intro D h' tk ys vs hnew _ hplD hlen hP hF hn hk
    have e' : vs = items.toList := walked_is hlen hP
    subst e'
    have kp : ∀ b o, b ≠ env.locals → s₁.heap.get? b = some o → h'.get? b = some o := fun b o hb e => hk b o hb (not_new_of_old e) (Heap.get?_push_of_some _ e)
    refine hQ D h' tk ys ?_ hplD (by rw [List.filter_eq_self.mpr (fun _ _ => rfl)] at hF; exact hF) ⟨hn, fun b o e => kp b o (Nat.ne_of_lt (Nat.lt_of_lt_of_le (Heap.lt_size e) Fm.above)) (Fm.keep b o e), Fm.above⟩ kp
    cases e : s₁.heap.get? D with
    | none => rfl
    | some o' => rw [Heap.get?_push_of_some _ e] at hnew; cases hnew
end
end Mine
end

section
open PySem.Calls
set_option maxRecDepth 100000
namespace Mine
section
variable {prog : Program} {w : World} {A : Around} {E : Value → Shared → Prop} {env : Env} {hp : Heap} {ge : Array GenState} {dr : Drawn} {k₀ : Nat} {os : OsState} {Q : Value → Shared → Prop}
theorem call_append {x : Str} {p apos pos : Pos} {e : Expr} {s : Shared} (hline : (apos.endLine == pos.line) = true)
    (hfew : ((backTo pos (starEach [e] env)).all (fun x => !x.1) && (backToKw pos (keywordEach [] env)).all (fun x => x.1.isSome)
      && decide ([e].length + ([] : List Keyword).length + (if ([] : List Keyword).isEmpty then 0 else 1) < 30)) = true)
    (he : starEach [e] env = (false, eval e env) :: starEach [] env) (hplain : (backTo pos (starEach [] env)).any (·.1) = false)
    (h : wpAny (model prog w) A (eval (.Name x p) env) (fun ov s₁ => ∃ D items, ov = .ref D ∧ s₁.heap.PlainList D items ∧ 
      wpAny (model prog w) A (spliced (backTo pos (starEach [e] env))) (fun vs s₂ => ∃ v, vs = [v] ∧ s₂.heap.PlainList D items ∧ items.size ≤ 1000 ∧ ∀ h g d k o, s₂ = ⟨h, g, d, k, o⟩ → ∀ h', h'.PlainList D (items.push v) → Heap.SameBut D h h' → Q .none ⟨h', g, d, k, o⟩) E s₁) E s) :
    wpAny (model prog w) A (eval (.Call (.Attribute (.Name x p) (Str.ofString "append") apos) [e] [] pos) env) Q E s := by
  refine wpAny_Call_method_lateS rfl hfew hline (wpAny_mono h (fun ov s₁ h₁ => ?_) fun _ _ x => x)
  obtain ⟨D, items, rfl, hl, h₁⟩ := h₁
  refine ⟨"list", "list.append", F.plainAttrs_list, slot_list_append, type_list_append, ⟨_, hl.choose_spec, rfl⟩, fun a ea => ?_, callWith_method1 (wpAny_mono h₁ (fun vs s₂ h₂ => ?_) fun _ _ x => x) he hplain⟩
  · cases ea; exact ⟨_, hl.choose_spec, rfl⟩
  · obtain ⟨v, rfl, hl2, hsz, hq⟩ := h₂
    obtain ⟨hp, g, d, k, o⟩ := s₂
    exact wpAny_list_append_plain hl2 (fun h' a b => hq _ _ _ _ _ rfl h' a b) (Nat.le_trans hsz (by decide))
theorem c_mul {a b : Int} {t u : Tok} (hm : IntMulOk a b) (h : ∀ t k', Q (.int (a * b) t) ⟨hp, ge, dr, k', os⟩) : wpAny (model prog w) A (binaryOp .Mult (.int a t) (.int b u)) Q E ⟨hp, ge, dr, k₀, os⟩ := P.mul_int (h _ _) hm
theorem c_max {a b : Int} {t u : Tok} (hh : A.handled = none) (h : ∀ h' k t', (∀ b o, hp.get? b = some o → h'.get? b = some o) → Q (.int (max a b) t') ⟨h', ge, dr, k, os⟩) : wpAny (model prog w) A (call (.builtin "max") [.int a t, .int b u]) Q E ⟨hp, ge, dr, k₀, os⟩ := by
  refine max_two_ints (s := ⟨hp, ge, dr, k₀, os⟩) hh fun h' tk hk => ?_
  by_cases hc : b > a
  · rw [if_pos hc]
    have := h h' tk u hk
    rw [show max a b = b by omega] at this
    exact this
  · rw [if_neg hc]
    have := h h' tk t hk
    rw [show max a b = a by omega] at this
    exact this
end
end Mine
end

section
open PySem.Calls
namespace Mine
set_option maxRecDepth 100000
local macro_rules | `(tactic| walk_at "m1") => `(tactic| first
  | with_reducible refine wpAny_execs_cons ?_
  | with_reducible refine wpAny_execs_nil ?_
  | with_reducible refine wpAny_Return_some ?_
  | with_reducible refine wpAny_If ?_
  | with_reducible refine wpAny_isTrue_Compare1 ?_ (by k_dflt rfl)
  | with_reducible refine wpAny_Compare1 ?_ (by k_dflt rfl)
  | with_reducible refine wpAny_BinOp ?_
  | with_reducible refine wpAny_IfExp ?_
  | with_reducible refine wpAny_Constant_int ?_
  | with_reducible refine Calls.Constant_str ?_
  | with_reducible refine wpAny_Constant_bool ?_
  | with_reducible refine wpAny_Constant_none ?_
  | with_reducible refine wpAny_truthy_bool ?_
  | with_reducible refine Subscript_ ?_
  | with_reducible refine wpAny_Slice ?_
  | with_reducible refine evalPart_none_step ?_
  | with_reducible refine evalPart_some_step ?_
  | with_reducible refine spliced_none ?_
  | with_reducible refine spliced_more ?_ (by k_dflt rfl)
  | with_reducible refine wpAny_Call_NameR ?_
  | with_reducible refine callWith_builtin1 ?_ (by k_dflt rfl) (by k_dflt rfl)
  | with_reducible refine callWith_type1 ?_ (by k_dflt rfl) (by k_dflt rfl)
  | with_reducible refine callWith_method0 ?_
  | with_reducible refine callWith_method1 ?_ (by k_dflt rfl) (by k_dflt rfl)
  | with_reducible refine P.ne_int ?_
  | with_reducible refine P.eq_int ?_
  | with_reducible refine P.lt_int ?_
  | with_reducible refine P.gt_int ?_
  | with_reducible refine wpAny_Assign_Name ?_ (by k_dflt rfl)
  | with_reducible refine wpAny_AugAssign_Name ?_
  | walk_at "mname")
local macro_rules | `(tactic| walk_at "mname") => `(tactic| first
  | with_reducible refine ld (by assumption) (by k_dflt rfl) ?_ (by k_dflt rfl) (by k_dflt rfl) (by decide)
  | with_reducible refine ldLoc (by assumption) (by k_dflt rfl) ?_ (by k_dflt rfl) (by k_dflt rfl) (by decide)
  | with_reducible refine ldC (by assumption) (by k_dflt rfl) (by k_dflt rfl) ?_ (by k_dflt rfl) (by k_dflt rfl) (by decide)
  | with_reducible refine ldVarK (by k_dflt assumption) (by assumption) ?_ (by k_dflt rfl) (by k_dflt rfl) (by decide)
  | with_reducible refine nmB (by assumption) (by assumption) (by first | assumption | exact Fr.keep (by assumption)) (by kernel_rfl) (by boot_by_name) (by decide) ?_ (by k_dflt rfl) (by k_dflt rfl) (by k_dflt rfl) (by k_dflt rfl) (by decide)
  | with_reducible refine nmG (by assumption) (by assumption) (by first | assumption | exact Fr.keep (by assumption)) (by kernel_rfl) ?_ (by k_dflt rfl) (by k_dflt rfl) (by k_dflt rfl) (by decide))

noncomputable abbrev K1 (w : World) : Frag := hd02.heap_39 w.params
abbrev P1 : Program := PySem.Challenge.rw_gb5018_02.row.prog
def mt (c d : Nat) : Str := if Txt.isupper ⟨#[c]⟩ = true then Txt.upper ⟨#[d]⟩ else Txt.lower ⟨#[d]⟩
def matchS (a b : Str) : Str := cat (List.zipWith mt a.cps.toList b.cps.toList)
theorem len_mt (c d : Nat) : (mt c d).length ≤ 3 := by
  unfold mt
  split
  · exact len_upper _
  · exact len_lower _
theorem len_zip_mt (a b : List Nat) : ∀ y ∈ List.zipWith mt a b, y.length ≤ 3 := fun y hy => by
  obtain ⟨i, h1, rfl⟩ := List.mem_iff_getElem.mp hy
  rw [List.getElem_zipWith]; exact len_mt _ _

theorem matching_spec {w : World} {A : Around} {R : Result → Shared → Prop} {s : Shared} {mg mb : Str → Option Value} {p : Program} {loose : List Str} {a b : Str} {ta tb : Tok}
    (X : (K1 w).In s.heap) (T : TopRead p loose mg mb s.heap) (hroom : A.depth < 900) (hh : A.handled = none) (hlen : a.length = b.length) (hsz : a.length ≤ 100)
    (h : ∀ t h' k, (∀ b o, s.heap.get? b = some o → h'.get? b = some o) → R (.ok (.ret (.str (matchS a b) t))) { s with heap := h', toks := k })
    : codeAny (model P1 w) A (.call (.ref 19) ⟨[.str a ta, .str b tb], []⟩) R s := by
  refine enter_def (K := K1 w) [("cased_text", .str a ta), ("uncased_text", .str b tb)] X T.nolimit (by rfl) (by kernel_rfl) (Nat.lt_of_lt_of_le hroom (by decide)) (BindsTo.of_eq rfl) (by exact locs rfl) (by decide) rfl rfl rfl ?_
  intro L h₁ hL F
  repeat walk_at "m1"
  refine len_s ?_ fun t k => ?_
  · omega
  repeat walk_at "m1"
  refine len_s ?_ fun t k => ?_
  · omega
  repeat walk_at "m1"
  refine ite_neg (by simp [hlen]) ?_
  walk_at "m1"
  dsimp only
  walk_at "m1"
  walk_at "m1"
  refine call_join rfl fun t => ?_
  refine comp_zip (a := a) (b := b) mt rfl (by decide) rfl (by decide) rfl rfl (by decide) hh (by show a.length ≤ _; omega) ?_
  repeat walk_at "m1"
  refine call_zip_strs fun h' n hn hz hTI hTO hi1 hi2 hsz' hk => ?_
  refine ⟨n, ta, tb, hn, rfl, hz, hTI, hTO, hi1, hi2, hsz', hk, ?_, ?_⟩
  · intro C c d t u s₃ m₃ E' hn3 hm1 hm2 hk3
    refine wpAny_IfExp (isTrue_call (call_isupper rfl ?_))
    walk_at "m1"
    refine ⟨_, _, rfl, _, rfl, ?_⟩
    by_cases hc : Txt.isupper ⟨#[c]⟩ = true
    · refine ite_pos hc (call_upper rfl ?_)
      walk_at "m1"
      refine ⟨_, _, rfl, by show 1 ≤ _; decide, fun t' k => ⟨⟨t', ?_⟩, _, _, rfl, fun _ _ e => e⟩⟩
      rw [mt, if_pos hc]
    · refine ite_neg hc (call_lower rfl ?_)
      walk_at "m1"
      refine ⟨_, _, rfl, by show 1 ≤ _; decide, fun t' k => ⟨⟨t', ?_⟩, _, _, rfl, fun _ _ e => e⟩⟩
      rw [mt, if_neg hc]
  · intro D h'' tk ys hD hl hP hk2
    refine ⟨D, ys, _, rfl, hl.isList, hP, fun y hy => Nat.le_trans (len_zip_mt _ _ y hy) (by decide), ?_, fun t' k => ?_⟩
    · rw [List.length_zipWith]; have : a.cps.toList.length = a.length := by simp [Str.length]
      omega
    · exact h t' h'' k fun b o e => hk2 b o (F.keep b o e)
end Mine
end

section
open PySem.Calls
namespace Mine
set_option maxRecDepth 100000
local macro_rules | `(tactic| walk_at "m1") => `(tactic| first
  | with_reducible refine wpAny_execs_cons ?_
  | with_reducible refine wpAny_execs_nil ?_
  | with_reducible refine wpAny_Return_some ?_
  | with_reducible refine wpAny_If ?_
  | ((with_reducible show wpAny _ _ (PySem.isTrue (Expr.Compare _ _ _ _) _ _) _ _ _); with_reducible refine wpAny_isTrue_Compare1 ?_ (by k_dflt rfl))
  | with_reducible refine wpAny_isTrue_Not ?_
  | with_reducible refine wpAny_isTrue_BoolOp ?_
  | with_reducible refine wpAny_allTrue_Or_cons ?_
  | with_reducible refine wpAny_allTrue_Or_nil ?_
  | with_reducible refine wpAny_allTrue_And_cons ?_
  | with_reducible refine wpAny_allTrue_And_nil ?_
  | with_reducible refine wpAny_UnaryOp ?_
  | with_reducible refine c_neg fun _ _ => ?_
  | with_reducible refine isTrue_nm ?_
  | with_reducible refine wpAny_Continue ?_
  | with_reducible refine assignInOrder_cons ?_
  | with_reducible refine assignInOrder_nil ?_
  | with_reducible refine wpAny_assign_Name ?_
  | ((with_reducible show wpAny _ _ (eval (Expr.Compare _ _ _ _) _) _ _ _); with_reducible refine wpAny_Compare1 ?_ (by k_dflt rfl))
  | with_reducible refine wpAny_BinOp ?_
  | with_reducible refine wpAny_IfExp ?_
  | with_reducible refine c_int fun _ _ => ?_
  | with_reducible refine c_str fun _ _ => ?_
  | with_reducible refine wpAny_Constant_bool ?_
  | with_reducible refine wpAny_Constant_none ?_
  | with_reducible refine wpAny_truthy_bool ?_
  | with_reducible refine Subscript_ ?_
  | with_reducible refine c_slice ?_
  | ((with_reducible show ∀ (_ : Heap) (_ : Array GenState) (_ : Drawn) (_ : Nat) (_ : OsState), Shared.mk _ _ _ _ _ = _ → _); intro _ _ _ _ _ e; cases e)
  | with_reducible refine evalPart_none_step ?_
  | with_reducible refine evalPart_some_step ?_
  | with_reducible refine spliced_none ?_
  | ((with_reducible show wpAny _ _ (spliced _) _ _ _); with_reducible refine spliced_more ?_ (by k_dflt rfl))
  | with_reducible refine wpAny_Call_NameR ?_
  | ((with_reducible show wpAny _ _ (callWith _ _ _ _ _) _ _ _); with_reducible refine callWith_builtin1 ?_ (by k_dflt rfl) (by k_dflt rfl))
  | ((with_reducible show wpAny _ _ (callWith _ _ _ _ _) _ _ _); with_reducible refine callWith_type1 ?_ (by k_dflt rfl) (by k_dflt rfl))
  | ((with_reducible show wpAny _ _ (callWith _ _ _ _ _) _ _ _); with_reducible refine callWith_method0 ?_)
  | ((with_reducible show wpAny _ _ (callWith _ _ _ _ _) _ _ _); with_reducible refine callWith_method1 ?_ (by k_dflt rfl) (by k_dflt rfl))
  | with_reducible refine P.ne_int ?_
  | with_reducible refine P.eq_int ?_
  | with_reducible refine P.lt_int ?_
  | with_reducible refine P.gt_int ?_
  | with_reducible refine c_sub fun _ _ => ?_
  | with_reducible refine c_add fun _ _ => ?_
  | ((with_reducible show wpAny _ _ (exec (Stmt.Assign _ _ _) _) _ _ _); with_reducible refine wpAny_Assign_Name ?_ (by k_dflt rfl))
  | with_reducible refine wpAny_AugAssign_Name ?_
  | walk_at "mname")
local macro_rules | `(tactic| walk_at "mname") => `(tactic| first
  | ((with_reducible show wpAny _ _ (eval (Expr.Name _ _) _) _ _ _); with_reducible refine ld (by assumption) (by first | k_dflt rfl | k_dflt assumption) ?_ (by k_dflt rfl) (by k_dflt rfl) (by decide))
  | ((with_reducible show wpAny _ _ (eval (Expr.Name _ _) _) _ _ _); with_reducible refine ldLoc (by assumption) (by first | k_dflt rfl | k_dflt assumption) ?_ (by k_dflt rfl) (by k_dflt rfl) (by decide))
  | ((with_reducible show wpAny _ _ (eval (Expr.Name _ _) _) _ _ _); with_reducible refine ldC (by assumption) (by k_dflt rfl) (by k_dflt rfl) ?_ (by k_dflt rfl) (by k_dflt rfl) (by decide))
  | ((with_reducible show wpAny _ _ (eval (Expr.Name _ _) _) _ _ _); with_reducible refine ldVarK (by k_dflt assumption) (by assumption) ?_ (by k_dflt rfl) (by k_dflt rfl) (by decide))
  | ((with_reducible show wpAny _ _ (eval (Expr.Name _ _) _) _ _ _); with_reducible refine nmB (by assumption) (by assumption) (by first | assumption | exact Fr.keep (by assumption)) (by kernel_rfl) (by boot_by_name) (by decide) ?_ (by k_dflt rfl) (by k_dflt rfl) (by k_dflt rfl) (by k_dflt rfl) (by decide))
  | ((with_reducible show wpAny _ _ (eval (Expr.Name _ _) _) _ _ _); with_reducible refine nmG (by assumption) (by assumption) (by first | assumption | exact Fr.keep (by assumption)) (by kernel_rfl) ?_ (by k_dflt rfl) (by k_dflt rfl) (by k_dflt rfl) (by decide)))

structure Piece where
  tag : Str
  i1 : Nat
  i2 : Nat
  j1 : Nat
  j2 : Nat
def nearS (a : Str) (i : Nat) : Nat := if i = 0 ∨ a.cps.toList[i - 1]? = some 32 then i else i - 1
def sgn (a : Str) (i : Nat) : Str := ⟨#[a.cps.toList.getD i 0]⟩
def one (up : Bool) (d : Nat) : Str := if up = true then Txt.upper ⟨#[d]⟩ else Txt.lower ⟨#[d]⟩
def pieceS (a b : Str) (p : Piece) : Str :=
  if p.tag = Str.ofString "delete" then ⟨#[]⟩
  else if p.tag = Str.ofString "insert" then (if Txt.isupper (sgn a (nearS a p.i1)) = true then Txt.upper (sub b p.j1 p.j2) else Txt.lower (sub b p.j1 p.j2))
  else if p.tag = Str.ofString "equal" then sub a p.i1 p.i2
  else matchS (sub a p.i1 p.i2) (sub b p.j1 p.j2) ++ (if (sub a p.i1 p.i2).length < (sub b p.j1 p.j2).length then
      cat (((sub b p.j1 p.j2).cps.toList.drop (sub a p.i1 p.i2).length).map (one (Txt.isupper (sgn (sub a p.i1 p.i2) ((sub a p.i1 p.i2).length - 1))))) else ⟨#[]⟩)
structure PieceOk (a b : Str) (p : Piece) : Prop where
  hi : p.i1 ≤ p.i2
  ha : p.i2 ≤ a.length
  hj : p.j1 ≤ p.j2
  hb : p.j2 ≤ b.length
  ins : p.tag = Str.ofString "insert" → nearS a p.i1 < a.length
  rep : p.tag ≠ Str.ofString "delete" → p.tag ≠ Str.ofString "insert" → p.tag ≠ Str.ofString "equal" → p.i1 < p.i2
def TupP (h : Heap) (v : Value) (p : Piece) : Prop := ∃ T t1 t2 t3 t4 t5, v = .ref T ∧ IsTup h T #[.str p.tag t1, .int (p.i1 : Nat) t2, .int (p.i2 : Nat) t3, .int (p.j1 : Nat) t4, .int (p.j2 : Nat) t5]

theorem len_upper3 (x : Str) : (Txt.upper x).length ≤ 3 * x.length := len_upper x
theorem len_app (x y : Str) : (x ++ y).length = x.length + y.length := by
  show (x.cps ++ y.cps).size = _
  simp [Str.length]
theorem len_matchS (a b : Str) : (matchS a b).length ≤ 3 * b.length := by
  refine Nat.le_trans (len_cat_le (len_zip_mt _ _)) (Nat.mul_le_mul_left _ ?_)
  rw [List.length_zipWith]
  refine Nat.le_trans (Nat.min_le_right _ _) ?_
  simp [Str.length]
theorem len_one (u : Bool) (d : Nat) : (one u d).length ≤ 3 := by
  unfold one
  split
  · exact len_upper _
  · exact len_lower _
theorem len_sub_le (x : Str) (i j : Nat) : (sub x i j).length ≤ x.length := by
  show (((x.cps.toList.drop i).take (j - i)).toArray).size ≤ _
  have : x.cps.toList.length = x.length := by simp [Str.length]
  rw [List.size_toArray, List.length_take, List.length_drop, this]
  omega
theorem len_piece {a b : Str} (p : Piece) (ha : a.length ≤ 100) (hb : b.length ≤ 100) : (pieceS a b p).length ≤ 1000 := by
  have h1 := len_sub_le a p.i1 p.i2
  have h2 := len_sub_le b p.j1 p.j2
  unfold pieceS
  split
  · exact Nat.zero_le _
  · split
    · split
      · have := len_upper (sub b p.j1 p.j2); omega
      · have := len_lower (sub b p.j1 p.j2); omega
    · split
      · omega
      · rw [len_app]
        have h3 := len_matchS (sub a p.i1 p.i2) (sub b p.j1 p.j2)
        split
        · have h4 := len_cat_le (B := 3) (l := ((sub b p.j1 p.j2).cps.toList.drop (sub a p.i1 p.i2).length).map (one (Txt.isupper (sgn (sub a p.i1 p.i2) ((sub a p.i1 p.i2).length - 1))))) (fun y hy => by
            obtain ⟨d, _, rfl⟩ := List.mem_map.mp hy
            exact len_one _ _)
          have h5 : (((sub b p.j1 p.j2).cps.toList.drop (sub a p.i1 p.i2).length).map (one (Txt.isupper (sgn (sub a p.i1 p.i2) ((sub a p.i1 p.i2).length - 1))))).length ≤ (sub b p.j1 p.j2).length := by
            rw [List.length_map, List.length_drop]; simp [Str.length]
          omega
        · show _ + 0 ≤ _; omega

set_option maxHeartbeats 8000000 in
theorem similar_spec {w : World} {A : Around} {R : Result → Shared → Prop} {s : Shared} {mg mb : Str → Option Value} {p : Program} {loose : List Str} {a b : Str} {ta tb : Tok} {f : Addr} {of : Obj} {fd : FuncData} {ps : List Piece} {g : Heap} (Ex : Addr → Prop) (PX : Heap → Prop) (hPX : ∀ h h', PX h → (∀ b o, b ≠ s.heap.objs.size → b ≠ s.heap.objs.size + 1 → h.get? b = some o → h'.get? b = some o) → PX h')
    (X : (K1 w).In g) (TR : TopRead p loose mg mb g) (hg : ∀ b o, g.get? b = some o → s.heap.get? b = some o) (hgs : g.objs.size ≤ s.heap.objs.size) (hgx : ∀ b o, g.get? b = some o → ¬ Ex b)
    (hEx : ∀ b, Ex b → b < s.heap.objs.size)
    (hroom : A.depth < 800) (hh : A.handled = none) (ha0 : 0 < a.length) (hb0 : 0 < b.length) (ha : a.length ≤ 100) (hb : b.length ≤ 100)
    (hps : ∀ q ∈ ps, PieceOk a b q) (hn : ps.length ≤ 100)
    (hfo : s.heap.get? f = some of) (hfd : of.data = .func fd)
    (hf : ∀ (A' : Around) (h' : Heap) (k' t1 t2 : Tok) (Q : Value → Shared → Prop), A'.handled = none → A'.depth ≤ A.depth + 10 → (∀ b o, s.heap.get? b = some o → h'.get? b = some o) → s.heap.objs.size + 2 ≤ h'.objs.size →
      (∀ l items h'' k'', ¬ Ex l → h''.IsList l items → Paired (TupP h'') items.toList ps → (∀ b o, ¬ Ex b → h'.get? b = some o → h''.get? b = some o) → PX h'' → Q (.ref l) { s with heap := h'', toks := k'' }) →
      wpAny (model P1 w) A' (call (.ref f) [.str (Txt.lower a) t1, .str b t2]) Q (fun _ _ => False) { s with heap := h', toks := k' })
    (hR : ∀ t h' k, (∀ b o, ¬ Ex b → s.heap.get? b = some o → h'.get? b = some o) → PX h' → R (.ok (.ret (.str (cat (ps.map (pieceS a b))) t))) { s with heap := h', toks := k })
    : codeAny (model P1 w) A (.call (.ref 24) ⟨[.str a ta, .str b tb, .ref f], []⟩) R s := by
  refine enter_defC (K := K1 w) [("cased_text", .str a ta), ("uncased_text", .str b tb), ("get_opcodes", .ref f)] (X.keeps hg) (TR.nolimit.keeps hg) (by rfl) (by kernel_rfl) (Nat.lt_of_lt_of_le hroom (by decide)) (BindsTo.of_eq rfl) (by exact rfl) rfl rfl rfl ?_
  intro L h₁ tk hL F₀ C
  have F : Fr g L h₁ _ := ⟨F₀.ns, fun b o e => F₀.keep b o (hg b o e), by rw [hL]; exact hgs⟩
  repeat walk_at "m1"
  refine truthy_s ?_ fun k => ?_
  · omega
  refine ite_neg (by simp; omega) ?_
  walk_at "m1"
  dsimp only
  repeat walk_at "m1"
  refine truthy_s ?_ fun k => ?_
  · omega
  refine ite_neg (by simp; omega) ?_
  walk_at "m1"
  dsimp only
  repeat walk_at "m1"
  refine st_any F rfl (by k_dflt rfl) rfl fun h₂ k₂ F₂ hs₂ => ?_
  have C₂ := C.sameBut hs₂ (Nat.le_refl _)
  dsimp only
  have U₂ : h₂.IsCell (L + 1) none := C₂.cell (Str.ofString "upper") (L + 1) (by k_dflt rfl)
  clear C C₂
  have kp₂ : ∀ b o, s.heap.get? b = some o → h₂.get? b = some o := fun b o e => hs₂.extBut b o (Nat.ne_of_lt (hL ▸ Heap.lt_size e)) (F₀.keep b o e)
  walk_at "m1"
  have hLx : ¬ Ex L := fun e => by have := hEx L e; rw [hL] at this; exact Nat.lt_irrefl _ this
  have hUx : ¬ Ex (L + 1) := fun e => by have := hEx _ e; rw [hL] at this; exact Nat.not_succ_lt_self this
  refine for_list_tup hh ?_
  refine wpAny_Call_NameR ?_
  walk_at "m1"
  refine callWith_def hfd ?_ rfl
  refine spliced_more ?_ rfl
  refine call_lower rfl ?_
  walk_at "m1"
  refine ⟨a, ta, rfl, by omega, fun t' k' => ?_⟩
  repeat walk_at "m1"
  refine ⟨kp₂ _ _ hfo, ?_⟩
  refine hf _ _ _ _ _ _ hh (by show A.depth + 1 ≤ _; omega) kp₂ (by obtain ⟨o, ho, _⟩ := U₂; have := Heap.lt_size ho; rw [← hL]; exact this) fun l items h₃ k₃ hlx hl hP hk₃ hpx => ?_
  have F₃ : Fr g L h₃ _ := ⟨F₂.ns.at' fun o e => hk₃ L o hLx e, fun b o e => hk₃ b o (hgx b o e) (F₂.keep b o e), F₂.above⟩
  have U₃ : h₃.IsCell (L + 1) none := by obtain ⟨o, ho, hd⟩ := U₂; exact ⟨o, hk₃ _ _ hUx ho, hd⟩
  have hlL : l ≠ L := by
    rintro rfl
    obtain ⟨o, ho, hc, n, hd⟩ := hl
    obtain ⟨o', es, ep, ho', hd', _⟩ := F₃.ns
    have e := Option.some.inj (ho.symm.trans ho')
    subst e
    rw [hd] at hd'; cases hd'
  have hlU : l ≠ L + 1 := by
    intro e
    obtain ⟨o, ho, hc, n, hd⟩ := hl
    obtain ⟨o', ho', hd'⟩ := U₃
    have e := Option.some.inj (ho.symm.trans (e ▸ ho'))
    subst e
    rw [hd] at hd'; cases hd'
  have hI0 : ∃ m t ov, Fr g L h₃ m ∧ m (Str.ofString "cased_text") = some (.str a ta) ∧ m (Str.ofString "uncased_text") = some (.str b tb) ∧ m (Str.ofString "result") = some (.str (cat ((ps.take 0).map (pieceS a b))) t) ∧ h₃.IsCell (L + 1) ov ∧
    (∀ b o, b ≠ L → b ≠ L + 1 → h₃.get? b = some o → h₃.get? b = some o) := by
    have e : Str.ofString "" = cat ((ps.take 0).map (pieceS a b)) := by rw [List.take_zero, List.map_nil, cat_nil]; decide
    rw [← e]
    refine ⟨_, ?t, none, F₃, ?_, ?_, ?_, U₃, fun b o _ _ e => e⟩
    rotate_left
    · k_dflt rfl
    · k_dflt rfl
    · k_dflt rfl
  refine ⟨l, items, fun i h => ∃ m t ov, Fr g L h m ∧ m (Str.ofString "cased_text") = some (.str a ta) ∧ m (Str.ofString "uncased_text") = some (.str b tb) ∧ m (Str.ofString "result") = some (.str (cat ((ps.take i).map (pieceS a b))) t) ∧ h.IsCell (L + 1) ov ∧
    (∀ b o, b ≠ L → b ≠ L + 1 → h₃.get? b = some o → h.get? b = some o), rfl, hI0, ?_, ?_, ?_, ?_, ?_⟩
  · rintro i h ⟨m, t, ov, Fm, _, _, _, _, kp⟩
    obtain ⟨o, ho, r⟩ := hl
    exact ⟨o, kp _ _ hlL hlU ho, r⟩
  · intro i v hv
    obtain ⟨q, _, T, _, _, _, _, _, e, _⟩ := paired_get' hP i v (by simpa using hv)
    exact ⟨T, e⟩
  · rintro i h h' ⟨m, t, ov, Fm, e1, e2, e3, U, kp⟩ hk
    have hLs : L ≠ h₃.objs.size := Nat.ne_of_lt F₃.ns.lt
    have hUs : L + 1 ≠ h₃.objs.size := by obtain ⟨o, ho, _⟩ := U₃; exact Nat.ne_of_lt (Heap.lt_size ho)
    refine ⟨m, t, ov, ⟨Fm.ns.at' fun o e => hk L o hLs e, fun b o e => hk b o (fun q => ?_) (Fm.keep b o e), Fm.above⟩, e1, e2, e3, ?_, fun b o n1 n2 e => hk b o (Nat.ne_of_lt (Heap.lt_size e)) (kp b o n1 n2 e)⟩
    · have := Heap.lt_size e
      have h2 := Nat.lt_of_lt_of_le this Fm.above
      have h3 := F₃.ns.lt
      rw [q] at h2; exact Nat.lt_irrefl _ (Nat.lt_trans h2 h3)
    · obtain ⟨o, ho, hd⟩ := U; exact ⟨o, hk _ _ hUs ho, hd⟩
  · rintro i v h tk hv ⟨m, t, ov, Fm, e1, e2, e3, U, kp⟩ ⟨oI, hoI⟩
    obtain ⟨q, hq, T, t1, t2, t3, t4, t5, rfl, hT⟩ := paired_get' hP i v (by simpa using hv)
    have qok : PieceOk a b q := hps q (List.mem_of_getElem? hq)
    have htake : cat ((ps.take (i + 1)).map (pieceS a b)) = cat ((ps.take i).map (pieceS a b)) ++ pieceS a b q := by
      rw [List.take_add_one, hq, List.map_append, cat_append]
      show _ ++ cat [pieceS a b q] = _
      rw [cat_one]
    have hres : (cat ((ps.take i).map (pieceS a b))).length ≤ 100000 := by
      refine Nat.le_trans (len_cat_le (B := 1000) fun y hy => ?_) ?_
      · obtain ⟨q', _, rfl⟩ := List.mem_map.mp hy; exact len_piece q' ha hb
      · rw [List.length_map, List.length_take]; omega
    generalize cat ((ps.take i).map (pieceS a b)) = res at e3 htake hres
    have hTL : T ≠ L := by
      rintro rfl
      obtain ⟨o, ho, hc, n, hd⟩ := hT
      obtain ⟨o', es, ep, ho', hd', _⟩ := F₃.ns
      have e := Option.some.inj (ho.symm.trans ho')
      subst e
      rw [hd] at hd'; cases hd'
    have hTU : T ≠ L + 1 := by
      intro e
      obtain ⟨o, ho, hc, n, hd⟩ := hT
      obtain ⟨o', ho', hd'⟩ := U₃
      have e := Option.some.inj (ho.symm.trans (e ▸ ho'))
      subst e
      rw [hd] at hd'; cases hd'
    have hT' : IsTup h T #[.str q.tag t1, .int (q.i1 : Nat) t2, .int (q.i2 : Nat) t3, .int (q.j1 : Nat) t4, .int (q.j2 : Nat) t5] := by obtain ⟨o, ho, r⟩ := hT; exact ⟨o, kp _ _ hTL hTU ho, r⟩
    refine assign_Tuple_tuple hh hT' rfl rfl fun h₄ he => ?_
    have he' : ∀ b o, h.get? b = some o → h₄.get? b = some o := fun b o e => he b o (Nat.ne_of_lt (Heap.lt_size e)) e
    have F₄ : Fr g L h₄ m := Fm.keeps he'
    refine assignInOrder_cons (wpAny_assign_Name (st_any F₄ rfl (by k_dflt rfl) rfl fun h₅ k₅ F₅ hs₅ => ?_))
    refine assignInOrder_cons (wpAny_assign_Name (st_any F₅ rfl (by k_dflt rfl) rfl fun h₆ k₆ F₆ hs₆ => ?_))
    refine assignInOrder_cons (wpAny_assign_Name (st_any F₆ rfl (by k_dflt rfl) rfl fun h₇ k₇ F₇ hs₇ => ?_))
    refine assignInOrder_cons (wpAny_assign_Name (st_any F₇ rfl (by k_dflt rfl) rfl fun h₈ k₈ F₈ hs₈ => ?_))
    refine assignInOrder_cons (wpAny_assign_Name (st_any F₈ rfl (by k_dflt rfl) rfl fun h₉ k₉ F₉ hs₉ => ?_))
    refine assignInOrder_nil ?_
    have up9 : ∀ b o, b ≠ L → h.get? b = some o → h₉.get? b = some o := fun b o hb e => hs₉.extBut b o hb (hs₈.extBut b o hb (hs₇.extBut b o hb (hs₆.extBut b o hb (hs₅.extBut b o hb (he' b o e)))))
    obtain ⟨M, FM, M1, M2, M3, Mt, Mi1, Mi2, Mj1, Mj2⟩ : ∃ M, Fr g L h₉ M ∧ M (Str.ofString "cased_text") = some (.str a ta) ∧ M (Str.ofString "uncased_text") = some (.str b tb) ∧ M (Str.ofString "result") = some (.str res t) ∧
        M (Str.ofString "tag") = some (.str q.tag t1) ∧ M (Str.ofString "i1") = some (.int (q.i1 : Nat) t2) ∧ M (Str.ofString "i2") = some (.int (q.i2 : Nat) t3) ∧ M (Str.ofString "j1") = some (.int (q.j1 : Nat) t4) ∧ M (Str.ofString "j2") = some (.int (q.j2 : Nat) t5) :=
      ⟨_, F₉, by k_dflt exact e1, by k_dflt exact e2, by k_dflt exact e3, by k_dflt rfl, by k_dflt rfl, by k_dflt rfl, by k_dflt rfl, by k_dflt rfl⟩
    have UM : h₉.IsCell (L + 1) ov := by obtain ⟨o, ho, hd⟩ := U; exact ⟨o, up9 _ _ (Nat.succ_ne_self L) ho, hd⟩
    have kpM : ∀ b o, b ≠ L → b ≠ L + 1 → h₃.get? b = some o → h₉.get? b = some o := fun b o n1 n2 e => up9 b o n1 (kp b o n1 n2 e)
    have hIM : h₉.get? h₃.objs.size = some oI := up9 _ _ (Nat.ne_of_gt F₃.ns.lt) hoI
    have hUs : L + 1 ≠ h₃.objs.size := by obtain ⟨o, ho, _⟩ := U₃; exact Nat.ne_of_lt (Heap.lt_size ho)
    have hLs : L ≠ h₃.objs.size := Nat.ne_of_lt F₃.ns.lt
    have fin : ∀ (h' : Heap) (m' : Str → Option Value) (t' k' : Tok) (ov' : Option Value), Fr g L h' m' → m' (Str.ofString "cased_text") = some (.str a ta) → m' (Str.ofString "uncased_text") = some (.str b tb) → m' (Str.ofString "result") = some (.str (res ++ pieceS a b q) t') →
        h'.IsCell (L + 1) ov' → (∀ b o, b ≠ L → b ≠ L + 1 → h₉.get? b = some o → h'.get? b = some o) →
        ∃ h'' tk', ({ s with heap := h', toks := k' } : Shared) = { s with heap := h'', toks := tk' } ∧
          (∃ m t ov, Fr g L h'' m ∧ m (Str.ofString "cased_text") = some (.str a ta) ∧ m (Str.ofString "uncased_text") = some (.str b tb) ∧ m (Str.ofString "result") = some (.str (cat ((ps.take (i + 1)).map (pieceS a b))) t) ∧ h''.IsCell (L + 1) ov ∧
            (∀ b o, b ≠ L → b ≠ L + 1 → h₃.get? b = some o → h''.get? b = some o)) ∧ (∀ o, h.get? h₃.objs.size = some o → h''.get? h₃.objs.size = some o) := by
      intro h' m' t' k' ov' F' a1 a2 a3 U' k'
      refine ⟨h', _, rfl, ⟨m', t', ov', F', a1, a2, by rw [htake]; exact a3, U', fun b o n1 n2 e => k' b o n1 n2 (kpM b o n1 n2 e)⟩, fun o e => k' _ _ (Ne.symm hLs) (Ne.symm hUs) (up9 _ _ (Ne.symm hLs) e)⟩
    clear hT hT' hTL hTU F₄ F₅ F₆ F₇ F₈ F₉ hs₅ hs₆ hs₇ hs₈ hs₉ e1 e2 e3 Fm hv
    repeat walk_at "m1"
    refine eq_s ?_
    repeat walk_at "m1"
    by_cases hd : q.tag = Str.ofString "delete"
    · refine ite_pos (by simp [hd]) ?_
      walk_at "m1"
      refine wpAny_Continue ?_
      dsimp only
      exact ⟨.inr rfl, fin h₉ M t _ ov FM M1 M2 (by rw [pieceS, if_pos hd, app_nil]; exact M3) UM fun b o _ _ e => e⟩
    refine ite_neg (by simp [hd]) ?_
    walk_at "m1"
    dsimp only
    repeat walk_at "m1"
    refine eq_s ?_
    repeat walk_at "m1"
    by_cases hi : q.tag = Str.ofString "insert"
    · refine ite_pos (by simp [hi]) ?_
      walk_at "m1"
      walk_at "m1"
      have hnear := qok.ins hi
      have haL : a.cps.toList.length = a.length := by simp [Str.length]
      refine wpAny_mono (Q := fun v s' => ∃ t k, v = Value.int (nearS a q.i1 : Nat) t ∧ s' = { s with heap := h₉, toks := k }) ?_ (fun v s' hv => ?_) (fun _ _ x => x)
      · repeat walk_at "m1"
        by_cases h0 : q.i1 = 0
        · refine ite_pos (by simp [h0]) ?_
          refine ite_pos rfl ?_
          walk_at "m1"
          exact ⟨_, _, by rw [nearS, if_pos (.inl h0)], rfl⟩
        refine ite_neg (by simp; omega) ?_
        repeat walk_at "m1"
        have hlt : q.i1 - 1 < a.cps.toList.length := by have := qok.hi; have := qok.ha; omega
        have hc : a.cps.toList[q.i1 - 1]? = some (a.cps.toList[q.i1 - 1]) := List.getElem?_eq_getElem hlt
        generalize a.cps.toList[q.i1 - 1] = c at hc
        refine c_item_s (c := c) (by omega) (by omega) (by rw [show ((q.i1 : Int) - 1).toNat = q.i1 - 1 by omega]; exact hc) rfl fun t' k' => ?_
        repeat walk_at "m1"
        refine eq_s ?_
        repeat walk_at "m1"
        by_cases h32 : c = 32
        · refine ite_pos (decide_eq_true ((is_blank c).mpr h32)) ?_
          refine ite_pos rfl ?_
          walk_at "m1"
          exact ⟨_, _, by rw [nearS, if_pos (.inr (by rw [hc, h32]))], rfl⟩
        · refine ite_neg (fun e => h32 ((is_blank c).mp (of_decide_eq_true e))) ?_
          walk_at "m1"
          refine ite_neg (by decide) ?_
          repeat walk_at "m1"
          have e : ((q.i1 : Int) - 1) = (nearS a q.i1 : Nat) := by
            rw [nearS, if_neg (by rintro (h | h); exact h0 h; rw [hc] at h; exact h32 (Option.some.inj h))]
            omega
          rw [e]
          exact ⟨_, _, rfl, rfl⟩
      · obtain ⟨t6, k10, rfl, rfl⟩ := hv
        refine st_any FM rfl (by k_dflt rfl) rfl fun h₁₀ k₁₁ F₁₀ hs₁₀ => ?_
        dsimp only
        have up10 : ∀ b o, b ≠ L → h₉.get? b = some o → h₁₀.get? b = some o := fun b o hb e => hs₁₀.extBut b o hb e
        have U10 : h₁₀.IsCell (L + 1) ov := by obtain ⟨o, ho, hd⟩ := UM; exact ⟨o, up10 _ _ (Nat.succ_ne_self L) ho, hd⟩
        obtain ⟨N, FN, N1, N2, N3, Ni, Nj1, Nj2⟩ : ∃ N, Fr g L h₁₀ N ∧ N (Str.ofString "cased_text") = some (.str a ta) ∧ N (Str.ofString "uncased_text") = some (.str b tb) ∧ N (Str.ofString "result") = some (.str res t) ∧
            N (Str.ofString "ia_ref") = some (.int (nearS a q.i1 : Nat) t6) ∧ N (Str.ofString "j1") = some (.int (q.j1 : Nat) t4) ∧ N (Str.ofString "j2") = some (.int (q.j2 : Nat) t5) :=
          ⟨_, F₁₀, by k_dflt exact M1, by k_dflt exact M2, by k_dflt exact M3, by k_dflt rfl, by k_dflt exact Mj1, by k_dflt exact Mj2⟩
        clear F₁₀ M1 M2 M3 Mt Mi1 Mi2 Mj1 Mj2 FM
        walk_at "m1"
        walk_at "m1"
        refine isTrue_call (call_isupperX rfl ?_)
        have hc : a.cps.toList[nearS a q.i1]? = some (a.cps.toList.getD (nearS a q.i1) 0) := by
          rw [List.getD_eq_getElem?_getD, List.getElem?_eq_getElem (by omega)]; rfl
        repeat walk_at "m1"
        refine c_item_s (c := a.cps.toList.getD (nearS a q.i1) 0) (by omega) (by omega) (by rw [Int.toNat_natCast]; exact hc) rfl fun t7 k12 => ?_
        refine ⟨_, _, rfl, _, rfl, ?_⟩
        have hsub := len_sub b (i := q.j1) qok.hb
        by_cases hup : Txt.isupper (sgn a (nearS a q.i1)) = true
        · refine ite_pos hup ?_
          walk_at "m1"
          refine wpAny_AugAssign_Name ?_
          refine ldnLoc FN N3 ?_
          refine c_upperX rfl ?_
          repeat walk_at "m1"
          refine c_cut_ss (by omega) (by have := qok.hj; omega) (by have := qok.hb; omega) (by omega) fun h₁₁ t8 k13 kp11 => ?_
          refine ⟨_, _, rfl, by rw [Int.toNat_natCast, Int.toNat_natCast, hsub]; have := qok.hb; omega, ?_⟩
          intro _ _ _ _ _ e t9 k14
          cases e
          refine c_iadds (by omega) ?_ fun t10 k15 => ?_
          · have := len_upper (sub b (q.j1 : Int).toNat (q.j2 : Int).toNat)
            have h2 := len_sub_le b (q.j1 : Int).toNat (q.j2 : Int).toNat
            omega
          have he : Txt.upper (sub b (q.j1 : Int).toNat (q.j2 : Int).toNat) = pieceS a b q := by rw [Int.toNat_natCast, Int.toNat_natCast, pieceS, if_neg hd, if_pos hi, if_pos hup]
          rw [he]
          refine c_st (FN.keeps kp11) rfl (by k_dflt rfl) rfl fun h₁₂ k16 F₁₂ hs₁₂ => ?_
          repeat (first | walk_at "m1" | dsimp only)
          refine ⟨.inl rfl, fin h₁₂ _ t10 _ ov F₁₂ (by k_dflt exact N1) (by k_dflt exact N2) (by k_dflt rfl) ?_ fun b o n1 n2 e => hs₁₂.extBut b o n1 (kp11 b o (up10 b o n1 e))⟩
          obtain ⟨o, ho, hdd⟩ := U10
          exact ⟨o, hs₁₂.extBut _ _ (Nat.succ_ne_self L) (kp11 _ _ ho), hdd⟩
        · refine ite_neg hup ?_
          walk_at "m1"
          refine wpAny_AugAssign_Name ?_
          refine ldnLoc FN N3 ?_
          refine c_lowerX rfl ?_
          repeat walk_at "m1"
          refine c_cut_ss (by omega) (by have := qok.hj; omega) (by have := qok.hb; omega) (by omega) fun h₁₁ t8 k13 kp11 => ?_
          refine ⟨_, _, rfl, by rw [Int.toNat_natCast, Int.toNat_natCast, hsub]; have := qok.hb; omega, ?_⟩
          intro _ _ _ _ _ e t9 k14
          cases e
          refine c_iadds (by omega) ?_ fun t10 k15 => ?_
          · have := len_lower (sub b (q.j1 : Int).toNat (q.j2 : Int).toNat)
            have h2 := len_sub_le b (q.j1 : Int).toNat (q.j2 : Int).toNat
            omega
          have he : Txt.lower (sub b (q.j1 : Int).toNat (q.j2 : Int).toNat) = pieceS a b q := by rw [Int.toNat_natCast, Int.toNat_natCast, pieceS, if_neg hd, if_pos hi, if_neg hup]
          rw [he]
          refine c_st (FN.keeps kp11) rfl (by k_dflt rfl) rfl fun h₁₂ k16 F₁₂ hs₁₂ => ?_
          repeat (first | walk_at "m1" | dsimp only)
          refine ⟨.inl rfl, fin h₁₂ _ t10 _ ov F₁₂ (by k_dflt exact N1) (by k_dflt exact N2) (by k_dflt rfl) ?_ fun b o n1 n2 e => hs₁₂.extBut b o n1 (kp11 b o (up10 b o n1 e))⟩
          obtain ⟨o, ho, hdd⟩ := U10
          exact ⟨o, hs₁₂.extBut _ _ (Nat.succ_ne_self L) (kp11 _ _ ho), hdd⟩
    refine ite_neg (by simp [hi]) ?_
    repeat walk_at "m1"
    refine eq_s ?_
    repeat walk_at "m1"
    by_cases hq : q.tag = Str.ofString "equal"
    · refine ite_pos (by simp [hq]) ?_
      walk_at "m1"
      refine wpAny_AugAssign_Name ?_
      refine ldnLoc FM M3 ?_
      repeat walk_at "m1"
      refine c_cut_ss (by omega) (by have := qok.hi; omega) (by have := qok.ha; omega) (by omega) fun h₁₁ t8 k13 kp11 => ?_
      refine c_iadds (by omega) ?_ fun t10 k15 => ?_
      · have h2 := len_sub_le a (q.i1 : Int).toNat (q.i2 : Int).toNat
        omega
      have he : sub a (q.i1 : Int).toNat (q.i2 : Int).toNat = pieceS a b q := by rw [Int.toNat_natCast, Int.toNat_natCast, pieceS, if_neg hd, if_neg hi, if_pos hq]
      rw [he]
      refine c_st (FM.keeps kp11) rfl (by k_dflt rfl) rfl fun h₁₂ k16 F₁₂ hs₁₂ => ?_
      repeat (first | walk_at "m1" | dsimp only)
      refine ⟨.inl rfl, fin h₁₂ _ t10 _ ov F₁₂ (by k_dflt exact M1) (by k_dflt exact M2) (by k_dflt rfl) ?_ fun b o n1 n2 e => hs₁₂.extBut b o n1 (kp11 b o e)⟩
      obtain ⟨o, ho, hdd⟩ := UM
      exact ⟨o, hs₁₂.extBut _ _ (Nat.succ_ne_self L) (kp11 _ _ ho), hdd⟩
    refine ite_neg (by simp [hq]) ?_
    walk_at "m1"
    walk_at "m1"
    repeat walk_at "m1"
    refine c_cut_ss (by omega) (by have := qok.hi; omega) (by have := qok.ha; omega) (by omega) fun h₁₁ t8 k13 kp11 => ?_
    refine c_st (FM.keeps kp11) rfl (by k_dflt rfl) rfl fun h₁₂ k16 F₁₂ hs₁₂ => ?_
    dsimp only
    walk_at "m1"
    walk_at "m1"
    repeat walk_at "m1"
    refine c_cut_ss (by omega) (by have := qok.hj; omega) (by have := qok.hb; omega) (by omega) fun h₁₃ t9 k17 kp13 => ?_
    refine c_st (F₁₂.keeps kp13) rfl (by k_dflt rfl) rfl fun h₁₄ k18 F₁₄ hs₁₄ => ?_
    dsimp only
    have U14 : h₁₄.IsCell (L + 1) ov := by obtain ⟨o, ho, hdd⟩ := UM; exact ⟨o, hs₁₄.extBut _ _ (Nat.succ_ne_self L) (kp13 _ _ (hs₁₂.extBut _ _ (Nat.succ_ne_self L) (kp11 _ _ ho))), hdd⟩
    have up14 : ∀ b o, b ≠ L → h₉.get? b = some o → h₁₄.get? b = some o := fun b o n1 e => hs₁₄.extBut b o n1 (kp13 b o (hs₁₂.extBut b o n1 (kp11 b o e)))
    have hcl := len_sub a (i := q.i1) qok.ha
    have hul := len_sub b (i := q.j1) qok.hb
    have hc0 := qok.rep hd hi hq
    have hpc : pieceS a b q = matchS (sub a q.i1 q.i2) (sub b q.j1 q.j2) ++ (if (sub a q.i1 q.i2).length < (sub b q.j1 q.j2).length then
      cat (((sub b q.j1 q.j2).cps.toList.drop (sub a q.i1 q.i2).length).map (one (Txt.isupper (sgn (sub a q.i1 q.i2) ((sub a q.i1 q.i2).length - 1))))) else ⟨#[]⟩) := by rw [pieceS, if_neg hd, if_neg hi, if_neg hq]
    obtain ⟨N, FN, N1, N2, N3, Nc, Nu⟩ : ∃ N, Fr g L h₁₄ N ∧ N (Str.ofString "cased_text") = some (.str a ta) ∧ N (Str.ofString "uncased_text") = some (.str b tb) ∧ N (Str.ofString "result") = some (.str res t) ∧
        N (Str.ofString "cased_seq") = some (.str (sub a q.i1 q.i2) t8) ∧ N (Str.ofString "uncased_seq") = some (.str (sub b q.j1 q.j2) t9) :=
      ⟨_, F₁₄, by k_dflt exact M1, by k_dflt exact M2, by k_dflt exact M3, by k_dflt rfl, by k_dflt rfl⟩
    have hcl1 : (sub a q.i1 q.i2).length ≤ 100 := by have := qok.ha; omega
    have hul1 : (sub b q.j1 q.j2).length ≤ 100 := by have := qok.hb; omega
    have hcl0 : 0 < (sub a q.i1 q.i2).length := by omega
    generalize sub a q.i1 q.i2 = c at hpc Nc hcl1 hcl0
    generalize sub b q.j1 q.j2 = u at hpc Nu hul1
    clear hcl hul F₁₄ F₁₂ hs₁₂ hs₁₄ FM Mt Mi1 Mi2 Mj1 Mj2 M1 M2 M3
    repeat walk_at "m1"
    refine c_len ?_ fun t10 k19 => ?_
    · omega
    repeat walk_at "m1"
    refine c_len ?_ fun t11 k20 => ?_
    · omega
    repeat walk_at "m1"
    by_cases hlen : c.length = u.length
    · refine ite_pos (by simp [hlen]) ?_
      repeat walk_at "m1"
      refine ldnLoc FN N3 ?_
      repeat walk_at "m1"
      refine nmG (v := .ref 19) X TR FN.keep (by kernel_rfl) ?_ rfl rfl rfl (by decide)
      with_reducible refine callWith_K (K := K1 w) X (by kernel_rfl) ?_ (by k_dflt rfl) (by k_dflt rfl)
      repeat walk_at "m1"
      refine ⟨X.keeps FN.keep, ?_⟩
      refine wpAny_call (matching_spec (X.keeps FN.keep) (TR.keeps FN.keep) ?_ hh hlen hcl1 ?_)
      · show A.depth + 1 < 900; omega
      intro t12 h₁₅ k21 kp15
      refine c_iadds (by omega) ?_ fun t13 k22 => ?_
      · have := len_matchS c u; omega
      have he : matchS c u = pieceS a b q := by rw [hpc, if_neg (by omega), app_nil]
      rw [he]
      refine c_st (FN.keeps kp15) rfl (by k_dflt rfl) rfl fun h₁₆ k23 F₁₆ hs₁₆ => ?_
      repeat (first | walk_at "m1" | dsimp only)
      refine ⟨.inl rfl, fin h₁₆ _ t13 _ ov F₁₆ (by k_dflt exact N1) (by k_dflt exact N2) (by k_dflt rfl) ?_ fun b o n1 n2 e => hs₁₆.extBut b o n1 (kp15 b o (up14 b o n1 e))⟩
      obtain ⟨o, ho, hdd⟩ := U14
      exact ⟨o, hs₁₆.extBut _ _ (Nat.succ_ne_self L) (kp15 _ _ ho), hdd⟩
    refine ite_neg (by simp; omega) ?_
    walk_at "m1"
    refine for_zip (a := c) (b := u) hh ?_
    repeat walk_at "m1"
    refine call_zip_strs fun h₁₅ n hn hz hTI hTO hi1 hi2 hsz' hk15 => ?_
    have hLn : @LT.lt Nat _ (L + 1) n := by obtain ⟨o, ho, _⟩ := U14; rw [hn]; exact Heap.lt_size ho
    refine ⟨n, _, _, fun j h => ∃ m t, Fr g L h m ∧ m (Str.ofString "cased_text") = some (.str a ta) ∧ m (Str.ofString "uncased_text") = some (.str b tb) ∧ m (Str.ofString "cased_seq") = some (.str c t8) ∧ m (Str.ofString "uncased_seq") = some (.str u t9) ∧
      m (Str.ofString "result") = some (.str (res ++ cat ((List.zipWith mt c.cps.toList u.cps.toList).take j)) t) ∧ h.IsCell (L + 1) ov ∧ (∀ b o, b ≠ L → h₁₄.get? b = some o → h.get? b = some o), rfl, hz, hTI, hTO, hi1, hi2,
      ⟨N, t, FN.keeps hk15, N1, N2, Nc, Nu, ?_, ?_, fun b o _ e => hk15 b o e⟩, ?_, ?_, ?_⟩
    · rw [List.take_zero, cat_nil, app_nil]; exact N3
    · obtain ⟨o, ho, hdd⟩ := U14; exact ⟨o, hk15 _ _ ho, hdd⟩
    · rintro j h h' ⟨m, t, Fm, e1, e2, e3, e4, e5, ⟨oc, hoc, hdc⟩, kp⟩ hk
      have low : ∀ b o, (h₁₄.get? b = some o ∨ b ≤ L + 1) → h.get? b = some o → h'.get? b = some o := fun b o hb e => hk b o (.inl (by
        rcases hb with hb | hb
        · rw [hn]; exact Heap.lt_size hb
        · exact Nat.lt_of_le_of_lt hb hLn)) e
      refine ⟨m, t, ⟨Fm.ns.at' fun o e => low _ o (.inr (Nat.le_succ _)) e, fun b o e => low b o (.inr ?_) (Fm.keep b o e), Fm.above⟩, e1, e2, e3, e4, e5, ⟨oc, low _ _ (.inr (Nat.le_refl _)) hoc, hdc⟩, fun b o hb e => low b o (.inl e) (kp b o hb e)⟩
      exact Nat.le_trans (Nat.le_of_lt (Nat.lt_of_lt_of_le (Heap.lt_size e) Fm.above)) (Nat.le_succ _)
    · rintro j x y tx ty T h tk hx hy ⟨m, t, Fm, e1, e2, e3, e4, e5, ⟨oc, hoc, hdc⟩, kp⟩ hT
      refine assign_Tuple_tuple hh hT rfl rfl fun h₄ he => ?_
      dsimp only
      have he' : ∀ b o, h.get? b = some o → h₄.get? b = some o := fun b o e => he b o (Nat.ne_of_lt (Heap.lt_size e)) e
      refine assignInOrder_cons (wpAny_assign_Name (c_st (Fm.keeps he') rfl (by k_dflt rfl) rfl fun h₅ k₅ F₅ hs₅ => ?_))
      refine assignInOrder_cons (wpAny_assign_Name (c_st F₅ rfl (by k_dflt rfl) rfl fun h₆ k₆ F₆ hs₆ => ?_))
      refine assignInOrder_nil ?_
      have up6 : ∀ b o, b ≠ L → h.get? b = some o → h₆.get? b = some o := fun b o hb e => hs₆.extBut b o hb (hs₅.extBut b o hb (he' b o e))
      obtain ⟨O, FO, O1, O2, O3, O4, O5, O6, O7⟩ : ∃ O, Fr g L h₆ O ∧ O (Str.ofString "cased_text") = some (.str a ta) ∧ O (Str.ofString "uncased_text") = some (.str b tb) ∧ O (Str.ofString "cased_seq") = some (.str c t8) ∧ O (Str.ofString "uncased_seq") = some (.str u t9) ∧
        O (Str.ofString "result") = some (.str (res ++ cat ((List.zipWith mt c.cps.toList u.cps.toList).take j)) t) ∧ O (Str.ofString "cased") = some (.str ⟨#[x]⟩ tx) ∧ O (Str.ofString "uncased") = some (.str ⟨#[y]⟩ ty) :=
        ⟨_, F₆, by k_dflt exact e1, by k_dflt exact e2, by k_dflt exact e3, by k_dflt exact e4, by k_dflt exact e5, by k_dflt rfl, by k_dflt rfl⟩
      have hz0 : (List.zipWith mt c.cps.toList u.cps.toList)[j]? = some (mt x y) := by rw [List.getElem?_zipWith, hx, hy]
      have hnxt : res ++ cat ((List.zipWith mt c.cps.toList u.cps.toList).take (j + 1)) = res ++ cat ((List.zipWith mt c.cps.toList u.cps.toList).take j) ++ mt x y := by
        rw [List.take_add_one, hz0, cat_append, app_assoc]
        show _ = res ++ (_ ++ _)
        congr 2
        exact cat_one _
      have hres2 : (res ++ cat ((List.zipWith mt c.cps.toList u.cps.toList).take j)).length ≤ 200000 := by
        rw [len_app]
        have h1 : (cat ((List.zipWith mt c.cps.toList u.cps.toList).take j)).length ≤ 3 * 100 := by
          refine Nat.le_trans (len_cat_le fun y hy => len_zip_mt _ _ y (List.mem_of_mem_take hy)) (Nat.mul_le_mul_left _ ?_)
          rw [List.length_take, List.length_zipWith]
          have : c.cps.toList.length = c.length := by simp [Str.length]
          omega
        omega
      generalize res ++ cat ((List.zipWith mt c.cps.toList u.cps.toList).take j) = res2 at e5 O5 hnxt hres2
      have hmt := len_mt x y
      repeat walk_at "m1"
      refine ldnLoc FO O5 ?_
      refine wpAny_mono (Q := fun v s' => ∃ t' k', v = Value.str (mt x y) t' ∧ s' = ⟨h₆, s.gens, s.drawn, k', s.os⟩) ?_ (fun v s' hv => ?_) (fun _ _ x => x)
      · repeat walk_at "m1"
        refine isTrue_call (call_isupper rfl ?_)
        repeat walk_at "m1"
        refine ⟨_, _, rfl, _, rfl, ?_⟩
        by_cases hc : Txt.isupper ⟨#[x]⟩ = true
        · refine ite_pos hc (c_upper rfl ?_)
          repeat walk_at "m1"
          refine ⟨_, _, rfl, by show 1 ≤ _; decide, ?_⟩
          intro _ _ _ _ _ e t9 k14
          cases e
          exact ⟨t9, k14, by rw [mt, if_pos hc], rfl⟩
        · refine ite_neg hc (c_lower rfl ?_)
          repeat walk_at "m1"
          refine ⟨_, _, rfl, by show 1 ≤ _; decide, ?_⟩
          intro _ _ _ _ _ e t9 k14
          cases e
          exact ⟨t9, k14, by rw [mt, if_neg hc], rfl⟩
      · obtain ⟨t10, k10, rfl, rfl⟩ := hv
        refine c_iadds (by omega) (by omega) fun t11 k11 => ?_
        refine c_st FO rfl (by k_dflt rfl) rfl fun h₇ k₇ F₇ hs₇ => ?_
        repeat (first | walk_at "m1" | dsimp only)
        refine ⟨.inl rfl, h₇, _, rfl, ⟨_, t11, F₇, by k_dflt exact O1, by k_dflt exact O2, by k_dflt exact O3, by k_dflt exact O4, ?_, ⟨oc, hs₇.extBut _ _ (Nat.succ_ne_self L) (up6 _ _ (Nat.succ_ne_self L) hoc), hdc⟩, fun b o n1 e => hs₇.extBut b o n1 (up6 b o n1 (kp b o n1 e))⟩, ?_⟩
        · rw [hnxt]; k_dflt rfl
        · intro b o h1 h2 e
          have : b ≠ L := fun q => by rw [q] at h1; exact absurd (Nat.lt_of_lt_of_le (Nat.lt_of_succ_lt hLn) h1) (Nat.lt_irrefl _)
          exact hs₇.extBut b o this (up6 b o this e)
    · rintro h tk ⟨m, t, Fm, e1, e2, e3, e4, e5, Uc, kp⟩
      have hzl : (List.zipWith mt c.cps.toList u.cps.toList).take (min c.cps.size u.cps.size) = List.zipWith mt c.cps.toList u.cps.toList := List.take_of_length_le (by rw [List.length_zipWith]; simp)
      rw [hzl] at e5
      change m (Str.ofString "result") = some (.str (res ++ matchS c u) t) at e5
      have hms := len_matchS c u
      have kp' : ∀ b o, b ≠ L → h₉.get? b = some o → h.get? b = some o := fun b o n1 e => kp b o n1 (up14 b o n1 e)
      dsimp only
      repeat walk_at "m1"
      refine c_len ?_ fun t10 k19 => ?_
      · omega
      repeat walk_at "m1"
      refine c_len ?_ fun t11 k20 => ?_
      · omega
      repeat walk_at "m1"
      by_cases hlt : c.length < u.length
      · rw [if_pos hlt] at hpc
        refine ite_pos (by simp [hlt]) ?_
        walk_at "m1"
        walk_at "m1"
        refine call_isupperX rfl ?_
        repeat walk_at "m1"
        have hlc : c.cps.toList[c.length - 1]? = some (c.cps.toList.getD (c.length - 1) 0) := by
          have : c.cps.toList.length = c.length := by simp [Str.length]
          rw [List.getD_eq_getElem?_getD, List.getElem?_eq_getElem (by omega)]; rfl
        refine c_item_s1 (by omega) hlc rfl fun t12 k21 => ?_
        refine ⟨_, _, rfl, ?_⟩
        refine wpAny_storeName_cell rfl rfl rfl Uc fun h₁₆ U16 hs16 => ?_
        have F16 : Fr g L h₁₆ m := ⟨Fm.ns.sameBut hs16 (Nat.ne_of_lt (Nat.lt_succ_self L)), fun b o e => hs16.extBut b o (Nat.ne_of_lt (Nat.lt_succ_of_lt (Nat.lt_of_lt_of_le (Heap.lt_size e) Fm.above))) (Fm.keep b o e), Fm.above⟩
        change h₁₆.IsCell (L + 1) (some (.bool (Txt.isupper (sgn c (c.length - 1))))) at U16
        generalize Txt.isupper (sgn c (c.length - 1)) = up at U16 hpc
        dsimp only
        walk_at "m1"
        repeat walk_at "m1"
        refine c_len ?_ fun t13 k22 => ?_
        · omega
        refine c_st F16 rfl (by k_dflt rfl) rfl fun h₁₇ k23 F17 hs17 => ?_
        have U17 : h₁₇.IsCell (L + 1) (some (.bool up)) := by obtain ⟨o, ho, hdd⟩ := U16; exact ⟨o, hs17.extBut _ _ (Nat.succ_ne_self L) ho, hdd⟩
        dsimp only
        walk_at "m1"
        walk_at "m1"
        refine ldnLoc (v := .str (res ++ matchS c u) t) F17 (by k_dflt exact e5) ?_
        refine c_join rfl fun t14 => ?_
        refine comp_str (one up) (cl := [(Str.ofString "upper", L + 1)]) (by rfl) (by decide) rfl (by decide) rfl hh ?_
        repeat walk_at "m1"
        refine c_cut_sn (by omega) (by omega) (by omega) fun h₁₈ t15 k24 kp18 => ?_
        have U18 : h₁₈.IsCell (L + 1) (some (.bool up)) := by obtain ⟨o, ho, hdd⟩ := U17; exact ⟨o, kp18 _ _ ho, hdd⟩
        have hsl := len_sub_le u (c.length : Int).toNat u.length
        have hsub : (sub u (c.length : Int).toNat u.length).cps.toList = u.cps.toList.drop c.length := by
          rw [Int.toNat_natCast]
          show ((u.cps.toList.drop c.length).take (u.length - c.length)).toArray.toList = _
          rw [List.take_of_length_le (by rw [List.length_drop]; simp [Str.length])]
        refine ⟨_, _, rfl, ?_, ?_, ?_⟩
        · show (sub u (c.length : Int).toNat u.length).length ≤ _
          exact Nat.le_trans hsl (Nat.le_trans hul1 (by decide))
        · intro C d td s₃ m₃ E' hd hn3 hm1 hk3
          have Us : s₃.heap.IsCell (L + 1) (some (.bool up)) := by obtain ⟨o, ho, hdd⟩ := U18; exact ⟨o, hk3 _ _ ho, hdd⟩
          refine wpAny_IfExp (isTrue_nm ?_)
          refine ldCellK rfl Us ?_ (by k_dflt rfl) (by k_dflt rfl) (by decide)
          refine wpAny_truthy_bool ?_
          cases up
          · refine ite_neg (by decide) (call_lower rfl ?_)
            walk_at "m1"
            refine ⟨_, _, rfl, by show 1 ≤ _; decide, fun t' k => ⟨⟨t', ?_⟩, _, _, rfl, fun _ _ e => e⟩⟩
            rw [one, if_neg (by decide)]
          · refine ite_pos rfl (call_upper rfl ?_)
            walk_at "m1"
            refine ⟨_, _, rfl, by show 1 ≤ _; decide, fun t' k => ⟨⟨t', ?_⟩, _, _, rfl, fun _ _ e => e⟩⟩
            rw [one, if_pos rfl]
        · intro D h19 tk ys hD hl hP hk19
          rw [hsub] at hP
          have hlen3 : ∀ y ∈ (u.cps.toList.drop c.length).map (one up), y.length ≤ 3 := fun y hy => by
            obtain ⟨d, _, rfl⟩ := List.mem_map.mp hy
            exact len_one _ _
          have hcnt : ((u.cps.toList.drop c.length).map (one up)).length ≤ 100 := by
            rw [List.length_map, List.length_drop]
            have : u.cps.toList.length = u.length := by simp [Str.length]
            omega
          refine ⟨D, ys, _, rfl, hl.isList, hP, fun y hy => Nat.le_trans (hlen3 y hy) (by decide), Nat.le_trans hcnt (by decide), ?_⟩
          intro _ _ _ _ _ e t16 k25
          cases e
          have hcat := len_cat_le hlen3
          have hap := len_app res (matchS c u)
          refine c_iadds (by omega) (by omega) fun t17 k26 => ?_
          rw [app_assoc, ← hpc]
          refine c_st ((F17.keeps kp18).keeps hk19) rfl (by k_dflt rfl) rfl fun h₂₀ k27 F20 hs20 => ?_
          repeat (first | walk_at "m1" | dsimp only)
          refine ⟨.inl rfl, fin h₂₀ _ t17 _ (some (.bool up)) F20 (by k_dflt exact e1) (by k_dflt exact e2) (by k_dflt rfl) ?_ fun b o n1 n2 e => hs20.extBut b o n1 (hk19 b o (kp18 b o (hs17.extBut b o n1 (hs16.extBut b o n2 (kp' b o n1 e)))))⟩
          obtain ⟨o, ho, hdd⟩ := U18
          exact ⟨o, hs20.extBut _ _ (Nat.succ_ne_self L) (hk19 _ _ ho), hdd⟩
      · rw [if_neg hlt, app_nil] at hpc
        refine ite_neg (by simp; omega) ?_
        repeat (first | walk_at "m1" | dsimp only)
        exact ⟨.inl rfl, fin h m t _ ov Fm e1 e2 (by rw [hpc]; exact e5) Uc fun b o n1 n2 e => kp' b o n1 e⟩
  · rintro h tk ⟨m, t, ov, Fm, e1, e2, e3, U, kp⟩
    have hps' : ps.take items.size = ps := List.take_of_length_le (by have := paired_len hP; simp at this; omega)
    rw [hps'] at e3
    dsimp only
    repeat (first | walk_at "m1" | dsimp only)
    refine hR t h _ (fun b o hb e => ?_) (hPX _ _ hpx fun b o n1 n2 e => kp b o (hL ▸ n1) (hL ▸ n2) e)
    have hbs : b < L := hL ▸ Heap.lt_size e
    exact kp b o (Nat.ne_of_lt hbs) (Nat.ne_of_lt (Nat.lt_succ_of_lt hbs)) (hk₃ b o hb (kp₂ b o e))
end Mine
end

section
open PySem.Calls
namespace Mine
set_option maxRecDepth 100000
local macro_rules | `(tactic| walk_at "m1") => `(tactic| first
  | with_reducible refine wpAny_execs_cons ?_
  | with_reducible refine wpAny_execs_nil ?_
  | with_reducible refine wpAny_Return_some ?_
  | with_reducible refine wpAny_If ?_
  | ((with_reducible show wpAny _ _ (PySem.isTrue (Expr.Compare _ _ _ _) _ _) _ _ _); with_reducible refine wpAny_isTrue_Compare1 ?_ (by k_dflt rfl))
  | with_reducible refine wpAny_isTrue_Not ?_
  | with_reducible refine wpAny_isTrue_BoolOp ?_
  | with_reducible refine wpAny_allTrue_Or_cons ?_
  | with_reducible refine wpAny_allTrue_Or_nil ?_
  | with_reducible refine wpAny_allTrue_And_cons ?_
  | with_reducible refine wpAny_allTrue_And_nil ?_
  | with_reducible refine wpAny_UnaryOp ?_
  | with_reducible refine c_neg fun _ _ => ?_
  | with_reducible refine isTrue_nm ?_
  | with_reducible refine wpAny_Continue ?_
  | with_reducible refine assignInOrder_cons ?_
  | with_reducible refine assignInOrder_nil ?_
  | with_reducible refine wpAny_assign_Name ?_
  | ((with_reducible show wpAny _ _ (eval (Expr.Compare _ _ _ _) _) _ _ _); with_reducible refine wpAny_Compare1 ?_ (by k_dflt rfl))
  | with_reducible refine wpAny_BinOp ?_
  | with_reducible refine wpAny_IfExp ?_
  | with_reducible refine c_int fun _ _ => ?_
  | with_reducible refine c_str fun _ _ => ?_
  | with_reducible refine wpAny_Constant_bool ?_
  | with_reducible refine wpAny_Constant_none ?_
  | with_reducible refine wpAny_truthy_bool ?_
  | with_reducible refine Subscript_ ?_
  | with_reducible refine c_slice ?_
  | ((with_reducible show ∀ (_ : Heap) (_ : Array GenState) (_ : Drawn) (_ : Nat) (_ : OsState), Shared.mk _ _ _ _ _ = _ → _); intro _ _ _ _ _ e; cases e)
  | with_reducible refine evalPart_none_step ?_
  | with_reducible refine evalPart_some_step ?_
  | with_reducible refine spliced_none ?_
  | ((with_reducible show wpAny _ _ (spliced _) _ _ _); with_reducible refine spliced_more ?_ (by k_dflt rfl))
  | with_reducible refine wpAny_Call_NameR ?_
  | ((with_reducible show wpAny _ _ (callWith _ _ _ _ _) _ _ _); with_reducible refine callWith_builtin1 ?_ (by k_dflt rfl) (by k_dflt rfl))
  | ((with_reducible show wpAny _ _ (callWith _ _ _ _ _) _ _ _); with_reducible refine callWith_type1 ?_ (by k_dflt rfl) (by k_dflt rfl))
  | ((with_reducible show wpAny _ _ (callWith _ _ _ _ _) _ _ _); with_reducible refine callWith_method0 ?_)
  | ((with_reducible show wpAny _ _ (callWith _ _ _ _ _) _ _ _); with_reducible refine callWith_method1 ?_ (by k_dflt rfl) (by k_dflt rfl))
  | with_reducible refine P.ne_int ?_
  | with_reducible refine P.eq_int ?_
  | with_reducible refine P.lt_int ?_
  | with_reducible refine P.gt_int ?_
  | with_reducible refine c_sub fun _ _ => ?_
  | with_reducible refine c_add fun _ _ => ?_
  | ((with_reducible show wpAny _ _ (exec (Stmt.Assign _ _ _) _) _ _ _); with_reducible refine wpAny_Assign_Name ?_ (by k_dflt rfl))
  | with_reducible refine wpAny_AugAssign_Name ?_
  | walk_at "mname")
local macro_rules | `(tactic| walk_at "mname") => `(tactic| first
  | ((with_reducible show wpAny _ _ (eval (Expr.Name _ _) _) _ _ _); with_reducible refine ld (by assumption) (by first | k_dflt rfl | k_dflt assumption) ?_ (by k_dflt rfl) (by k_dflt rfl) (by decide))
  | ((with_reducible show wpAny _ _ (eval (Expr.Name _ _) _) _ _ _); with_reducible refine ldLoc (by assumption) (by first | k_dflt rfl | k_dflt assumption) ?_ (by k_dflt rfl) (by k_dflt rfl) (by decide))
  | ((with_reducible show wpAny _ _ (eval (Expr.Name _ _) _) _ _ _); with_reducible refine ldC (by assumption) (by k_dflt rfl) (by k_dflt rfl) ?_ (by k_dflt rfl) (by k_dflt rfl) (by decide))
  | ((with_reducible show wpAny _ _ (eval (Expr.Name _ _) _) _ _ _); with_reducible refine ldVarK (by k_dflt assumption) (by assumption) ?_ (by k_dflt rfl) (by k_dflt rfl) (by decide))
  | ((with_reducible show wpAny _ _ (eval (Expr.Name _ _) _) _ _ _); with_reducible refine nmB (by assumption) (by assumption) (by first | assumption | exact Fr.keep (by assumption)) (by kernel_rfl) (by boot_by_name) (by decide) ?_ (by k_dflt rfl) (by k_dflt rfl) (by k_dflt rfl) (by k_dflt rfl) (by decide))
  | ((with_reducible show wpAny _ _ (eval (Expr.Name _ _) _) _ _ _); with_reducible refine nmG (by assumption) (by assumption) (by first | assumption | exact Fr.keep (by assumption)) (by kernel_rfl) ?_ (by k_dflt rfl) (by k_dflt rfl) (by k_dflt rfl) (by decide)))

def CT : List (Nat × Bool) := [(65, true), (98, false), (32, false), (1071, true), (1076, false), (55, false)]
def PT : List (Nat × Str × Str) := [(97, ⟨#[65]⟩, ⟨#[97]⟩), (98, ⟨#[66]⟩, ⟨#[98]⟩), (1103, ⟨#[1071]⟩, ⟨#[1103]⟩), (32, ⟨#[32]⟩, ⟨#[32]⟩), (49, ⟨#[49]⟩, ⟨#[49]⟩), (223, ⟨#[83, 83]⟩, ⟨#[223]⟩)]
def RS : List Int := [4, 5, 8, 2, 1, 23, 3, 7, 0, 11, 2, 16, 4, 9, 5, 6, 1, 3, 3, 4, 2, 13, 8, 1, 4, 6, 3, 2, 5, 10, 6, 9, 2, 1, 7]
def TG : List Str := [Str.ofString "equal", Str.ofString "insert", Str.ofString "delete", Str.ofString "replace", Str.ofString "turned"]
def CasR (v : Value) (r : Nat × Bool) : Prop := ∃ k, v = .ref (25 + k) ∧ CT[k]? = some r
def PlaR (v : Value) (r : Nat × Str × Str) : Prop := ∃ k, v = .ref (32 + k) ∧ PT[k]? = some r
def pick (c : Nat × Bool) (p : Nat × Str × Str) : Str := if c.2 = true then p.2.1 else p.2.2
theorem cas_row {w : World} {h : Heap} (X : (K1 w).In h) : ∀ {k : Nat} {r : Nat × Bool}, CT[k]? = some r → ∃ t, IsTup h (25 + k) #[.str ⟨#[r.1]⟩ t, .bool r.2]
  | 0, _, e => by cases Option.some.inj e; exact ⟨_, _, X 25 _ (by rfl), rfl, _, by rfl⟩
  | 1, _, e => by cases Option.some.inj e; exact ⟨_, _, X 26 _ (by rfl), rfl, _, by rfl⟩
  | 2, _, e => by cases Option.some.inj e; exact ⟨_, _, X 27 _ (by rfl), rfl, _, by rfl⟩
  | 3, _, e => by cases Option.some.inj e; exact ⟨_, _, X 28 _ (by rfl), rfl, _, by rfl⟩
  | 4, _, e => by cases Option.some.inj e; exact ⟨_, _, X 29 _ (by rfl), rfl, _, by rfl⟩
  | 5, _, e => by cases Option.some.inj e; exact ⟨_, _, X 30 _ (by rfl), rfl, _, by rfl⟩
  | k + 6, _, e => by simp [CT] at e
theorem pla_row {w : World} {h : Heap} (X : (K1 w).In h) : ∀ {k : Nat} {r : Nat × Str × Str}, PT[k]? = some r → ∃ t u v, IsTup h (32 + k) #[.str ⟨#[r.1]⟩ t, .str r.2.1 u, .str r.2.2 v]
  | 0, _, e => by cases Option.some.inj e; exact ⟨_, _, _, _, X 32 _ (by rfl), rfl, _, by rfl⟩
  | 1, _, e => by cases Option.some.inj e; exact ⟨_, _, _, _, X 33 _ (by rfl), rfl, _, by rfl⟩
  | 2, _, e => by cases Option.some.inj e; exact ⟨_, _, _, _, X 34 _ (by rfl), rfl, _, by rfl⟩
  | 3, _, e => by cases Option.some.inj e; exact ⟨_, _, _, _, X 35 _ (by rfl), rfl, _, by rfl⟩
  | 4, _, e => by cases Option.some.inj e; exact ⟨_, _, _, _, X 36 _ (by rfl), rfl, _, by rfl⟩
  | 5, _, e => by cases Option.some.inj e; exact ⟨_, _, _, _, X 37 _ (by rfl), rfl, _, by rfl⟩
  | k + 6, _, e => by simp [PT] at e

theorem isTup_up {h h' : Heap} {D : Addr} {v : Array Value} (x : IsTup h D v) (k : ∀ b o, h.get? b = some o → h'.get? b = some o) : IsTup h' D v := by obtain ⟨o, ho, r⟩ := x; exact ⟨o, k _ _ ho, r⟩
theorem isList_up {h h' : Heap} {D : Addr} {v : Array Value} (x : h.IsList D v) (k : ∀ b o, h.get? b = some o → h'.get? b = some o) : h'.IsList D v := by obtain ⟨o, ho, r⟩ := x; exact ⟨o, k _ _ ho, r⟩
theorem paired_of_get {α : Type} {R : Value → α → Prop} : ∀ {vs : List Value} {as : List α}, vs.length = as.length → (∀ (i : Nat) (v : Value), vs[i]? = some v → ∃ a, as[i]? = some a ∧ R v a) → Paired R vs as
  | [], [], _, _ => .nil
  | v :: vs, a :: as, hl, h => by
    obtain ⟨a', e, r⟩ := h 0 v rfl
    injection e with e; subst e
    exact .cons r (paired_of_get (by simpa using hl) fun i v e => by simpa using h (i + 1) v (by simpa using e))
  | [], _ :: _, hl, _ => by cases hl
  | _ :: _, [], hl, _ => by cases hl

set_option maxHeartbeats 4000000 in
theorem tags_spec {w : World} {A : Around} {s : Shared} {mg mb : Str → Option Value} {p : Program} {loose : List Str} {Q : Value → Shared → Prop}
    (X : (K1 w).In s.heap) (T : TopRead p loose mg mb s.heap) (hroom : A.depth < 900)
    (h : ∀ l items h'' k'', h''.IsList l items → Paired IsS items.toList TG → (∀ b o, s.heap.get? b = some o → h''.get? b = some o) → Q (.ref l) { s with heap := h'', toks := k'' }) :
    wpAny (model P1 w) A (call (.ref 45) []) Q (fun _ _ => False) s := by
  refine wpAny_call (enter_def (K := K1 w) [] X T.nolimit (by rfl) (by kernel_rfl) (Nat.lt_of_lt_of_le hroom (by decide)) (BindsTo.of_eq rfl) (by intro y hy; cases hy) (by decide) rfl rfl rfl ?_)
  intro L h₁ hL F
  repeat walk_at "m1"
  refine c_list ?_
  repeat walk_at "m1"
  refine ⟨by simp, ?_⟩
  intro _ _ _ _ _ e D₂ h₃ hD₂ hl k3
  cases e
  repeat (first | walk_at "m1" | dsimp only)
  exact h D₂ _ h₃ _ hl.isList (by repeat (first | exact .nil | refine .cons ⟨_, rfl⟩ ?_)) fun b o e => k3 b o (F.keep b o e)

set_option maxHeartbeats 4000000 in
theorem rest_spec {w : World} {A : Around} {s : Shared} {mg mb : Str → Option Value} {p : Program} {loose : List Str} {Q : Value → Shared → Prop}
    (X : (K1 w).In s.heap) (T : TopRead p loose mg mb s.heap) (hroom : A.depth < 900)
    (h : ∀ l items h'' k'', h''.IsList l items → Paired IsI items.toList RS → (∀ b o, s.heap.get? b = some o → h''.get? b = some o) → Q (.ref l) { s with heap := h'', toks := k'' }) :
    wpAny (model P1 w) A (call (.ref 52) []) Q (fun _ _ => False) s := by
  refine wpAny_call (enter_def (K := K1 w) [] X T.nolimit (by rfl) (by kernel_rfl) (Nat.lt_of_lt_of_le hroom (by decide)) (BindsTo.of_eq rfl) (by intro y hy; cases hy) (by decide) rfl rfl rfl ?_)
  intro L h₁ hL F
  repeat walk_at "m1"
  refine c_list ?_
  repeat walk_at "m1"
  refine ⟨by simp, ?_⟩
  intro _ _ _ _ _ e D₂ h₃ hD₂ hl k3
  cases e
  repeat (first | walk_at "m1" | dsimp only)
  exact h D₂ _ h₃ _ hl.isList (by repeat (first | exact .nil | refine .cons ⟨_, rfl⟩ ?_)) fun b o e => k3 b o (F.keep b o e)

set_option maxHeartbeats 4000000 in
theorem form_spec {w : World} {A : Around} {s : Shared} {mg mb : Str → Option Value} {p : Program} {loose : List Str} {v : Value} {q : Nat × Str × Str} {big : Bool} {Q : Value → Shared → Prop}
    (X : (K1 w).In s.heap) (T : TopRead p loose mg mb s.heap) (hroom : A.depth < 900) (hv : PlaR v q)
    (h : ∀ t h'' k'', (∀ b o, s.heap.get? b = some o → h''.get? b = some o) → Q (.str (if big = true then q.2.1 else q.2.2) t) { s with heap := h'', toks := k'' }) :
    wpAny (model P1 w) A (call (.ref 59) [v, .bool big]) Q (fun _ _ => False) s := by
  obtain ⟨k, rfl, hk⟩ := hv
  refine wpAny_call (enter_def (K := K1 w) [("row", .ref (32 + k)), ("big", .bool big)] X T.nolimit (by rfl) (by kernel_rfl) (Nat.lt_of_lt_of_le hroom (by decide)) (BindsTo.of_eq rfl) (by exact locs rfl) (by decide) rfl rfl rfl ?_)
  intro L h₁ hL F
  obtain ⟨t1, t2, t3, hT⟩ := pla_row (X.keeps F.keep) hk
  repeat walk_at "m1"
  cases big
  · refine ite_neg (by decide) ?_
    repeat walk_at "m1"
    refine item_t hT (by decide) (by decide) rfl rfl ?_
    repeat (first | walk_at "m1" | dsimp only)
    exact h _ h₁ _ F.keep
  · refine ite_pos rfl ?_
    repeat walk_at "m1"
    refine item_t hT (by decide) (by decide) rfl rfl ?_
    repeat (first | walk_at "m1" | dsimp only)
    exact h _ h₁ _ F.keep
end Mine
end

section
open PySem.Calls
namespace Mine
set_option maxRecDepth 100000
/-! texts of rows -/
def ctxt (cs : List (Nat × Bool)) : Str := ⟨(cs.map (·.1)).toArray⟩
def ptxt (ps : List (Nat × Str × Str)) : Str := ⟨(ps.map (·.1)).toArray⟩
theorem cat_signs {α : Type} (f : α → Nat) (l : List α) : cat (l.map fun r => (⟨#[f r]⟩ : Str)) = ⟨(l.map f).toArray⟩ := by
  unfold cat
  congr 2
  induction l with
  | nil => rfl
  | cons a l ih => simp only [List.map_cons, List.flatMap_cons, ih]; rfl
theorem ctxt_len (cs : List (Nat × Bool)) : (ctxt cs).length = cs.length := by show ((cs.map (·.1)).toArray).size = _; simp
theorem ptxt_len (ps : List (Nat × Str × Str)) : (ptxt ps).length = ps.length := by show ((ps.map (·.1)).toArray).size = _; simp
def part {α : Type} (l : List α) (i j : Nat) : List α := (l.drop i).take (j - i)
theorem part_len {α : Type} (l : List α) {i j : Nat} (hj : j ≤ l.length) : (part l i j).length = j - i := by
  rw [part, List.length_take, List.length_drop]; omega
theorem ctxt_sub (cs : List (Nat × Bool)) (i j : Nat) : sub (ctxt cs) i j = ctxt (part cs i j) := by
  apply Str.ext'
  show ((((cs.map (·.1)).toArray.toList).drop i).take (j - i)).toArray = ((part cs i j).map (·.1)).toArray
  rw [List.toList_toArray, part, List.map_take, List.map_drop]
theorem ptxt_sub (ps : List (Nat × Str × Str)) (i j : Nat) : sub (ptxt ps) i j = ptxt (part ps i j) := by
  apply Str.ext'
  show ((((ps.map (·.1)).toArray.toList).drop i).take (j - i)).toArray = ((part ps i j).map (·.1)).toArray
  rw [List.toList_toArray, part, List.map_take, List.map_drop]
theorem CT_up : ∀ r ∈ CT, Txt.isupper ⟨#[r.1]⟩ = r.2 := by decide +kernel
theorem PT_up : ∀ r ∈ PT, Txt.upper ⟨#[r.1]⟩ = r.2.1 := by decide +kernel
theorem PT_lo : ∀ r ∈ PT, Txt.lower ⟨#[r.1]⟩ = r.2.2 := by decide +kernel
theorem PT_len : ∀ r ∈ PT, r.2.1.length ≤ 3 ∧ r.2.2.length ≤ 3 := by decide +kernel
theorem PT_up1 : ∀ r ∈ PT, Unicode.upperOf r.1 = r.2.1.cps.toList := by decide +kernel
theorem PT_lo1 : ∀ r ∈ PT, (r.1 == 0x3A3) = false ∧ Unicode.lowerOf r.1 = r.2.2.cps.toList := by decide +kernel
theorem CT_lo : ∀ r ∈ CT, (r.1 == 0x3A3) = false ∧ Unicode.lowerOf r.1 = [(Unicode.lowerOf r.1).headD 0] := by decide +kernel
theorem placed_flat (x : Str) (f : Nat → Nat → List Nat) (g : Nat → List Nat) (h : ∀ i c, x.cps.toList[i]? = some c → f i c = g c) : placed x f = (x.cps.toList.flatMap g).toArray := by
  apply Array.toList_inj.mp
  simp only [placed, Array.toList_flatten, Array.toList_mapIdx, List.toList_toArray, List.flatMap]
  congr 1
  apply List.ext_getElem?
  intro i
  simp only [Array.toList_map, Array.toList_mapIdx, List.getElem?_map, List.getElem?_mapIdx]
  cases e : x.cps.toList[i]? with
  | none => rfl
  | some c => simp [h i c e]
theorem upper_ptxt {rows : List (Nat × Str × Str)} (hp : ∀ q ∈ rows, q ∈ PT) : Txt.upper (ptxt rows) = cat (rows.map fun q => q.2.1) := by
  unfold Txt.upper
  rw [placed_flat (ptxt rows) _ Unicode.upperOf fun _ _ _ => rfl]
  unfold cat
  congr 2
  show ((rows.map (·.1)).toArray.toList).flatMap Unicode.upperOf = _
  rw [List.toList_toArray]
  induction rows with
  | nil => rfl
  | cons q rows ih =>
    simp only [List.map_cons, List.flatMap_cons]
    rw [PT_up1 q (hp q (.head _)), ih fun q h => hp q (List.mem_cons_of_mem _ h)]
theorem lower_ptxt {rows : List (Nat × Str × Str)} (hp : ∀ q ∈ rows, q ∈ PT) : Txt.lower (ptxt rows) = cat (rows.map fun q => q.2.2) := by
  unfold Txt.lower
  rw [placed_flat (ptxt rows) _ Unicode.lowerOf fun i c hc => by
    have hc2 : (ptxt rows).cps[i]? = some c := by simpa using hc
    have hm : c ∈ rows.map (·.1) := by
      have := List.mem_of_getElem? hc
      simpa [ptxt] using this
    obtain ⟨r, hr, rfl⟩ := List.mem_map.mp hm
    have h2 := PT_lo1 r (hp r hr)
    unfold Unicode.lowerAt
    rw [hc2]
    simp only [h2.1, Bool.false_and, Bool.false_eq_true, if_false]]
  unfold cat
  congr 2
  show ((rows.map (·.1)).toArray.toList).flatMap Unicode.lowerOf = _
  rw [List.toList_toArray]
  induction rows with
  | nil => rfl
  | cons q rows ih =>
    simp only [List.map_cons, List.flatMap_cons]
    rw [(PT_lo1 q (hp q (.head _))).2, ih fun q h => hp q (List.mem_cons_of_mem _ h)]
theorem lower_len {cs : List (Nat × Bool)} (hc : ∀ r ∈ cs, r ∈ CT) : (Txt.lower (ctxt cs)).length = (ctxt cs).length := by
  have : Txt.lower (ctxt cs) = ⟨(ctxt cs).cps.map fun c => (Unicode.lowerOf c).headD 0⟩ := by
    unfold Txt.lower
    rw [placed_single (ctxt cs) _ (fun c => (Unicode.lowerOf c).headD 0) fun i c hc' => by
      have hc2 : (ctxt cs).cps[i]? = some c := by simpa using hc'
      have hm : c ∈ cs.map (·.1) := by
        have := List.mem_of_getElem? hc'
        simpa [ctxt] using this
      obtain ⟨r, hr, rfl⟩ := List.mem_map.mp hm
      have h2 := CT_lo r (hc r hr)
      unfold Unicode.lowerAt
      rw [hc2]
      simp only [h2.1, Bool.false_and, Bool.false_eq_true, if_false]
      exact h2.2]
  rw [this]
  show ((ctxt cs).cps.map _).size = (ctxt cs).cps.size
  simp

def r0 : Nat × Bool := (65, true)
def q0 : Nat × Str × Str := (97, ⟨#[65]⟩, ⟨#[97]⟩)
/-- the replaced piece's signs, as the law lays them -/
def laid (seq : List (Nat × Bool)) (rows : List (Nat × Str × Str)) : List Str := (List.range rows.length).map fun i => pick (seq.getD (min i (seq.length - 1)) r0) (rows.getD i q0)
def lawPiece (cs : List (Nat × Bool)) (ps : List (Nat × Str × Str)) (q : Piece) : Str :=
  if q.tag = Str.ofString "delete" then ⟨#[]⟩
  else if q.tag = Str.ofString "equal" then ctxt (part cs q.i1 q.i2)
  else if q.tag = Str.ofString "insert" then cat ((part ps q.j1 q.j2).map (pick (cs.getD (nearS (ctxt cs) q.i1) r0)))
  else cat (laid (part cs q.i1 q.i2) (part ps q.j1 q.j2))
theorem mt_pick {r : Nat × Bool} {q : Nat × Str × Str} (hr : r ∈ CT) (hq : q ∈ PT) : mt r.1 q.1 = pick r q := by
  unfold mt pick
  rw [CT_up r hr, PT_up q hq, PT_lo q hq]
theorem one_pick {r : Nat × Bool} {q : Nat × Str × Str} (hq : q ∈ PT) : one r.2 q.1 = pick r q := by
  unfold one pick
  rw [PT_up q hq, PT_lo q hq]
theorem zip_pick : ∀ {cs : List (Nat × Bool)} {ps : List (Nat × Str × Str)}, (∀ r ∈ cs, r ∈ CT) → (∀ q ∈ ps, q ∈ PT) → List.zipWith mt (cs.map (·.1)) (ps.map (·.1)) = List.zipWith pick cs ps
  | [], _, _, _ => by simp
  | _ :: _, [], _, _ => by simp
  | r :: cs, q :: ps, hc, hp => by
    have := zip_pick (fun r h => hc r (List.mem_cons_of_mem _ h)) fun q h => hp q (List.mem_cons_of_mem _ h)
    show mt r.1 q.1 :: _ = pick r q :: _
    rw [mt_pick (hc r (.head _)) (hp q (.head _))]
    exact congrArg _ this
theorem laid_is {seq : List (Nat × Bool)} {rows : List (Nat × Str × Str)} (h0 : 0 < seq.length) : laid seq rows = List.zipWith pick seq rows ++ (rows.drop seq.length).map (pick (seq.getD (seq.length - 1) r0)) := by
  apply List.ext_getElem?
  intro i
  rw [laid, List.getElem?_map]
  by_cases hi : i < rows.length
  · rw [List.getElem?_range hi]
    have hr : rows[i]? = some (rows.getD i q0) := by rw [List.getD_eq_getElem?_getD, List.getElem?_eq_getElem hi]; rfl
    by_cases hs : i < seq.length
    · have hs' : seq[i]? = some (seq.getD i r0) := by rw [List.getD_eq_getElem?_getD, List.getElem?_eq_getElem hs]; rfl
      rw [List.getElem?_append_left (by rw [List.length_zipWith]; omega), List.getElem?_zipWith, hs', hr]
      show some (pick (seq.getD (min i (seq.length - 1)) r0) (rows.getD i q0)) = some (pick (seq.getD i r0) (rows.getD i q0))
      rw [show min i (seq.length - 1) = i by omega]
    · rw [List.getElem?_append_right (by rw [List.length_zipWith]; omega), List.length_zipWith, List.getElem?_map, List.getElem?_drop, show seq.length + (i - min seq.length rows.length) = i by omega, hr]
      show some (pick (seq.getD (min i (seq.length - 1)) r0) (rows.getD i q0)) = some (pick (seq.getD (seq.length - 1) r0) (rows.getD i q0))
      rw [show min i (seq.length - 1) = seq.length - 1 by omega]
  · rw [List.getElem?_eq_none (by rw [List.length_range]; omega), List.getElem?_eq_none (by rw [List.length_append, List.length_zipWith, List.length_map, List.length_drop]; omega)]
    rfl
theorem part_mem {α : Type} {l : List α} {P : α → Prop} (h : ∀ a ∈ l, P a) (i j : Nat) : ∀ a ∈ part l i j, P a := fun a ha => h a (List.mem_of_mem_drop (List.mem_of_mem_take ha))
theorem lawPiece_eq {cs : List (Nat × Bool)} {ps : List (Nat × Str × Str)} {q : Piece} (hc : ∀ r ∈ cs, r ∈ CT) (hp : ∀ r ∈ ps, r ∈ PT) (ok : PieceOk (ctxt cs) (ptxt ps) q) : lawPiece cs ps q = pieceS (ctxt cs) (ptxt ps) q := by
  have ha := ok.ha
  have hb := ok.hb
  rw [ctxt_len] at ha
  rw [ptxt_len] at hb
  unfold lawPiece pieceS
  by_cases hd : q.tag = Str.ofString "delete"
  · rw [if_pos hd, if_pos hd]
  rw [if_neg hd, if_neg hd, ctxt_sub, ptxt_sub]
  by_cases he : q.tag = Str.ofString "equal"
  · rw [if_pos he, if_neg (by rw [he]; decide), if_pos he]
  rw [if_neg he]
  have hpp := part_mem hp q.j1 q.j2
  have hcc := part_mem hc q.i1 q.i2
  by_cases hi : q.tag = Str.ofString "insert"
  · rw [if_pos hi, if_pos hi, upper_ptxt hpp, lower_ptxt hpp]
    have hn := ok.ins hi
    rw [ctxt_len] at hn
    have hat : cs[nearS (ctxt cs) q.i1]? = some (cs.getD (nearS (ctxt cs) q.i1) r0) := by rw [List.getD_eq_getElem?_getD, List.getElem?_eq_getElem hn]; rfl
    have hup : Txt.isupper (sgn (ctxt cs) (nearS (ctxt cs) q.i1)) = (cs.getD (nearS (ctxt cs) q.i1) r0).2 := by
      rw [← CT_up _ (hc _ (List.mem_of_getElem? hat))]
      congr 1
      show (⟨#[(cs.map (·.1)).toArray.toList.getD _ 0]⟩ : Str) = _
      rw [List.toList_toArray, List.getD_eq_getElem?_getD, List.getElem?_map, hat]; rfl
    rw [hup]
    generalize cs.getD (nearS (ctxt cs) q.i1) r0 = r
    split
    · next h => congr 1; exact List.map_congr_left fun q _ => by rw [pick, if_pos h]
    · next h => congr 1; exact List.map_congr_left fun q _ => by rw [pick, if_neg h]
  · rw [if_neg hi, if_neg hi, if_neg he]
    have h12 := ok.rep hd hi he
    have hsl := part_len cs (i := q.i1) ha
    generalize part cs q.i1 q.i2 = seq at hcc hsl
    generalize part ps q.j1 q.j2 = rows at hpp
    rw [laid_is (by omega), cat_append]
    have e0 : matchS (ctxt seq) (ptxt rows) = cat (List.zipWith pick seq rows) := by
      unfold matchS
      rw [← zip_pick hcc hpp]
      rfl
    rw [e0]
    congr 1
    by_cases hlt : seq.length < rows.length
    · rw [if_pos (by rw [ctxt_len, ptxt_len]; exact hlt)]
      congr 1
      have e1 : (ptxt rows).cps.toList.drop (ctxt seq).length = (rows.drop seq.length).map (·.1) := by
        rw [ctxt_len]
        show (rows.map (·.1)).toArray.toList.drop _ = _
        rw [List.toList_toArray, List.map_drop]
      have hl : seq[seq.length - 1]? = some (seq.getD (seq.length - 1) r0) := by rw [List.getD_eq_getElem?_getD, List.getElem?_eq_getElem (by omega)]; rfl
      have e2 : Txt.isupper (sgn (ctxt seq) ((ctxt seq).length - 1)) = (seq.getD (seq.length - 1) r0).2 := by
        rw [← CT_up _ (hcc _ (List.mem_of_getElem? hl))]
        congr 1
        show (⟨#[(seq.map (·.1)).toArray.toList.getD _ 0]⟩ : Str) = _
        rw [ctxt_len, List.toList_toArray, List.getD_eq_getElem?_getD, List.getElem?_map, hl]; rfl
      rw [e1, e2, List.map_map]
      exact List.map_congr_left fun q hm => (one_pick (hpp q (List.mem_of_mem_drop hm))).symm
    · rw [if_neg (by rw [ctxt_len, ptxt_len]; exact hlt), List.drop_eq_nil_of_le (by omega)]
      rfl
end Mine
end

section
open PySem.Calls
namespace Mine
set_option maxRecDepth 100000
local macro_rules | `(tactic| walk_at "m1") => `(tactic| first
  | with_reducible refine wpAny_execs_cons ?_
  | with_reducible refine wpAny_execs_nil ?_
  | with_reducible refine wpAny_Return_some ?_
  | with_reducible refine wpAny_If ?_
  | ((with_reducible show wpAny _ _ (PySem.isTrue (Expr.Compare _ _ _ _) _ _) _ _ _); with_reducible refine wpAny_isTrue_Compare1 ?_ (by k_dflt rfl))
  | with_reducible refine wpAny_isTrue_Not ?_
  | with_reducible refine wpAny_isTrue_BoolOp ?_
  | with_reducible refine wpAny_allTrue_Or_cons ?_
  | with_reducible refine wpAny_allTrue_Or_nil ?_
  | with_reducible refine wpAny_allTrue_And_cons ?_
  | with_reducible refine wpAny_allTrue_And_nil ?_
  | with_reducible refine wpAny_UnaryOp ?_
  | with_reducible refine c_neg fun _ _ => ?_
  | with_reducible refine isTrue_nm ?_
  | with_reducible refine wpAny_Continue ?_
  | with_reducible refine assignInOrder_cons ?_
  | with_reducible refine assignInOrder_nil ?_
  | with_reducible refine wpAny_assign_Name ?_
  | ((with_reducible show wpAny _ _ (eval (Expr.Compare _ _ _ _) _) _ _ _); with_reducible refine wpAny_Compare1 ?_ (by k_dflt rfl))
  | with_reducible refine wpAny_BinOp ?_
  | with_reducible refine wpAny_IfExp ?_
  | with_reducible refine c_int fun _ _ => ?_
  | with_reducible refine c_str fun _ _ => ?_
  | with_reducible refine wpAny_Constant_bool ?_
  | with_reducible refine wpAny_Constant_none ?_
  | with_reducible refine wpAny_truthy_bool ?_
  | with_reducible refine Subscript_ ?_
  | with_reducible refine c_slice ?_
  | ((with_reducible show ∀ (_ : Heap) (_ : Array GenState) (_ : Drawn) (_ : Nat) (_ : OsState), Shared.mk _ _ _ _ _ = _ → _); intro _ _ _ _ _ e; cases e)
  | with_reducible refine evalPart_none_step ?_
  | with_reducible refine evalPart_some_step ?_
  | with_reducible refine spliced_none ?_
  | ((with_reducible show wpAny _ _ (spliced _) _ _ _); with_reducible refine spliced_more ?_ (by k_dflt rfl))
  | with_reducible refine wpAny_Call_NameR ?_
  | ((with_reducible show wpAny _ _ (callWith _ _ _ _ _) _ _ _); with_reducible refine callWith_builtin1 ?_ (by k_dflt rfl) (by k_dflt rfl))
  | ((with_reducible show wpAny _ _ (callWith _ _ _ _ _) _ _ _); with_reducible refine callWith_type1 ?_ (by k_dflt rfl) (by k_dflt rfl))
  | ((with_reducible show wpAny _ _ (callWith _ _ _ _ _) _ _ _); with_reducible refine callWith_method0 ?_)
  | ((with_reducible show wpAny _ _ (callWith _ _ _ _ _) _ _ _); with_reducible refine callWith_method1 ?_ (by k_dflt rfl) (by k_dflt rfl))
  | with_reducible refine P.ne_int ?_
  | with_reducible refine P.eq_int ?_
  | with_reducible refine P.lt_int ?_
  | with_reducible refine P.gt_int ?_
  | with_reducible refine c_sub fun _ _ => ?_
  | with_reducible refine c_add fun _ _ => ?_
  | ((with_reducible show wpAny _ _ (exec (Stmt.Assign _ _ _) _) _ _ _); with_reducible refine wpAny_Assign_Name ?_ (by k_dflt rfl))
  | with_reducible refine wpAny_AugAssign_Name ?_
  | walk_at "mname")
local macro_rules | `(tactic| walk_at "mname") => `(tactic| first
  | ((with_reducible show wpAny _ _ (eval (Expr.Name _ _) _) _ _ _); with_reducible refine ld (by assumption) (by first | k_dflt rfl | k_dflt assumption) ?_ (by k_dflt rfl) (by k_dflt rfl) (by decide))
  | ((with_reducible show wpAny _ _ (eval (Expr.Name _ _) _) _ _ _); with_reducible refine ldLoc (by assumption) (by first | k_dflt rfl | k_dflt assumption) ?_ (by k_dflt rfl) (by k_dflt rfl) (by decide))
  | ((with_reducible show wpAny _ _ (eval (Expr.Name _ _) _) _ _ _); with_reducible refine ldC (by assumption) (by k_dflt rfl) (by k_dflt rfl) ?_ (by k_dflt rfl) (by k_dflt rfl) (by decide))
  | ((with_reducible show wpAny _ _ (eval (Expr.Name _ _) _) _ _ _); with_reducible refine ldVarK (by k_dflt assumption) (by assumption) ?_ (by k_dflt rfl) (by k_dflt rfl) (by decide))
  | ((with_reducible show wpAny _ _ (eval (Expr.Name _ _) _) _ _ _); with_reducible refine nmB (by assumption) (by assumption) (by first | assumption | exact Fr.keep (by assumption)) (by kernel_rfl) (by boot_by_name) (by decide) ?_ (by k_dflt rfl) (by k_dflt rfl) (by k_dflt rfl) (by k_dflt rfl) (by decide))
  | ((with_reducible show wpAny _ _ (eval (Expr.Name _ _) _) _ _ _); with_reducible refine nmG (by assumption) (by assumption) (by first | assumption | exact Fr.keep (by assumption)) (by kernel_rfl) ?_ (by k_dflt rfl) (by k_dflt rfl) (by k_dflt rfl) (by decide)))
theorem ne_list {g h : Heap} {L D : Addr} {m : Str → Option Value} {v : Array Value} (F : Fr g L h m) (x : h.IsList D v) : D ≠ L := by
  rintro rfl
  obtain ⟨o, ho, hc, n, hd⟩ := x
  obtain ⟨o', es, ep, ho', hd', _⟩ := F.ns
  have e := Option.some.inj (ho.symm.trans ho')
  subst e
  rw [hd] at hd'; cases hd'
theorem ne_cell {h : Heap} {c D : Addr} {w : Option Value} {v : Array Value} (U : h.IsCell c w) (x : h.IsList D v) : D ≠ c := by
  rintro rfl
  obtain ⟨o, ho, hc, n, hd⟩ := x
  obtain ⟨o', ho', hd'⟩ := U
  have e := Option.some.inj (ho.symm.trans ho')
  subst e
  rw [hd] at hd'; cases hd'
theorem cell_but {h h' : Heap} {c : Addr} {b : Addr} {v : Option Value} (U : h.IsCell c v) (hs : Heap.SameBut b h h') (hb : c ≠ b) : h'.IsCell c v := by
  obtain ⟨o, ho, hd⟩ := U; exact ⟨o, hs.extBut _ _ hb ho, hd⟩
theorem cell_ne {h h' : Heap} {c : Addr} {b : Addr} {v : Option Value} (U : h.IsCell c v) (k : ∀ a o, a ≠ b → h.get? a = some o → h'.get? a = some o) (hb : c ≠ b) : h'.IsCell c v := by
  obtain ⟨o, ho, hd⟩ := U; exact ⟨o, k _ _ hb ho, hd⟩
theorem pl_ne {h h' : Heap} {c : Addr} {b : Addr} {v : Array Value} (U : h.PlainList c v) (k : ∀ a o, a ≠ b → h.get? a = some o → h'.get? a = some o) (hb : c ≠ b) : h'.PlainList c v := U.at fun o e => k _ _ hb e
theorem ldCe {M : Model} {A : Around} {E : Value → Shared → Prop} {s : Shared} {env : Env} {x : Str} {pos : Pos} {c : Addr} {v : Value} {Q : Value → Shared → Prop} (hv : s.heap.IsCell c (some v)) (h : Q v s) (hk : env.scope.kind = .function) (hl : env.kindOf x = some .cell) (hc : env.cells.lookup x = some c) (hd : (x == ("__debug__" : Str)) = false) :
    wpAny M A (eval (.Name x pos) env) Q E s := wpAny_Name (wpAny_loadName_cell hk hl hc hv h) hd
theorem room (e : Env) : (callerA.deeper e).depth = 302 := rfl
theorem paired_app {α β : Type} {F : α → β → Prop} {c : List α} {d : List β} (h2 : Paired F c d) : ∀ {a : List α} {b : List β}, Paired F a b → Paired F (a ++ c) (b ++ d)
  | _, _, .nil => h2
  | _, _, .cons h t => .cons h (paired_app h2 t)
theorem fmod_lt (n : Int) {b : Int} (hb : 0 < b) : 0 ≤ Int.fmod n b ∧ Int.fmod n b < b := ⟨Int.fmod_nonneg_of_pos n hb, Int.fmod_lt_of_pos n hb⟩
theorem casR_uniq {v : Value} {r r' : Nat × Bool} (h : CasR v r) (h' : CasR v r') : r = r' := by
  obtain ⟨k, rfl, e⟩ := h
  obtain ⟨k', e', e''⟩ := h'
  have : 25 + k = 25 + k' := by injection e'
  obtain rfl : k = k' := Nat.add_left_cancel this
  exact Option.some.inj (e.symm.trans e'')
theorem plaR_uniq {v : Value} {r r' : Nat × Str × Str} (h : PlaR v r) (h' : PlaR v r') : r = r' := by
  obtain ⟨k, rfl, e⟩ := h
  obtain ⟨k', e', e''⟩ := h'
  have : 32 + k = 32 + k' := by injection e'
  obtain rfl : k = k' := Nat.add_left_cancel this
  exact Option.some.inj (e.symm.trans e'')
set_option maxHeartbeats 8000000 in
theorem piece_spec {w : World} {A : Around} {s : Shared} {mg mb : Str → Option Value} {p : Program} {loose : List Str} {lc lp : Addr} {ci pi : Array Value} {cs : List (Nat × Bool)} {ps : List (Nat × Str × Str)} {q : Piece} {tt t1 t2 t3 t4 : Tok} {Q : Value → Shared → Prop}
    (X : (K1 w).In s.heap) (TR : TopRead p loose mg mb s.heap) (hroom : A.depth < 800) (hh : A.handled = none) (hc : s.heap.IsList lc ci) (hp : s.heap.IsList lp pi) (hcr : Paired CasR ci.toList cs) (hpr : Paired PlaR pi.toList ps) (hcn : cs.length ≤ 100) (hpn : ps.length ≤ 100)
    (hcm : ∀ r ∈ cs, r ∈ CT) (hpm : ∀ r ∈ ps, r ∈ PT) (ok : PieceOk (ctxt cs) (ptxt ps) q)
    (h : ∀ t h'' k'', (∀ b o, s.heap.get? b = some o → h''.get? b = some o) → Q (.str (lawPiece cs ps q) t) { s with heap := h'', toks := k'' }) :
    wpAny (model P1 w) A (call (.ref 64) [.ref lc, .ref lp, .str q.tag tt, .int (q.i1 : Nat) t1, .int (q.i2 : Nat) t2, .int (q.j1 : Nat) t3, .int (q.j2 : Nat) t4]) Q (fun _ _ => False) s := by
  refine wpAny_call (enter_defC (K := K1 w) [("cased", .ref lc), ("plain", .ref lp), ("tag", .str q.tag tt), ("first", .int (q.i1 : Nat) t1), ("last", .int (q.i2 : Nat) t2), ("start", .int (q.j1 : Nat) t3), ("end", .int (q.j2 : Nat) t4)] X TR.nolimit (by rfl) (by kernel_rfl) (Nat.lt_of_lt_of_le hroom (by decide)) (BindsTo.of_eq rfl) (by exact rfl) rfl rfl rfl ?_)
  intro L h₁ tk hL F C
  have hcl : ci.size = cs.length := by have := paired_len hcr; simpa using this
  have hpl : pi.size = ps.length := by have := paired_len hpr; simpa using this
  have hc1 : h₁.IsList lc ci := isList_up hc F.keep
  have hp1 : h₁.IsList lp pi := isList_up hp F.keep
  have hcL := ne_list F hc1
  have Uca : h₁.IsCell (L + 1) (some (.ref lc)) := C.cell (Str.ofString "cased") (L + 1) (by k_dflt rfl)
  have Uro : h₁.IsCell (L + 2) none := C.cell (Str.ofString "rows") (L + 2) (by k_dflt rfl)
  have Une : h₁.IsCell (L + 3) none := C.cell (Str.ofString "near") (L + 3) (by k_dflt rfl)
  have Use : h₁.IsCell (L + 4) none := C.cell (Str.ofString "seq") (L + 4) (by k_dflt rfl)
  clear C
  have ha := ok.ha
  have hb := ok.hb
  have hi12 := ok.hi
  have hj12 := ok.hj
  rw [ctxt_len] at ha
  rw [ptxt_len] at hb
  repeat walk_at "m1"
  refine c_cut_l hp1 (.int _ _) (.int _ _) (by omega) fun D1 h2 hD1 hP1 kp2 => ?_
  rw [slicePick_run pi _ _ (by omega) hj12] at hP1
  have hrows : Paired PlaR (((pi.toList.drop q.j1).take (q.j2 - q.j1)).toArray).toList (part ps q.j1 q.j2) := paired_take (paired_drop hpr _) _
  have hrl := part_len ps (i := q.j1) hb
  have hrm := part_mem hpm q.j1 q.j2
  have hrs := paired_len hrows
  generalize ((pi.toList.drop q.j1).take (q.j2 - q.j1)).toArray = ri at hP1 hrows hrs
  have hrz : ri.size = (part ps q.j1 q.j2).length := by simpa using hrs
  have hD1c := ne_cell (Uro.keeps kp2) hP1.isList
  have hcc := ne_cell Uro hc1
  refine c_stc (F.keeps kp2) rfl rfl rfl (Uro.keeps kp2) (by omega) fun h3 F3 Uro3 hs3 => ?_
  have Uca3 := cell_but (Uca.keeps kp2) hs3 (by show @Ne Nat _ _; omega)
  have Une3 := cell_but (Une.keeps kp2) hs3 (by show @Ne Nat _ _; omega)
  have Use3 := cell_but (Use.keeps kp2) hs3 (by show @Ne Nat _ _; omega)
  have hP3 := pl_ne hP1 hs3.extBut hD1c
  have hc3 : h3.IsList lc ci := by obtain ⟨o, ho, r⟩ := isList_up hc1 kp2; exact ⟨o, hs3.extBut _ _ hcc ho, r⟩
  clear Uca Uro Une Use hs3 kp2 hP1 hp1 hc1 F
  dsimp only
  walk_at "m1"
  walk_at "m1"
  repeat walk_at "m1"
  refine eq_s ?_
  repeat walk_at "m1"
  by_cases hd : q.tag = Str.ofString "delete"
  · refine ite_pos (by simp [hd]) ?_
    repeat (first | walk_at "m1" | dsimp only)
    have e : Str.ofString "" = lawPiece cs ps q := by rw [lawPiece, if_pos hd]; decide
    rw [e]
    exact h _ h3 _ F3.keep
  refine ite_neg (by simp [hd]) ?_
  walk_at "m1"
  dsimp only
  walk_at "m1"
  repeat walk_at "m1"
  refine eq_s ?_
  repeat walk_at "m1"
  by_cases he : q.tag = Str.ofString "equal"
  · refine ite_pos (by simp [he]) ?_
    repeat walk_at "m1"
    refine c_join rfl fun t20 => ?_
    refine comp_list (cl := []) (fun v y => ∀ r, CasR v r → IsS y ⟨#[r.1]⟩) (by rfl) (by decide) rfl (by decide) rfl hh ?_
    walk_at "m1"
    refine ldCe Uca3 ?_ rfl (by k_dflt rfl) (by k_dflt rfl) (by decide)
    repeat walk_at "m1"
    refine c_cut_l hc3 (.int _ _) (.int _ _) (by omega) fun D2 h4 hD2 hP4 kp4 => ?_
    rw [slicePick_run ci _ _ (by omega) hi12] at hP4
    have hsub : Paired CasR (((ci.toList.drop q.i1).take (q.i2 - q.i1)).toArray).toList (part cs q.i1 q.i2) := paired_take (paired_drop hcr _) _
    have hsl := part_len cs (i := q.i1) ha
    have hss := paired_len hsub
    generalize ((ci.toList.drop q.i1).take (q.i2 - q.i1)).toArray = si at hP4 hsub hss
    have hsz : si.size = (part cs q.i1 q.i2).length := by simpa using hss
    have F4 := F3.keeps kp4
    refine ⟨D2, _, rfl, hP4.isList, Nat.le_trans (by omega : si.size ≤ 100) (by decide), ?_, ?_⟩
    · intro C v s₃ m₃ E' hv hn hm hk
      obtain ⟨r, hr, hvr⟩ := paired_mem hsub v hv
      obtain ⟨kr, rfl, hkr⟩ := id hvr
      obtain ⟨hp3, ge, dr, k3, os⟩ := s₃
      have kk : ∀ b o, Heap.get? _ b = some o → hp3.get? b = some o := fun b o e => hk b o (F4.keep b o e)
      obtain ⟨tr, hT⟩ := cas_row (X.keeps kk) hkr
      repeat walk_at "m1"
      refine item_t hT (by decide) (by decide) rfl rfl ?_
      refine ⟨fun r' h' => ?_, _, _, rfl, fun _ _ e => e⟩
      rw [← casR_uniq hvr h']; exact ⟨_, rfl⟩
    intro D3 h5 k5 y1 hD3 hl5 hF5 kp5
    have hj1 := paired_map (fun r : Nat × Bool => (⟨#[r.1]⟩ : Str)) (fun v a y r f => f a r) hsub hF5
    refine ⟨D3, _, _, rfl, hl5.isList, hj1, (fun y hy => by obtain ⟨r, _, rfl⟩ := List.mem_map.mp hy; show 1 ≤ 1000; decide), by rw [List.length_map]; omega, ?_⟩
    intro _ _ _ _ _ e t21 k21
    cases e
    have e : cat ((part cs q.i1 q.i2).map fun r => (⟨#[r.1]⟩ : Str)) = lawPiece cs ps q := by rw [lawPiece, if_neg hd, if_pos he]; exact cat_signs _ _
    rw [e]
    repeat (first | walk_at "m1" | dsimp only)
    exact h _ h5 _ (F4.keeps kp5).keep
  refine ite_neg (by simp [he]) ?_
  walk_at "m1"
  dsimp only
  walk_at "m1"
  repeat walk_at "m1"
  refine eq_s ?_
  repeat walk_at "m1"
  by_cases hi : q.tag = Str.ofString "insert"
  · refine ite_pos (by simp [hi]) ?_
    walk_at "m1"
    walk_at "m1"
    have hnear := ok.ins hi
    rw [ctxt_len] at hnear
    refine wpAny_mono (Q := fun v s' => ∃ t k, v = Value.int (nearS (ctxt cs) q.i1 : Nat) t ∧ s' = ⟨h3, s.gens, s.drawn, k, s.os⟩) ?_ (fun v s' hv => ?_) (fun _ _ x => x)
    · repeat walk_at "m1"
      by_cases h0 : q.i1 = 0
      · refine ite_pos (by simp [h0]) ?_
        refine ite_pos rfl ?_
        walk_at "m1"
        exact ⟨_, _, by rw [nearS, if_pos (.inl h0)], rfl⟩
      refine ite_neg (by simp; omega) ?_
      repeat walk_at "m1"
      refine ldCe Uca3 ?_ rfl (by k_dflt rfl) (by k_dflt rfl) (by decide)
      repeat walk_at "m1"
      obtain ⟨r, hr⟩ : ∃ r, cs[q.i1 - 1]? = some r := ⟨_, List.getElem?_eq_getElem (by omega)⟩
      obtain ⟨_, hvr, kr, rfl, hkr⟩ := paired_get hcr _ _ hr
      obtain ⟨tr, hT⟩ := cas_row (X.keeps F3.keep) hkr
      refine item_l hc3 (by omega) (by omega) (by rw [show ((q.i1 : Int) - 1).toNat = q.i1 - 1 by omega]; simpa using hvr) rfl ?_
      repeat walk_at "m1"
      refine item_t hT (by decide) (by decide) rfl rfl ?_
      repeat walk_at "m1"
      refine eq_s ?_
      repeat walk_at "m1"
      have hsg : (ctxt cs).cps.toList[q.i1 - 1]? = some r.1 := by
        show (cs.map (·.1)).toArray.toList[q.i1 - 1]? = _
        rw [List.toList_toArray, List.getElem?_map, hr]; rfl
      by_cases h32 : r.1 = 32
      · refine ite_pos (decide_eq_true ((is_blank r.1).mpr h32)) ?_
        refine ite_pos rfl ?_
        walk_at "m1"
        exact ⟨_, _, by rw [nearS, if_pos (.inr (by rw [hsg, h32]))], rfl⟩
      · refine ite_neg (fun e => h32 ((is_blank r.1).mp (of_decide_eq_true e))) ?_
        walk_at "m1"
        refine ite_neg (by decide) ?_
        repeat walk_at "m1"
        have e : ((q.i1 : Int) - 1) = (nearS (ctxt cs) q.i1 : Nat) := by
          rw [nearS, if_neg (by rintro (h | h); exact h0 h; rw [hsg] at h; exact h32 (Option.some.inj h))]
          omega
        rw [e]
        exact ⟨_, _, rfl, rfl⟩
    obtain ⟨t6, k6, rfl, rfl⟩ := hv
    have hcn3 := ne_cell Une3 hc3
    have hDn3 := ne_cell Une3 hP3.isList
    refine c_stc F3 rfl rfl rfl Une3 (by omega) fun h4 F4 Une4 hs4 => ?_
    have Uca4 := cell_but Uca3 hs4 (by show @Ne Nat _ _; omega)
    have Uro4 := cell_but Uro3 hs4 (by show @Ne Nat _ _; omega)
    have hP4 := pl_ne hP3 hs4.extBut hDn3
    have hc4 : h4.IsList lc ci := by obtain ⟨o, ho, r⟩ := hc3; exact ⟨o, hs4.extBut _ _ hcn3 ho, r⟩
    clear hs4 Une3 Uca3 Uro3 Use3 hP3 hc3 F3
    obtain ⟨r, hr⟩ : ∃ r, cs[nearS (ctxt cs) q.i1]? = some r := ⟨_, List.getElem?_eq_getElem hnear⟩
    obtain ⟨_, hvr, kr, rfl, hkr⟩ := paired_get hcr _ _ hr
    have hrd : cs.getD (nearS (ctxt cs) q.i1) r0 = r := by rw [List.getD_eq_getElem?_getD, hr]; rfl
    have hpc : lawPiece cs ps q = cat ((part ps q.j1 q.j2).map (pick r)) := by rw [lawPiece, if_neg hd, if_neg he, if_pos hi, hrd]
    dsimp only
    walk_at "m1"
    walk_at "m1"
    refine c_join rfl fun t20 => ?_
    refine comp_list (cl := [(Str.ofString "near", L + 3), (Str.ofString "cased", L + 1)]) (fun v y => ∀ p, PlaR v p → IsS y (pick r p)) (by rfl) (by decide) rfl (by decide) rfl hh ?_
    refine ldCe Uro4 ?_ rfl (by k_dflt rfl) (by k_dflt rfl) (by decide)
    refine ⟨D1, _, rfl, hP4.isList, Nat.le_trans (by omega : ri.size ≤ 100) (by decide), ?_, ?_⟩
    · intro C v s₃ m₃ E' hv hn hm hk
      obtain ⟨p, hp, hvp⟩ := paired_mem hrows v hv
      obtain ⟨hp3, ge, dr, k3, os⟩ := s₃
      have kk : ∀ b o, Heap.get? _ b = some o → hp3.get? b = some o := fun b o e => hk b o (F4.keep b o e)
      obtain ⟨tr, hT⟩ := cas_row (X.keeps kk) hkr
      have Us1 : hp3.IsCell _ _ := Uca4.keeps hk
      have Us2 : hp3.IsCell _ _ := Une4.keeps hk
      have hlc := isList_up hc4 hk
      walk_at "m1"
      refine nmG (v := .ref 59) X TR kk (by kernel_rfl) ?_ rfl rfl rfl (by decide)
      with_reducible refine callWith_K (K := K1 w) X (by kernel_rfl) ?_ (by k_dflt rfl) (by k_dflt rfl)
      repeat walk_at "m1"
      refine ldCellK rfl Us1 ?_ (by k_dflt rfl) (by k_dflt rfl) (by decide)
      repeat walk_at "m1"
      refine ldCellK rfl Us2 ?_ (by k_dflt rfl) (by k_dflt rfl) (by decide)
      refine item_l hlc (by omega) (by omega) (by rw [Int.toNat_natCast]; simpa using hvr) rfl ?_
      repeat walk_at "m1"
      refine item_t hT (by decide) (by decide) rfl rfl ?_
      repeat walk_at "m1"
      refine ⟨X.keeps kk, wp_false (form_spec (X.keeps kk) (TR.keeps kk) (by show A.depth + 1 < 900; omega) hvp fun t7 h7 k7 kp7 => ⟨fun p' hp' => ?_, _, _, rfl, kp7⟩)⟩
      rw [← plaR_uniq hvp hp']; exact ⟨_, rfl⟩
    intro D3 h5 k5 y1 hD3 hl5 hF5 kp5
    have hj1 := paired_map (pick r) (fun v a y r f => f a r) hrows hF5
    have hpk : ∀ y ∈ (part ps q.j1 q.j2).map (pick r), y.length ≤ 3 := fun y hy => by
      obtain ⟨p, hp, rfl⟩ := List.mem_map.mp hy
      have := PT_len p (hrm p hp)
      unfold pick
      split
      · exact this.1
      · exact this.2
    refine ⟨D3, _, _, rfl, hl5.isList, hj1, (fun y hy => Nat.le_trans (hpk y hy) (by decide)), by rw [List.length_map]; omega, ?_⟩
    intro _ _ _ _ _ e t21 k21
    cases e
    rw [← hpc]
    repeat (first | walk_at "m1" | dsimp only)
    exact h _ h5 _ (F4.keeps kp5).keep
  refine ite_neg (by simp [hi]) ?_
  walk_at "m1"
  dsimp only
  walk_at "m1"
  walk_at "m1"
  walk_at "m1"
  refine ldCe Uca3 ?_ rfl (by k_dflt rfl) (by k_dflt rfl) (by decide)
  repeat walk_at "m1"
  refine c_cut_l hc3 (.int _ _) (.int _ _) (by omega) fun D2 h4 hD2 hP4 kp4 => ?_
  rw [slicePick_run ci _ _ (by omega) hi12] at hP4
  have hsub : Paired CasR (((ci.toList.drop q.i1).take (q.i2 - q.i1)).toArray).toList (part cs q.i1 q.i2) := paired_take (paired_drop hcr _) _
  have hsl := part_len cs (i := q.i1) ha
  have hss := paired_len hsub
  generalize ((ci.toList.drop q.i1).take (q.i2 - q.i1)).toArray = si at hP4 hsub hss
  have hsz : si.size = (part cs q.i1 q.i2).length := by simpa using hss
  have h12 := ok.rep hd hi he
  have hDs := ne_cell (Use3.keeps kp4) hP4.isList
  have hDr := ne_cell (Use3.keeps kp4) (hP3.at (kp4 _)).isList
  refine c_stc (F3.keeps kp4) rfl rfl rfl (Use3.keeps kp4) (by omega) fun h5 F5 Use5 hs5 => ?_
  have Uro5 := cell_but (Uro3.keeps kp4) hs5 (by show @Ne Nat _ _; omega)
  have hR5 := pl_ne (hP3.at (kp4 _)) hs5.extBut hDr
  have hS5 := pl_ne hP4 hs5.extBut hDs
  clear hs5 Uca3 Uro3 Use3 Une3 hP3 hc3 F3 kp4 hP4
  have hpc : lawPiece cs ps q = cat (laid (part cs q.i1 q.i2) (part ps q.j1 q.j2)) := by rw [lawPiece, if_neg hd, if_neg he, if_neg hi]
  generalize part cs q.i1 q.i2 = sq at hsub hsl hss hsz hpc
  generalize part ps q.j1 q.j2 = rw at hrows hrl hrm hrs hrz hpc
  dsimp only
  walk_at "m1"
  walk_at "m1"
  refine c_join rfl fun t20 => ?_
  refine comp_range (cl := [(Str.ofString "seq", L + 4), (Str.ofString "rows", L + 2)]) (fun i y => ∃ x, (laid sq rw)[i]? = some x ∧ IsS y x) (by rfl) (by decide) rfl (by decide) rfl hh ?_
  repeat walk_at "m1"
  refine ldCe Uro5 ?_ rfl (by k_dflt rfl) (by k_dflt rfl) (by decide)
  repeat walk_at "m1"
  refine c_lenl hR5.isList (by omega) fun t21 k21 => ?_
  repeat walk_at "m1"
  refine c_range1 fun r h6 k6 t22 u22 v22 hr kp6 => ?_
  rw [hrz] at hr
  have F6 := F5.keeps kp6
  refine ⟨r, rw.length, t22, u22, v22, rfl, hr, by omega, ?_, ?_⟩
  · intro C i ti s₃ m₃ E' hin hn hm hk
    obtain ⟨hp3, ge, dr, k3, os⟩ := s₃
    have kk : ∀ b o, Heap.get? _ b = some o → hp3.get? b = some o := fun b o e => hk b o (F6.keep b o e)
    have Us1 : hp3.IsCell _ _ := Uro5.keeps fun b o e => hk b o (kp6 b o e)
    have Us2 : hp3.IsCell _ _ := Use5.keeps fun b o e => hk b o (kp6 b o e)
    have hlr := isList_up hR5.isList fun b o e => hk b o (kp6 b o e)
    have hls := isList_up hS5.isList fun b o e => hk b o (kp6 b o e)
    obtain ⟨p, hp⟩ : ∃ p, rw[i]? = some p := ⟨_, List.getElem?_eq_getElem hin⟩
    obtain ⟨vp, hvp, hvpr⟩ := paired_get hrows _ _ hp
    obtain ⟨r, hr'⟩ : ∃ r, sq[min i (sq.length - 1)]? = some r := ⟨_, List.getElem?_eq_getElem (by omega)⟩
    obtain ⟨_, hvr, kr, rfl, hkr⟩ := paired_get hsub _ _ hr'
    obtain ⟨tr, hT⟩ := cas_row (X.keeps kk) hkr
    have hlaid : (laid sq rw)[i]? = some (pick r p) := by
      rw [laid, List.getElem?_map, List.getElem?_range hin]
      show some (pick (sq.getD (min i (sq.length - 1)) r0) (rw.getD i q0)) = _
      rw [List.getD_eq_getElem?_getD, List.getD_eq_getElem?_getD, hr', hp]; rfl
    walk_at "m1"
    refine nmG (v := .ref 59) X TR kk (by kernel_rfl) ?_ rfl rfl rfl (by decide)
    with_reducible refine callWith_K (K := K1 w) X (by kernel_rfl) ?_ (by k_dflt rfl) (by k_dflt rfl)
    repeat walk_at "m1"
    refine ldCellK rfl Us1 ?_ (by k_dflt rfl) (by k_dflt rfl) (by decide)
    repeat walk_at "m1"
    refine item_l hlr (by omega) (by omega) (by rw [Int.toNat_natCast]; simpa using hvp) rfl ?_
    repeat walk_at "m1"
    refine ldCellK rfl Us2 ?_ (by k_dflt rfl) (by k_dflt rfl) (by decide)
    repeat walk_at "m1"
    refine ldCellK rfl Us2 ?_ (by k_dflt rfl) (by k_dflt rfl) (by decide)
    repeat walk_at "m1"
    refine c_lenl hls (by omega) fun t23 k23 => ?_
    repeat walk_at "m1"
    refine c_min hh fun h7 k7 t24 kp7 => ?_
    have e : min (i : Int) ((si.size : Int) - 1) = ((min i (sq.length - 1) : Nat) : Int) := by omega
    rw [e]
    refine item_l (isList_up hls kp7) (by omega) (by omega) (by rw [Int.toNat_natCast]; simpa using hvr) rfl ?_
    repeat walk_at "m1"
    refine item_t (isTup_up hT kp7) (by decide) (by decide) rfl rfl ?_
    repeat walk_at "m1"
    have kk7 : ∀ b o, Heap.get? _ b = some o → h7.get? b = some o := fun b o e => kp7 b o (kk b o e)
    exact ⟨X.keeps kk7, wp_false (form_spec (X.keeps kk7) (TR.keeps kk7) (by show A.depth + 1 < 900; omega) hvpr fun t7 h8 k8 kp8 => ⟨⟨_, hlaid, _, rfl⟩, _, _, rfl, fun b o e => kp8 b o (kp7 b o e)⟩)⟩
  intro D3 h8 k8 y1 hD3 hl8 hF8 kp8
  have hll : (laid sq rw).length = rw.length := by rw [laid, List.length_map, List.length_range]
  have hj1 : Paired IsS y1.toList (laid sq rw) := by
    have hyl := paired_len hF8
    rw [List.length_range] at hyl
    refine paired_of_get (by rw [← hyl, hll]) fun i y hy => ?_
    have hi : i < rw.length := by rw [hyl]; exact (List.getElem?_eq_some_iff.mp hy).1
    obtain ⟨j, hj, x, h1, h2⟩ := paired_get hF8 i y hy
    have : j = i := by rw [List.getElem?_range hi] at hj; exact (Option.some.inj hj).symm
    subst this
    exact ⟨x, h1, h2⟩
  have hpk : ∀ y ∈ laid sq rw, y.length ≤ 3 := fun y hy => by
    obtain ⟨i, hi, rfl⟩ := List.mem_map.mp hy
    have hi' := List.mem_range.mp hi
    have hm : rw.getD i q0 ∈ rw := by rw [List.getD_eq_getElem?_getD, List.getElem?_eq_getElem hi']; exact List.getElem_mem hi'
    have := PT_len _ (hrm _ hm)
    unfold pick
    split
    · exact this.1
    · exact this.2
  refine ⟨D3, _, _, rfl, hl8.isList, hj1, (fun y hy => Nat.le_trans (hpk y hy) (by decide)), by rw [hll]; omega, ?_⟩
  intro _ _ _ _ _ e t25 k25
  cases e
  rw [← hpc]
  repeat (first | walk_at "m1" | dsimp only)
  exact h _ h8 _ (F6.keeps kp8).keep
end Mine
end

section
open PySem.Calls
namespace Mine
set_option maxRecDepth 100000
local macro_rules | `(tactic| walk_at "m1") => `(tactic| first
  | with_reducible refine wpAny_execs_cons ?_
  | with_reducible refine wpAny_execs_nil ?_
  | with_reducible refine wpAny_Return_some ?_
  | with_reducible refine wpAny_If ?_
  | ((with_reducible show wpAny _ _ (PySem.isTrue (Expr.Compare _ _ _ _) _ _) _ _ _); with_reducible refine wpAny_isTrue_Compare1 ?_ (by k_dflt rfl))
  | with_reducible refine wpAny_isTrue_Not ?_
  | with_reducible refine wpAny_isTrue_BoolOp ?_
  | with_reducible refine wpAny_allTrue_Or_cons ?_
  | with_reducible refine wpAny_allTrue_Or_nil ?_
  | with_reducible refine wpAny_allTrue_And_cons ?_
  | with_reducible refine wpAny_allTrue_And_nil ?_
  | with_reducible refine wpAny_UnaryOp ?_
  | with_reducible refine c_neg fun _ _ => ?_
  | with_reducible refine isTrue_nm ?_
  | with_reducible refine wpAny_Continue ?_
  | with_reducible refine assignInOrder_cons ?_
  | with_reducible refine assignInOrder_nil ?_
  | with_reducible refine wpAny_assign_Name ?_
  | ((with_reducible show wpAny _ _ (eval (Expr.Compare _ _ _ _) _) _ _ _); with_reducible refine wpAny_Compare1 ?_ (by k_dflt rfl))
  | with_reducible refine wpAny_BinOp ?_
  | with_reducible refine wpAny_IfExp ?_
  | with_reducible refine c_int fun _ _ => ?_
  | with_reducible refine c_str fun _ _ => ?_
  | with_reducible refine wpAny_Constant_bool ?_
  | with_reducible refine wpAny_Constant_none ?_
  | with_reducible refine wpAny_truthy_bool ?_
  | with_reducible refine Subscript_ ?_
  | with_reducible refine c_slice ?_
  | ((with_reducible show ∀ (_ : Heap) (_ : Array GenState) (_ : Drawn) (_ : Nat) (_ : OsState), Shared.mk _ _ _ _ _ = _ → _); intro _ _ _ _ _ e; cases e)
  | with_reducible refine evalPart_none_step ?_
  | with_reducible refine evalPart_some_step ?_
  | with_reducible refine spliced_none ?_
  | ((with_reducible show wpAny _ _ (spliced _) _ _ _); with_reducible refine spliced_more ?_ (by k_dflt rfl))
  | with_reducible refine wpAny_Call_NameR ?_
  | ((with_reducible show wpAny _ _ (callWith _ _ _ _ _) _ _ _); with_reducible refine callWith_builtin1 ?_ (by k_dflt rfl) (by k_dflt rfl))
  | ((with_reducible show wpAny _ _ (callWith _ _ _ _ _) _ _ _); with_reducible refine callWith_type1 ?_ (by k_dflt rfl) (by k_dflt rfl))
  | ((with_reducible show wpAny _ _ (callWith _ _ _ _ _) _ _ _); with_reducible refine callWith_method0 ?_)
  | ((with_reducible show wpAny _ _ (callWith _ _ _ _ _) _ _ _); with_reducible refine callWith_method1 ?_ (by k_dflt rfl) (by k_dflt rfl))
  | with_reducible refine P.ne_int ?_
  | with_reducible refine P.eq_int ?_
  | with_reducible refine P.lt_int ?_
  | with_reducible refine P.gt_int ?_
  | with_reducible refine c_sub fun _ _ => ?_
  | with_reducible refine c_add fun _ _ => ?_
  | ((with_reducible show wpAny _ _ (exec (Stmt.Assign _ _ _) _) _ _ _); with_reducible refine wpAny_Assign_Name ?_ (by k_dflt rfl))
  | with_reducible refine wpAny_AugAssign_Name ?_
  | walk_at "mname")
local macro_rules | `(tactic| walk_at "mname") => `(tactic| first
  | ((with_reducible show wpAny _ _ (eval (Expr.Name _ _) _) _ _ _); with_reducible refine ld (by assumption) (by first | k_dflt rfl | k_dflt assumption) ?_ (by k_dflt rfl) (by k_dflt rfl) (by decide))
  | ((with_reducible show wpAny _ _ (eval (Expr.Name _ _) _) _ _ _); with_reducible refine ldLoc (by assumption) (by first | k_dflt rfl | k_dflt assumption) ?_ (by k_dflt rfl) (by k_dflt rfl) (by decide))
  | ((with_reducible show wpAny _ _ (eval (Expr.Name _ _) _) _ _ _); with_reducible refine ldC (by assumption) (by k_dflt rfl) (by k_dflt rfl) ?_ (by k_dflt rfl) (by k_dflt rfl) (by decide))
  | ((with_reducible show wpAny _ _ (eval (Expr.Name _ _) _) _ _ _); with_reducible refine ldVarK (by k_dflt assumption) (by assumption) ?_ (by k_dflt rfl) (by k_dflt rfl) (by decide))
  | ((with_reducible show wpAny _ _ (eval (Expr.Name _ _) _) _ _ _); with_reducible refine nmB (by assumption) (by assumption) (by first | assumption | exact Fr.keep (by assumption)) (by kernel_rfl) (by boot_by_name) (by decide) ?_ (by k_dflt rfl) (by k_dflt rfl) (by k_dflt rfl) (by k_dflt rfl) (by decide))
  | ((with_reducible show wpAny _ _ (eval (Expr.Name _ _) _) _ _ _); with_reducible refine nmG (by assumption) (by assumption) (by first | assumption | exact Fr.keep (by assumption)) (by kernel_rfl) ?_ (by k_dflt rfl) (by k_dflt rfl) (by k_dflt rfl) (by decide)))
theorem good_true {M : Model} {A : Around} {t : Sem Flow} {s s₁ : Shared} {c : ClaimW} {cl : Str → Option Addr} {mean : ExcName → Option Value} {args : List WData} {E : Value → Shared → Prop}
    (hr : ∀ cls, c.raises args cls = false) (hp : c.post args (.bool true) args = true) (hg : s₁.gens = #[])
    (h : wpAny M A t (fun f s' => f = .ret (.bool true) ∧ (∀ b o, s₁.heap.get? b = some o → s'.heap.get? b = some o) ∧ s'.gens = s₁.gens ∧ s'.os = s₁.os) (fun _ _ => False) s) :
    wpAny M A t (fun f s' => GoodW c cl mean args s₁ (.ok (.ret (match f with | .ret v => v | _ => .none))) s') E s := by
  refine wpAny_mono h (fun f s' h' => ?_) fun _ _ x => x.elim
  obtain ⟨rfl, kp, hge, hos⟩ := h'
  exact ⟨.inl ⟨_, _, [], rfl, hr, ReadsW.bool true, hp, fun _ => ⟨List.nodup_nil, fun _ h => by simp at h⟩⟩, kp, hos, hge.trans hg⟩
theorem cell_none {h : Heap} {c c' : Addr} {v : Option Value} (x : h.IsCell c v) (hc : c = c') (e : v = none) : h.IsCell c' none := hc ▸ e ▸ x
def DD (ns : List Int) : List Int := (ns ++ RS.drop ns.length).take 35
theorem DD_len (ns : List Int) : (DD ns).length = 35 := by
  have h : (DD ns).length = min 35 (ns.length + (35 - ns.length)) := by
    show ((ns ++ RS.drop ns.length).take 35).length = _
    rw [List.length_take, List.length_append, List.length_drop]; rfl
  rw [h]; omega
def crow (n : Int) : Nat × Bool := CT.getD (Int.fmod n 6).toNat r0
def prow (n : Int) : Nat × Str × Str := PT.getD (Int.fmod (Int.fdiv n 6) 6).toNat q0
theorem crow_at (n : Int) : CT[(Int.fmod n 6).toNat]? = some (crow n) := by
  have h := fmod_lt n (b := 6) (by decide)
  have hl : CT.length = 6 := rfl
  rw [crow, List.getD_eq_getElem?_getD, List.getElem?_eq_getElem (by omega)]; rfl
theorem prow_at (n : Int) : PT[(Int.fmod (Int.fdiv n 6) 6).toNat]? = some (prow n) := by
  have h := fmod_lt (Int.fdiv n 6) (b := 6) (by decide)
  have hl : PT.length = 6 := rfl
  rw [prow, List.getD_eq_getElem?_getD, List.getElem?_eq_getElem (by omega)]; rfl
theorem crow_mem (n : Int) : crow n ∈ CT := List.mem_of_getElem? (crow_at n)
theorem prow_mem (n : Int) : prow n ∈ PT := List.mem_of_getElem? (prow_at n)
def cAddrs : List Value := (List.range 6).map fun k => .ref (25 + k)
def pAddrs : List Value := (List.range 6).map fun k => .ref (32 + k)
theorem cas_list {w : World} {h : Heap} (X : (K1 w).In h) : h.IsList 31 cAddrs.toArray := ⟨_, X 31 _ (by rfl), rfl, _, by rfl⟩
theorem pla_list {w : World} {h : Heap} (X : (K1 w).In h) : h.IsList 38 pAddrs.toArray := ⟨_, X 38 _ (by rfl), rfl, _, by rfl⟩
theorem cAddrs_at {k : Nat} (h : k < 6) : cAddrs.toArray[k]? = some (.ref (25 + k)) := by
  rw [List.getElem?_toArray, cAddrs, List.getElem?_map, List.getElem?_range h]; rfl
theorem pAddrs_at {k : Nat} (h : k < 6) : pAddrs.toArray[k]? = some (.ref (32 + k)) := by
  rw [List.getElem?_toArray, pAddrs, List.getElem?_map, List.getElem?_range h]; rfl
theorem draws_paired {vs : List Value} {ns : List Int} {lits : Array Value} (hI : IntsAre vs ns) (hl : Paired IsI lits.toList RS) : Paired IsI (slicePick (vs.toArray ++ slicePick lits (some (vs.toArray.size : Nat)) none none) none (some 35) none).toList (DD ns) := by
  refine (congrArg (fun x : Array Value => Paired IsI x.toList (DD ns)) (slicePick_upto' (vs.toArray ++ slicePick lits (some (vs.toArray.size : Nat)) none none) 35)).mpr ?_
  rw [slicePick_from', List.toList_toArray]
  have hp := ints_paired hI
  have hv := paired_len hp
  refine paired_take ?_ 35
  rw [Array.toList_append, List.toList_toArray, List.size_toArray, List.toList_toArray, hv]
  exact paired_app (paired_drop hl _) hp
theorem seg_paired {dv : Array Value} {ns : List Int} {lo up : Int} (a n : Nat) (hd : Paired IsI dv.toList (DD ns)) (h : a + n ≤ 35) (hlo : lo = (a : Nat)) (hup : up = ((a + n : Nat) : Int)) : Paired IsI (slicePick dv (some lo) (some up) none).toList (part (DD ns) a (a + n)) := by
  subst hlo hup
  have hv := paired_len hd
  have hD := DD_len ns
  have hs : dv.size = dv.toList.length := by simp
  rw [slicePick_run _ _ _ (by rw [hs]; omega) (Nat.le_add_right a n), List.toList_toArray]
  exact paired_take (paired_drop hd a) _
theorem good_true2 {M : Model} {A : Around} {t : Sem Flow} {s s₁ : Shared} {c : ClaimW} {cl : Str → Option Addr} {mean : ExcName → Option Value} {args : List WData} {E : Value → Shared → Prop} {G : Heap → Prop}
    (hr : ∀ cls, c.raises args cls = false) (hp : c.post args (.bool true) args = true) (hg : s₁.gens = #[])
    (h : wpAny M A t (fun f s' => f = .ret (.bool true) ∧ (∀ b o, s₁.heap.get? b = some o → s'.heap.get? b = some o) ∧ s'.gens = s₁.gens ∧ s'.os = s₁.os ∧ G s'.heap) (fun _ _ => False) s) :
    wpAny M A t (fun f s' => GoodW c cl mean args s₁ (.ok (.ret (match f with | .ret v => v | _ => .none))) s' ∧ G s'.heap) E s := by
  refine wpAny_mono h (fun f s' h' => ?_) fun _ _ x => x.elim
  obtain ⟨rfl, kp, hge, hos, hG⟩ := h'
  exact ⟨⟨.inl ⟨_, _, [], rfl, hr, ReadsW.bool true, hp, fun _ => ⟨List.nodup_nil, fun _ h => by simp at h⟩⟩, kp, hos, hge.trans hg⟩, hG⟩
theorem pl_lt {h : Heap} {D : Addr} {v : Array Value} (x : h.PlainList D v) : D ≠ h.objs.size := by obtain ⟨n, e⟩ := x; exact Nat.ne_of_lt (Heap.lt_size e)
theorem cell_lt {h : Heap} {D : Addr} {v : Option Value} (x : h.IsCell D v) : D ≠ h.objs.size := by obtain ⟨n, e, _⟩ := x; exact Nat.ne_of_lt (Heap.lt_size e)
theorem fmod_nat (n : Int) {b : Int} (hb : 0 < b) : ∃ k : Nat, Int.fmod n b = (k : Int) ∧ (k : Int) < b := ⟨(Int.fmod n b).toNat, by have := fmod_lt n hb; omega, by have := fmod_lt n hb; omega⟩
theorem codeRec_up {h h' : Heap} {c : Addr} {q : Str} (x : h.CodeRec (.ref c) q) (k : ∀ o, h.get? c = some o → h'.get? c = some o) : h'.CodeRec (.ref c) q := by
  obtain ⟨c2, oc, vs2, t2, e2, hoc, hd2, hv2⟩ := x
  cases e2
  exact ⟨_, oc, vs2, t2, rfl, k _ hoc, hd2, hv2⟩
theorem enter_clo {prog : Program} {w : World} {A : Around} {s : Shared} {R : Result → Shared → Prop} {name qual : Str} {params : Arguments} {body : List Stmt} {scope : Scope} {clos : List (Str × Addr)} {doc pm ctv : Value} {c' f : Addr} {args : Args} (binds : List (Str × Value))
    (ho : s.heap.get? f = some (fnMade name qual params body scope clos doc pm c' ctv)) (hlim : s.heap.NoLimit) (hcd : s.heap.CodeRec (.ref c') qual) (hroom : A.depth < recursionLimit)
    (hbind : BindsTo s (fnX name qual params body scope clos .none .none doc pm none (.ref c') ctv) args binds) (hloc : ∀ y ∈ binds, scope.names.lookup y.1 = some .local) (hcell : ∀ x ∈ scope.names, x.2 ≠ .cell)
    (hco : scope.isCoroutine = false) (hgen : scope.isGenerator = false) (hk : scope.kind = .function)
    (h : ∀ (L : Nat) (h₁ : Heap), L = s.heap.objs.size → h₁.Ns L (fun y => binds.reverse.lookup y) → (∀ b o, s.heap.get? b = some o → h₁.get? b = some o) →
      wpAny (model prog w) (A.deeper (callEnv (fnX name qual params body scope clos .none .none doc pm none (.ref c') ctv) L f)) (execs body (callEnv (fnX name qual params body scope clos .none .none doc pm none (.ref c') ctv) L f))
        (fun fl s' => R (.ok (.ret (match fl with | .ret v => v | _ => .none))) s') (fun _ _ => False) { s with heap := h₁, toks := s.toks + binds.length }) :
    codeAny (model prog w) A (.call (.ref f) args) R s := by
  refine codeAny_call_def (fd := fnX name qual params body scope clos .none .none doc pm none (.ref c') ctv) (body := body) (binds := binds) hroom ho rfl hlim hcd rfl hbind hcell hloc (fun h₁ hns hk₁ => ?_) hco hgen hk
  exact wpAny_mono (h _ h₁ rfl hns hk₁) (fun _ _ x => x) fun _ _ x => x.elim
theorem ldFe {M : Model} {A : Around} {E : Value → Shared → Prop} {s : Shared} {env : Env} {x : Str} {pos : Pos} {c : Addr} {v : Value} {Q : Value → Shared → Prop} (hv : s.heap.IsCell c (some v)) (h : Q v s) (hk : env.scope.kind = .function) (hl : env.kindOf x = some .free) (hc : env.cells.lookup x = some c) (hd : (x == ("__debug__" : Str)) = false) (hn : (x == ("__classdict__" : Str)) = false) :
    wpAny M A (eval (.Name x pos) env) Q E s := wpAny_Name (wpAny_loadName_free hk hl hc hv h hn) hd
theorem c_tupleX {M : Model} {A : Around} {E : Value → Shared → Prop} {env : Env} {Q : Value → Shared → Prop} {elts : List Expr} {k : Nat} {pos : Pos} {s : Shared}
    (h : wpAny M A (spliced (backTo pos (starEach elts env))) (fun vs s₁ => vs.length ≤ 1000000 ∧ ∀ h g d k o, s₁ = ⟨h, g, d, k, o⟩ → ∀ h', IsTup h' h.objs.size vs.toArray → (∀ b o, h.get? b = some o → h'.get? b = some o) → Q (.ref h.objs.size) ⟨h', g, d, k, o⟩) E s) :
    wpAny M A (eval (.Tuple elts k pos) env) Q E s :=
  wpAny_Tuple (wpAny_mono h (fun vs s₁ ⟨hl, h₁⟩ => ⟨Nat.le_trans hl (by decide), h₁ _ _ _ _ _ rfl _ ⟨_, Heap.get?_push_size _ rfl, rfl, 0, rfl⟩ fun b o e => Heap.get?_push_of_some _ e⟩) fun _ _ e => e)
theorem ldLe {M : Model} {A : Around} {E : Value → Shared → Prop} {s : Shared} {env : Env} {x : Str} {pos : Pos} {v : Value} {Q : Value → Shared → Prop} {m : Str → Option Value} (hn : s.heap.Ns env.locals m) (hv : m x = some v) (h : Q v s) (hk : env.scope.kind = .function) (hl : env.kindOf x = some .local) (hd : (x == ("__debug__" : Str)) = false) :
    wpAny M A (eval (.Name x pos) env) Q E s := wpAny_Name (wpAny_loadName_local hk hl hn hv h) hd
theorem unitsA (e : Env) : (callerA.deeper e).units < cLine := by
  show (7 : Nat) < cLine
  decide
theorem unitsB (e : Env) : (callerA.deeper e).in1.units < cLine := by
  show (8 : Nat) < cLine
  decide
set_option maxHeartbeats 8000000 in
theorem fin02 : PySem.Challenge.rw_gb5018_02.Holds := Mine.hd02 (by
  k_go0
  rename Shared => S1
  rename Fr _ _ _ _ => F
  rename Top _ _ _ _ _ _ => T
  rename News _ _ _ _ => N0
  rename Heap.IsList _ _ _ => hl
  rename IntsAre _ _ => hI
  rename ¬ _ => hn63
  rename Frag.In _ _ => X
  have TR := topRead_of T
  have Up : Heap.IsCell _ _ _ := ⟨_, (N0 _ (.head _)).1, by assumption⟩
  have Ua : Heap.IsCell _ _ _ := ⟨_, (N0 _ (.tail _ (.head _))).1, by assumption⟩
  have tab := (N0 _ (.tail _ (.tail _ (.head _)))).1
  have FF : ∃ M, Fr _ _ _ M ∧ M (Str.ofString "script") = some _ := ⟨_, F, by k_dflt rfl⟩
  have hl1 := isList_up hl F.keep
  rename CodeHd _ _ _ => HC
  rename Top _ _ _ _ _ _ => TG0
  clear F N0 hl
  obtain ⟨M, F, M1⟩ := FF
  refine good_true2 ?_ ?_ ?_ ?_
  · exact raisesW_false (by wrow_none_raised)
  · first | wrow_post | kc_post
  · assumption
  replace Up : Heap.IsCell _ (S1.heap.objs.size + 2) none := cell_none Up (by exact rfl) (by k_dflt rfl)
  replace Ua : Heap.IsCell _ (S1.heap.objs.size + 1) none := cell_none Ua (by exact rfl) (by k_dflt rfl)
  replace tab : PySem.Heap.get? _ 66 = some (tabObj #[]) := tab
  first | (rename Ground _ _ _ _ _ _ _ _ _ => z; clear z) | skip
  first | (rename Hook.says _ _ _ => z; clear z) | skip
  first | (rename Flt.MathXP _ _ _ => z; clear z) | skip
  first | (rename LooseAre _ _ _ => z; clear z) | skip
  first | (rename Glob _ _ _ _ _ _ _ _ => z; clear z) | skip
  first | (rename BMod _ _ _ _ _ => z; clear z) | skip
  first | (rename Tables _ _ _ _ => z; clear z) | skip
  skip--E _ _ _ _ => z; clear z) | skip
  skip--W _ _ _ => z; clear z) | skip
  first | (rename Heap.CodeRec _ _ _ => z; clear z) | skip
  first | (rename ReadsAll _ _ _ _ => z; clear z) | skip
  first | (rename Well _ _ _ _ => z; clear z) | skip
  first | (rename Reads _ _ _ _ => z; clear z) | skip
  first | (rename ReadsAllW _ _ _ _ _ _ => z; clear z) | skip
  first | (rename Below _ _ _ _ => z; clear z) | skip
  first | (rename Dflts _ _ _ => z; clear z) | skip
  first | (rename CellsAre _ _ _ => z; clear z) | skip
  first | (rename Obj.data _ = _ => z; clear z) | skip
  first | (rename TabsAt _ _ => z; clear z) | skip
  dsimp only
  obtain ⟨vs, ns, l, hl1, hI, hnl, M1⟩ : ∃ (vs : List Value) (ns : List Int) (l : Addr), Heap.IsList _ l vs.toArray ∧ IntsAre vs ns ∧ ns.length ≤ 63 ∧ M (Str.ofString "script") = some (.ref l) := ⟨_, _, _, hl1, hI, Int.ofNat_le.mp (Int.not_lt.mp hn63), M1⟩
  have hvl := hI.length
  iterate 7 walk_at "m1"
  refine nmG (v := .ref 52) X TR F.keep (by kernel_rfl) ?_ rfl rfl rfl (by decide)
  refine callWith_K0 (K := K1 _) (X.keeps F.keep) (by kernel_rfl) ?_
  refine wp_false (rest_spec (X.keeps F.keep) (TR.keeps F.keep) (by rw [room]; decide) fun D1 its h2 k2 hP1 hIr kp2 => ?_)
  have hil : its.size = 35 := by have q1 : its.toList.length = RS.length := paired_len hIr; have q2 : its.toList.length = its.size := by simp
                                 have q3 : RS.length = 35 := rfl; omega
  have F2 := F.keeps kp2
  have hl2 := isList_up hl1 kp2
  repeat walk_at "m1"
  refine c_lenl hl2 (by simp; omega) fun t1 k1 => ?_
  repeat walk_at "m1"
  refine c_cut_l hP1 (.int _ _) .none (by omega) fun D2 h3 hD2 hP2 kp3 => ?_
  refine c_addl (isList_up hl2 kp3) hP2.isList ?_ fun D3 h4 hD3 hP3 kp4 => ?_
  · refine Nat.le_trans (Nat.add_le_add_left (slicePick_size_le _ _ _ _) _) ?_
    simp; omega
  repeat walk_at "m1"
  refine c_cut_l hP3.isList .none (.int _ _) ?_ fun D4 h5 hD4 hP4 kp5 => ?_
  · rw [Array.size_append]
    refine Nat.le_trans (Nat.add_le_add_left (slicePick_size_le _ _ _ _) _) ?_
    simp; omega
  have F5 := ((F2.keeps kp3).keeps kp4).keeps kp5
  have up5 : ∀ b o, Heap.get? _ b = some o → h5.get? b = some o := fun b o e => kp5 b o (kp4 b o (kp3 b o (kp2 b o e)))
  have Ua5 := Ua.keeps up5
  have Up5 := Up.keeps up5
  have tab5 := up5 _ _ tab
  obtain ⟨dv, hdv, hd⟩ : ∃ dv : Array Value, h5.PlainList D4 dv ∧ Paired IsI dv.toList (DD ns) := ⟨_, hP4, draws_paired hI hIr⟩
  have hdl := paired_len hd
  have hDl := DD_len ns
  have hdz : dv.toList.length = dv.size := by simp
  have hD4L := ne_list F5 hdv.isList
  clear up5 hl1 hl2 hI F Ua Up tab F2 hP1 hP2 hP3 hP4 kp2 kp3 kp4 kp5 hIr
  refine c_st F5 rfl (by k_dflt rfl) rfl fun h6 k6 F6 hs6 => ?_
  have hdv6 := pl_ne hdv hs6.extBut hD4L
  have Ua6 := cell_but Ua5 hs6 (by show @Ne Nat _ _; omega)
  have Up6 := cell_but Up5 hs6 (by show @Ne Nat _ _; omega)
  have tab6 := hs6.extBut _ _ (by show @Ne Nat _ _; omega) tab5
  obtain ⟨N6, FN6, Nd6⟩ : ∃ N, Fr _ _ h6 N ∧ N (Str.ofString "draws") = some (.ref D4) := ⟨_, F6, by k_dflt rfl⟩
  clear F5 F6 hdv hs6 Ua5 Up5 tab5
  dsimp only
  walk_at "m1"
  obtain ⟨d0, hd0⟩ : ∃ d0, (DD ns)[0]? = some d0 := ⟨_, List.getElem?_eq_getElem (by omega)⟩
  obtain ⟨d1, hd1⟩ : ∃ d1, (DD ns)[1]? = some d1 := ⟨_, List.getElem?_eq_getElem (by omega)⟩
  obtain ⟨_, hv0, t0, rfl⟩ := paired_get hd 0 d0 hd0
  obtain ⟨_, hv1, t1, rfl⟩ := paired_get hd 1 d1 hd1
  obtain ⟨cz, hcz, hcz8⟩ : ∃ cz : Nat, Int.fmod d0 8 = (cz : Int) ∧ cz < 8 := ⟨(Int.fmod d0 8).toNat, by have := fmod_lt d0 (b := 8) (by decide); omega, by have := fmod_lt d0 (b := 8) (by decide); omega⟩
  obtain ⟨pz, hpz, hpz8⟩ : ∃ pz : Nat, Int.fmod d1 8 = (pz : Int) ∧ pz < 8 := ⟨(Int.fmod d1 8).toNat, by have := fmod_lt d1 (b := 8) (by decide); omega, by have := fmod_lt d1 (b := 8) (by decide); omega⟩
  -- cased
  refine asg_comp_list FN6 (cl := []) (fun v y => ∀ n, IsI v n → CasR y (crow n)) (by k_dflt rfl) (by rfl) (by decide) rfl (by decide) rfl rfl (by k_dflt rfl) rfl rfl ?_
  repeat walk_at "m1"
  refine item_l hdv6.isList (by decide) (by decide) (by simpa using hv0) rfl ?_
  repeat walk_at "m1"
  refine c_mod (by decide) fun t' k' => ?_
  rw [hcz]
  repeat walk_at "m1"
  refine c_cut_l hdv6.isList (.int _ _) (.int _ _) (by omega) fun D5 h7 hD5 hP5 kp7 => ?_
  have F7 := FN6.keeps kp7
  have hseg := seg_paired 2 (cz + 1) hd (by omega) (lo := 2) (up := (2 + 1 + (cz : Int))) rfl (by omega)
  refine ⟨D5, _, _, rfl, F7, hP5.isList, ?_, ?_, ?_⟩
  · refine Nat.le_trans (slicePick_size_le _ _ _ _) (Nat.le_trans (?_ : _ ≤ 100) (by decide)); omega
  · intro C v s₃ m₃ E' hv hn hm hk
    obtain ⟨n, _, tn, rfl⟩ := paired_mem hseg v hv
    obtain ⟨hp3, ge, dr, k3, os⟩ := s₃
    have kk : ∀ b o, Heap.get? _ b = some o → hp3.get? b = some o := fun b o e => hk b o (F7.keep b o e)
    walk_at "m1"
    refine nmG (v := .ref 31) X TR kk (by kernel_rfl) ?_ rfl rfl rfl (by decide)
    repeat walk_at "m1"
    refine c_mod (by decide) fun t' k' => ?_
    have hn10 := fmod_lt n (b := 6) (by decide)
    refine item_l (cas_list (X.keeps kk)) hn10.1 (by omega) (cAddrs_at (by omega)) rfl ?_
    refine ⟨?_, _, _, rfl, fun _ _ e => e⟩
    rintro n' ⟨t'', e⟩
    injection e with e1 e2
    subst e1
    exact ⟨_, rfl, crow_at n⟩
  intro D6 h8 k8 yc hD6 hPc hFc F8 kp8
  have up8 : ∀ b o, b ≠ S1.heap.objs.size → h6.get? b = some o → h8.get? b = some o := fun b o n e => kp8 b o n (kp7 b o e)
  obtain ⟨cs, hcs, hcm, hcl⟩ : ∃ cs, Paired CasR yc.toList cs ∧ (∀ r ∈ cs, r ∈ CT) ∧ cs.length = cz + 1 := ⟨_, paired_map crow (fun v a y r f => f a r) hseg hFc, fun r hr => by obtain ⟨n, _, rfl⟩ := List.mem_map.mp hr; exact crow_mem n, by rw [List.length_map, part_len _ (by omega)]; omega⟩
  have hdv8 := pl_ne hdv6 up8 hD4L
  have Ua8 := cell_ne Ua6 up8 (by show @Ne Nat _ _; omega)
  have Up8 := cell_ne Up6 up8 (by show @Ne Nat _ _; omega)
  have tab8 := up8 _ _ (by show @Ne Nat _ _; omega) tab6
  obtain ⟨N8, FN8, Nd8, Nc8⟩ : ∃ N, Fr _ _ h8 N ∧ N (Str.ofString "draws") = some (.ref D4) ∧ N (Str.ofString "cased") = some (.ref D6) := ⟨_, F8, by k_dflt exact Nd6, by k_dflt rfl⟩
  have hD6L := ne_list FN8 hPc.isList
  clear F8 F7 FN6 hdv6 Ua6 Up6 tab6 up8 kp8 kp7 hFc hP5 hseg Nd6
  dsimp only
  walk_at "m1"
  -- plain
  refine asg_comp_list FN8 (cl := []) (fun v y => ∀ n, IsI v n → PlaR y (prow n)) (by k_dflt rfl) (by rfl) (by decide) rfl (by decide) rfl rfl (by k_dflt rfl) rfl rfl ?_
  repeat walk_at "m1"
  refine item_l hdv8.isList (by decide) (by decide) (by simpa using hv1) rfl ?_
  repeat walk_at "m1"
  refine c_mod (by decide) fun t' k' => ?_
  rw [hpz]
  repeat walk_at "m1"
  refine c_cut_l hdv8.isList (.int _ _) (.int _ _) (by omega) fun D7 h9 hD7 hP7 kp9 => ?_
  have F9 := FN8.keeps kp9
  have hseg2 := seg_paired 2 (pz + 1) hd (by omega) (lo := 2) (up := (2 + 1 + (pz : Int))) rfl (by omega)
  refine ⟨D7, _, _, rfl, F9, hP7.isList, ?_, ?_, ?_⟩
  · refine Nat.le_trans (slicePick_size_le _ _ _ _) (Nat.le_trans (?_ : _ ≤ 100) (by decide)); omega
  · intro C v s₃ m₃ E' hv hn hm hk
    obtain ⟨n, _, tn, rfl⟩ := paired_mem hseg2 v hv
    obtain ⟨hp3, ge, dr, k3, os⟩ := s₃
    have kk : ∀ b o, Heap.get? _ b = some o → hp3.get? b = some o := fun b o e => hk b o (F9.keep b o e)
    walk_at "m1"
    refine nmG (v := .ref 38) X TR kk (by kernel_rfl) ?_ rfl rfl rfl (by decide)
    repeat walk_at "m1"
    refine c_fdiv (by decide) (PyProof.noPylong_small (by omega)) fun t' k' => ?_
    repeat walk_at "m1"
    refine c_mod (by decide) fun t' k' => ?_
    have hn8 := fmod_lt (Int.fdiv n 6) (b := 6) (by decide)
    refine item_l (pla_list (X.keeps kk)) hn8.1 (by omega) (pAddrs_at (by omega)) rfl ?_
    refine ⟨?_, _, _, rfl, fun _ _ e => e⟩
    rintro n' ⟨t'', e⟩
    injection e with e1 e2
    subst e1
    exact ⟨_, rfl, prow_at _⟩
  intro D8 h10 k10 yp hD8 hPp hFp F10 kp10
  have up10 : ∀ b o, b ≠ S1.heap.objs.size → h8.get? b = some o → h10.get? b = some o := fun b o n e => kp10 b o n (kp9 b o e)
  obtain ⟨ps, hps, hpm, hpl⟩ : ∃ ps, Paired PlaR yp.toList ps ∧ (∀ r ∈ ps, r ∈ PT) ∧ ps.length = pz + 1 := ⟨_, paired_map prow (fun v a y r f => f a r) hseg2 hFp, fun r hr => by obtain ⟨n, _, rfl⟩ := List.mem_map.mp hr; exact prow_mem n, by rw [List.length_map, part_len _ (by omega)]; omega⟩
  have hdv10 := pl_ne hdv8 up10 hD4L
  have hPc10 := pl_ne hPc up10 hD6L
  have Ua10 := cell_ne Ua8 up10 (by show @Ne Nat _ _; omega)
  have Up10 := cell_ne Up8 up10 (by show @Ne Nat _ _; omega)
  have tab10 := up10 _ _ (by show @Ne Nat _ _; omega) tab8
  obtain ⟨N10, FN10, Nd10, Nc10, Np10⟩ : ∃ N, Fr _ _ h10 N ∧ N (Str.ofString "draws") = some (.ref D4) ∧ N (Str.ofString "cased") = some (.ref D6) ∧ N (Str.ofString "plain") = some (.ref D8) := ⟨_, F10, by k_dflt exact Nd8, by k_dflt exact Nc8, by k_dflt rfl⟩
  have hD8L := ne_list FN10 hPp.isList
  clear F10 F9 FN8 hdv8 hPc Ua8 Up8 tab8 up10 kp10 kp9 hFp hP7 hseg2 Nd8 Nc8
  dsimp only
  walk_at "m1"
  -- pieces, want
  refine Assign_Tuple ?_ (by k_dflt rfl) (by k_dflt rfl)
  refine c_tuple ?_
  walk_at "m1"
  refine c_list ?_
  repeat walk_at "m1"
  refine ⟨by simp, ?_⟩
  intro _ _ _ _ _ e D11 h11 hD11 hP11 kp11
  cases e
  repeat walk_at "m1"
  refine ⟨by simp, ?_⟩
  intro _ _ _ _ _ e T12 h12 hT12 hP12 kp12
  cases e
  have F12 := (FN10.keeps kp11).keeps kp12
  refine assign_Tuple_tuple rfl hP12 rfl rfl fun h13 he => ?_
  have he' : ∀ b o, h12.get? b = some o → h13.get? b = some o := fun b o e => he b o (Nat.ne_of_lt (Heap.lt_size e)) e
  have up13 : ∀ b o, h10.get? b = some o → h13.get? b = some o := fun b o e => he' b o (kp12 b o (kp11 b o e))
  have hD11L := ne_list (FN10.keeps kp11) hP11.isList
  have hD11a := ne_cell (Ua10.keeps kp11) hP11.isList
  have hD11p := ne_cell (Up10.keeps kp11) hP11.isList
  have hgD11 : ∀ b o, (ghostOf S1.heap [(68, 66)]).get? b = some o → b ≠ D11 := fun b o e q => by have := FN10.keep b o e; rw [q, hD11] at this; cases this
  have hD4D : D4 ≠ D11 := fun q => by obtain ⟨n, e⟩ := hdv10; rw [q, hD11] at e; cases e
  have hD6D : D6 ≠ D11 := fun q => by obtain ⟨n, e⟩ := hPc10; rw [q, hD11] at e; cases e
  have hD8D : D8 ≠ D11 := fun q => by obtain ⟨n, e⟩ := hPp; rw [q, hD11] at e; cases e
  have h66D : (66 : Addr) ≠ D11 := fun q => by rw [q, hD11] at tab10; cases tab10
  have hD4p := ne_cell Up10 hdv10.isList
  have hD6p := ne_cell Up10 hPc10.isList
  have hD8p := ne_cell Up10 hPp.isList
  dsimp only
  refine assignInOrder_cons (wpAny_assign_Name (c_stc (F12.keeps he') rfl rfl rfl (Up10.keeps up13) (by show @LT.lt Nat _ _ _; omega) fun h14 F14 Up14 hs14 => ?_))
  refine assignInOrder_cons (wpAny_assign_Name (c_st F14 rfl (by k_dflt rfl) rfl fun h15 k15 F15 hs15 => ?_))
  refine assignInOrder_nil ?_
  have up15 : ∀ b o, b ≠ S1.heap.objs.size → b ≠ S1.heap.objs.size + 2 → h13.get? b = some o → h15.get? b = some o := fun b o n1 n2 e => hs15.extBut b o n1 (hs14.extBut b o n2 e)
  have Up15 := cell_but Up14 hs15 (by show @Ne Nat _ _; omega)
  have Ua15 : h15.IsCell (S1.heap.objs.size + 1) none := by obtain ⟨o, ho, hdd⟩ := Ua10; exact ⟨o, up15 _ _ (by show @Ne Nat _ _; omega) (by show @Ne Nat _ _; omega) (up13 _ _ ho), hdd⟩
  have tab15 := up15 _ _ (by show @Ne Nat _ _; omega) (by show @Ne Nat _ _; omega) (up13 _ _ tab10)
  have hdv15 : h15.PlainList D4 dv := hdv10.at fun o e => up15 _ _ hD4L hD4p (up13 _ _ e)
  have hPc15 : h15.PlainList D6 yc := hPc10.at fun o e => up15 _ _ hD6L hD6p (up13 _ _ e)
  have hPp15 : h15.PlainList D8 yp := hPp.at fun o e => up15 _ _ hD8L hD8p (up13 _ _ e)
  have hPs15 : h15.PlainList D11 #[] := hP11.at fun o e => up15 _ _ hD11L hD11p (he' _ _ (kp12 _ _ e))
  have nz0 := fmod_lt (Int.fdiv d0 8) (b := 6) (by decide)
  obtain ⟨nz, hnz, hnz6⟩ : ∃ nz : Nat, Int.fmod (Int.fdiv d0 8) 6 = (nz : Int) ∧ nz < 6 := ⟨(Int.fmod (Int.fdiv d0 8) 6).toNat, by omega, by omega⟩
  obtain ⟨N15, FN15, Nd15, Nc15, Np15, tw15, Nw15⟩ : ∃ N, Fr _ _ h15 N ∧ N (Str.ofString "draws") = some (.ref D4) ∧ N (Str.ofString "cased") = some (.ref D6) ∧ N (Str.ofString "plain") = some (.ref D8) ∧ ∃ t, N (Str.ofString "want") = some (.str (Str.ofString "") t) := ⟨_, F15, by k_dflt exact Nd10, by k_dflt exact Nc10, by k_dflt exact Np10, _, by k_dflt rfl⟩
  have hycl : yc.size = cs.length := by have := paired_len hcs; simpa using this
  have hypl : yp.size = ps.length := by have := paired_len hps; simpa using this
  clear F15 F14 F12 FN10 Up14 Up10 Ua10 tab10 hdv10 hPc10 hPp hP11 hP12 hs14 hs15 up15 up13 he he' kp11 kp12 Nd10 Nc10 Np10
  repeat (first | walk_at "m1" | dsimp only)
  -- the loop
  refine for_range (a := 5) (c := 5) (n := 1 + nz) rfl ?_
  repeat walk_at "m1"
  refine item_l hdv15.isList (by decide) (by decide) (by simpa using hv0) rfl ?_
  repeat walk_at "m1"
  refine c_fdiv (by decide) (PyProof.noPylong_small (by omega)) fun t' k' => ?_
  repeat walk_at "m1"
  refine c_mod (by decide) fun t' k' => ?_
  rw [hnz]
  repeat walk_at "m1"
  refine c_mul (by mul_fits) fun t' k' => ?_
  repeat walk_at "m1"
  refine c_range3 (by decide) (PyProof.noPylong_small (by omega)) fun rr h16 k16 ta tb tc hr16 kp16 => ?_
  have FN16 := FN15.keeps kp16
  refine ⟨rr, _, _, _, _, fun i h => ∃ m tw vals qs, Fr (ghostOf S1.heap [(68, 66)]) S1.heap.objs.size h m ∧ m (Str.ofString "draws") = some (.ref D4) ∧ m (Str.ofString "cased") = some (.ref D6) ∧ m (Str.ofString "plain") = some (.ref D8) ∧ m (Str.ofString "want") = some (.str (cat (qs.map (pieceS (ctxt cs) (ptxt ps)))) tw) ∧
    qs.length = i ∧ (∀ q ∈ qs, PieceOk (ctxt cs) (ptxt ps) q) ∧ h.PlainList D11 vals ∧ Paired (fun v q => TupP h v q ∧ v ≠ .ref h16.objs.size ∧ v ≠ .ref D11 ∧ v ≠ .ref S1.heap.objs.size) vals.toList qs ∧
    h.IsCell (S1.heap.objs.size + 1) none ∧ h.IsCell (S1.heap.objs.size + 2) (some (.ref D11)) ∧ h.get? 66 = some (tabObj #[]) ∧ h.PlainList D4 dv ∧ h.PlainList D6 yc ∧ h.PlainList D8 yp, rfl, hr16, ?_, (?_ : _ = ((1 + nz : Nat) : Int)), ?_, ?_, ?_, ?_⟩
  · have : nz = 0 ∨ nz = 1 ∨ nz = 2 ∨ nz = 3 ∨ nz = 4 ∨ nz = 5 := by omega
    rcases this with rfl | rfl | rfl | rfl | rfl | rfl <;> rfl
  · have : nz = 0 ∨ nz = 1 ∨ nz = 2 ∨ nz = 3 ∨ nz = 4 ∨ nz = 5 := by omega
    rcases this with rfl | rfl | rfl | rfl | rfl | rfl <;> rfl
  · exact ⟨N15, tw15, #[], [], FN16, Nd15, Nc15, Np15, Nw15, rfl, (fun _ h => by cases h), hPs15.at (kp16 _), .nil, Ua15.keeps kp16, Up15.keeps kp16, kp16 _ _ tab15, hdv15.at (kp16 _), hPc15.at (kp16 _), hPp15.at (kp16 _)⟩
  · rintro i h h' ⟨m, tw, vals, qs, Fm, md, mc, mp, mw, hql, hqok, hDp, hvals, Uam, Upm, tabm, hdvm, hPcm, hPpm⟩ hk
    have kI : ∀ D, D ≠ h16.objs.size → ∀ o, h.get? D = some o → h'.get? D = some o := fun D n o e => hk D o n e
    have hLI : S1.heap.objs.size ≠ h16.objs.size := Nat.ne_of_lt FN16.ns.lt
    refine ⟨m, tw, vals, qs, ⟨Fm.ns.at' fun o e => kI _ hLI o e, fun b o e => hk b o (fun q => ?_) (Fm.keep b o e), Fm.above⟩, md, mc, mp, mw, hql, hqok, hDp.at (kI _ (pl_lt (hPs15.at (kp16 _)))), paired_imp (fun v q hv => ?_) hvals, ?_, ?_, kI _ ?_ _ tabm, hdvm.at (kI _ (pl_lt (hdv15.at (kp16 _)))), hPcm.at (kI _ (pl_lt (hPc15.at (kp16 _)))), hPpm.at (kI _ (pl_lt (hPp15.at (kp16 _))))⟩
    · have h2 := Nat.lt_of_lt_of_le (Heap.lt_size e) Fm.above
      rw [q] at h2; exact Nat.lt_irrefl _ (Nat.lt_trans h2 FN16.ns.lt)
    · obtain ⟨⟨T, t1, t2, t3, t4, t5, rfl, hT⟩, n1, n2, n3⟩ := hv
      exact ⟨⟨T, t1, t2, t3, t4, t5, rfl, by obtain ⟨o, ho, r⟩ := hT; exact ⟨o, kI T (fun q => n1 (by rw [q])) o ho, r⟩⟩, n1, n2, n3⟩
    · obtain ⟨o, ho, r⟩ := Uam; exact ⟨o, kI _ (cell_lt (Ua15.keeps kp16)) o ho, r⟩
    · obtain ⟨o, ho, r⟩ := Upm; exact ⟨o, kI _ (cell_lt (Up15.keeps kp16)) o ho, r⟩
    · exact Nat.ne_of_lt (Heap.lt_size (kp16 _ _ tab15))
  · rintro i t h tk hin ⟨m, tw, vals, qs, Fm, md, mc, mp, mw, hql, hqok, hDp, hvals, Uam, Upm, tabm, hdvm, hPcm, hPpm⟩ ⟨oI, hoI⟩
    have rd : ∀ j, j < 5 → ∃ a tt, dv[5 + 5 * i + j]? = some (.int a tt) := fun j hj => by
      have : 5 + 5 * i + j < (DD ns).length := by omega
      obtain ⟨_, hv, t, rfl⟩ := paired_get hd _ _ (List.getElem?_eq_getElem this)
      exact ⟨_, t, by simpa using hv⟩
    obtain ⟨a0, u0, e0⟩ := rd 0 (by omega)
    obtain ⟨a1, u1, e1⟩ := rd 1 (by omega)
    obtain ⟨a2, u2, e2⟩ := rd 2 (by omega)
    obtain ⟨a3, u3, e3⟩ := rd 3 (by omega)
    obtain ⟨a4, u4, e4⟩ := rd 4 (by omega)
    dsimp only
    refine wpAny_assign_Name (c_st Fm rfl (by k_dflt rfl) rfl fun h17 k17 F17 hs17 => ?_)
    have up17 := hs17.extBut
    iterate 4 walk_at "m1"
    refine nmG (v := .ref 45) X TR F17.keep (by kernel_rfl) ?_ rfl rfl rfl (by decide)
    refine callWith_K0 (K := K1 _) (X.keeps F17.keep) (by kernel_rfl) ?_
    refine tags_spec (X.keeps F17.keep) (TR.keeps F17.keep) (by rw [room]; decide) fun Dt its h18 k18 hPt hIt kp18 => ?_
    have F18 := F17.keeps kp18
    have up18 : ∀ b o, b ≠ S1.heap.objs.size → h.get? b = some o → h18.get? b = some o := fun b o n e => kp18 b o (up17 b o n e)
    repeat walk_at "m1"
    refine item_l (pl_ne hdvm up18 hD4L).isList (by omega) (by omega) (by rw [show ((5 : Int) + (i : Nat) * 5).toNat = 5 + 5 * i + 0 by omega]; exact e0) rfl ?_
    repeat walk_at "m1"
    refine c_mod (by decide) fun t' k' => ?_
    obtain ⟨g0, hg0, hg0l⟩ := fmod_nat a0 (b := 5) (by decide)
    rw [hg0]
    obtain ⟨tagS, htag⟩ : ∃ x, TG[g0]? = some x := ⟨_, List.getElem?_eq_getElem (by have : TG.length = 5 := rfl; omega)⟩
    obtain ⟨_, hvt, tt, rfl⟩ := paired_get hIt _ _ htag
    refine item_l hPt (by omega) (by omega) (by rw [Int.toNat_natCast]; simpa using hvt) rfl ?_
    refine c_st F18 rfl (by k_dflt rfl) rfl fun h19 k19 F19 hs19 => ?_
    have up19 : ∀ b o, b ≠ S1.heap.objs.size → h.get? b = some o → h19.get? b = some o := fun b o n e => hs19.extBut b o n (up18 b o n e)
    dsimp only
    -- first
    repeat walk_at "m1"
    refine item_l (pl_ne hdvm up19 hD4L).isList (by omega) (by omega) (by rw [show ((5 : Int) + (i : Nat) * 5 + 1).toNat = 5 + 5 * i + 1 by omega]; exact e1) rfl ?_
    repeat walk_at "m1"
    refine c_lenl (pl_ne hPcm up19 hD6L).isList (by omega) fun t' k' => ?_
    repeat walk_at "m1"
    refine c_mod (by omega) fun t' k' => ?_
    obtain ⟨f0, hf0, hf0l⟩ := fmod_nat a1 (b := (yc.size : Int) + 1) (by omega)
    rw [hf0]
    refine c_st F19 rfl (by k_dflt rfl) rfl fun h20 k20 F20 hs20 => ?_
    have up20 : ∀ b o, b ≠ S1.heap.objs.size → h.get? b = some o → h20.get? b = some o := fun b o n e => hs20.extBut b o n (up19 b o n e)
    dsimp only
    -- last
    repeat walk_at "m1"
    refine item_l (pl_ne hdvm up20 hD4L).isList (by omega) (by omega) (by rw [show ((5 : Int) + (i : Nat) * 5 + 2).toNat = 5 + 5 * i + 2 by omega]; exact e2) rfl ?_
    repeat walk_at "m1"
    refine c_lenl (pl_ne hPcm up20 hD6L).isList (by omega) fun t' k' => ?_
    repeat walk_at "m1"
    refine c_mod (by omega) fun t' k' => ?_
    obtain ⟨l0, hl0, hl0l⟩ := fmod_nat a2 (b := (yc.size : Int) + 1 - f0) (by omega)
    rw [hl0]
    repeat walk_at "m1"
    refine c_st F20 rfl (by k_dflt rfl) rfl fun h21 k21 F21 hs21 => ?_
    have up21 : ∀ b o, b ≠ S1.heap.objs.size → h.get? b = some o → h21.get? b = some o := fun b o n e => hs21.extBut b o n (up20 b o n e)
    dsimp only
    -- start
    repeat walk_at "m1"
    refine item_l (pl_ne hdvm up21 hD4L).isList (by omega) (by omega) (by rw [show ((5 : Int) + (i : Nat) * 5 + 3).toNat = 5 + 5 * i + 3 by omega]; exact e3) rfl ?_
    repeat walk_at "m1"
    refine c_lenl (pl_ne hPpm up21 hD8L).isList (by omega) fun t' k' => ?_
    repeat walk_at "m1"
    refine c_mod (by omega) fun t' k' => ?_
    obtain ⟨s0, hs0, hs0l⟩ := fmod_nat a3 (b := (yp.size : Int) + 1) (by omega)
    rw [hs0]
    refine c_st F21 rfl (by k_dflt rfl) rfl fun h22 k22 F22 hs22 => ?_
    have up22 : ∀ b o, b ≠ S1.heap.objs.size → h.get? b = some o → h22.get? b = some o := fun b o n e => hs22.extBut b o n (up21 b o n e)
    dsimp only
    -- end
    repeat walk_at "m1"
    refine item_l (pl_ne hdvm up22 hD4L).isList (by omega) (by omega) (by rw [show ((5 : Int) + (i : Nat) * 5 + 4).toNat = 5 + 5 * i + 4 by omega]; exact e4) rfl ?_
    repeat walk_at "m1"
    refine c_lenl (pl_ne hPpm up22 hD8L).isList (by omega) fun t' k' => ?_
    repeat walk_at "m1"
    refine c_mod (by omega) fun t' k' => ?_
    obtain ⟨n0, hn0, hn0l⟩ := fmod_nat a4 (b := (yp.size : Int) + 1 - s0) (by omega)
    rw [hn0]
    repeat walk_at "m1"
    refine c_st F22 rfl (by k_dflt rfl) rfl fun h23 k23 F23 hs23 => ?_
    have up23 : ∀ b o, b ≠ S1.heap.objs.size → h.get? b = some o → h23.get? b = some o := fun b o n e => hs23.extBut b o n (up22 b o n e)
    obtain ⟨V, FV, vd, vc, vp, vw, vt, vf, vl, vs', ve⟩ : ∃ V, Fr _ _ h23 V ∧ V (Str.ofString "draws") = some (.ref D4) ∧ V (Str.ofString "cased") = some (.ref D6) ∧ V (Str.ofString "plain") = some (.ref D8) ∧ V (Str.ofString "want") = some (.str (cat (qs.map (pieceS (ctxt cs) (ptxt ps)))) tw) ∧
        V (Str.ofString "tag") = some (.str tagS tt) ∧ (∃ t, V (Str.ofString "first") = some (.int (f0 : Nat) t)) ∧ (∃ t, V (Str.ofString "last") = some (.int ((f0 + l0 : Nat) : Int) t)) ∧ (∃ t, V (Str.ofString "start") = some (.int (s0 : Nat) t)) ∧ (∃ t, V (Str.ofString "end") = some (.int ((s0 + n0 : Nat) : Int) t)) :=
      ⟨_, F23, by k_dflt exact md, by k_dflt exact mc, by k_dflt exact mp, by k_dflt exact mw, by k_dflt rfl, ⟨_, by k_dflt rfl⟩, ⟨_, by k_dflt rfl⟩, ⟨_, by k_dflt rfl⟩, ⟨_, by k_dflt rfl⟩⟩
    clear F17 F18 F19 F20 F21 F22 F23 up17 up18 up19 up20 up21 up22 hs17 hs19 hs20 hs21 hs22 hs23 kp18 md mc mp mw
    dsimp only
    walk_at "m1"
    obtain ⟨tf, vf⟩ := vf
    obtain ⟨tl, vl⟩ := vl
    obtain ⟨ts, vs'⟩ := vs'
    obtain ⟨te, ve⟩ := ve
    have hcn : cs.length = yc.size := hycl.symm
    have hpn : ps.length = yp.size := hypl.symm
    have hf0n : f0 ≤ cs.length := by omega
    have hl0n : f0 + l0 ≤ cs.length := by omega
    have hs0n : s0 + n0 ≤ ps.length := by omega
    obtain ⟨lr, hlr⟩ : ∃ r, cs[cs.length - 1]? = some r := ⟨_, List.getElem?_eq_getElem (by omega)⟩
    obtain ⟨_, hvl, kl, rfl, hkl⟩ := paired_get hcs _ _ hlr
    have hvl' : yc[yc.size - 1]? = some (.ref (25 + kl)) := by rw [hycl]; simpa using hvl
    have hsg : (ctxt cs).cps.toList[cs.length - 1]? = some lr.1 := by
      show (cs.map (·.1)).toArray.toList[cs.length - 1]? = _
      rw [List.toList_toArray, List.getElem?_map, hlr]; rfl
    obtain ⟨Q6, hQ6⟩ : ∃ Q6 : Flow → Shared → Prop, Q6 = fun f s' => f = .next ∧ ∃ h' k' V t f1, s' = ⟨h', S1.gens, S1.drawn, k', S1.os⟩ ∧ Fr (ghostOf S1.heap [(68, 66)]) S1.heap.objs.size h' V ∧ V (Str.ofString "draws") = some (.ref D4) ∧ V (Str.ofString "cased") = some (.ref D6) ∧ V (Str.ofString "plain") = some (.ref D8) ∧ V (Str.ofString "want") = some (.str (cat (qs.map (pieceS (ctxt cs) (ptxt ps)))) tw) ∧
        V (Str.ofString "tag") = some (.str tagS tt) ∧ V (Str.ofString "first") = some (.int (f1 : Nat) t) ∧ V (Str.ofString "last") = some (.int ((f0 + l0 : Nat) : Int) tl) ∧ V (Str.ofString "start") = some (.int (s0 : Nat) ts) ∧ V (Str.ofString "end") = some (.int ((s0 + n0 : Nat) : Int) te) ∧
        (∀ b o, b ≠ S1.heap.objs.size → h.get? b = some o → h'.get? b = some o) ∧ f1 ≤ f0 ∧ (tagS = Str.ofString "insert" → nearS (ctxt cs) f1 < cs.length) := ⟨_, rfl⟩
    have noch : ∀ k, (tagS = Str.ofString "insert" → nearS (ctxt cs) f0 < cs.length) → Q6 .next ⟨h23, S1.gens, S1.drawn, k, S1.os⟩ := fun k hn => by
      rw [hQ6]; exact ⟨rfl, h23, k, V, tf, f0, rfl, FV, vd, vc, vp, vw, vt, vf, vl, vs', ve, up23, Nat.le_refl _, hn⟩
    refine wpAny_mono (Q := Q6) (E := fun _ _ => False) ?_ ?_ (fun _ _ x => x)
    · repeat walk_at "m1"
      refine eq_s ?_
      repeat walk_at "m1"
      by_cases hti : tagS = Str.ofString "insert"
      · refine ite_pos (by simp [hti]) ?_
        repeat walk_at "m1"
        refine c_lenl (pl_ne hPcm up23 hD6L).isList (by omega) fun t' k' => ?_
        repeat walk_at "m1"
        by_cases hfc : f0 = cs.length
        · refine ite_pos (by simp; omega) ?_
          repeat walk_at "m1"
          refine item_l1 (pl_ne hPcm up23 hD6L).isList hvl' rfl ?_
          repeat walk_at "m1"
          obtain ⟨tr, hT⟩ := cas_row (X.keeps FV.keep) hkl
          refine item_t hT (by decide) (by decide) rfl rfl ?_
          repeat walk_at "m1"
          refine eq_s ?_
          repeat walk_at "m1"
          by_cases h32 : lr.1 = 32
          · refine ite_pos (decide_eq_true ((is_blank lr.1).mpr h32)) ?_
            repeat walk_at "m1"
            refine ite_pos rfl ?_
            repeat walk_at "m1"
            refine c_st FV rfl (by k_dflt rfl) rfl fun h24 k24 F24 hs24 => ?_
            repeat (first | walk_at "m1" | dsimp only)
            rw [hQ6]
            exact ⟨rfl, h24, _, _, _, 0, rfl, F24, by k_dflt exact vd, by k_dflt exact vc, by k_dflt exact vp, by k_dflt exact vw, by k_dflt exact vt, by k_dflt rfl, by k_dflt exact vl, by k_dflt exact vs', by k_dflt exact ve, fun b o n e => hs24.extBut b o n (up23 b o n e), Nat.zero_le _, fun _ => by rw [nearS, if_pos (.inl rfl)]; omega⟩
          · refine ite_neg (fun e => h32 ((is_blank lr.1).mp (of_decide_eq_true e))) ?_
            refine ite_neg (by decide) ?_
            repeat (first | walk_at "m1" | dsimp only)
            exact noch _ fun _ => by
              rw [nearS, if_neg (by rintro (h | h); omega; rw [hfc, hsg] at h; exact h32 (Option.some.inj h))]; omega
        · refine ite_neg (by simp; omega) ?_
          refine ite_neg (by decide) ?_
          repeat (first | walk_at "m1" | dsimp only)
          exact noch _ fun _ => by unfold nearS; split <;> omega
      · refine ite_neg (by simp [hti]) ?_
        refine ite_neg (by decide) ?_
        repeat (first | walk_at "m1" | dsimp only)
        exact noch _ fun e => absurd e hti
    intro f s' hq6
    rw [hQ6] at hq6
    obtain ⟨rfl, h24, k24, W, tf1, f1, rfl, FW, wd, wc, wp, ww, wt, wf, wl, ws, we, up24, hf1, hnear⟩ := hq6
    clear noch hQ6 FV vd vc vp vw vt vf vl vs' ve up23
    dsimp only
    walk_at "m1"
    obtain ⟨Q7, hQ7⟩ : ∃ Q7 : Flow → Shared → Prop, Q7 = fun f s' => f = .next ∧ ∃ h' k' V t t' f2 l2, s' = ⟨h', S1.gens, S1.drawn, k', S1.os⟩ ∧ Fr (ghostOf S1.heap [(68, 66)]) S1.heap.objs.size h' V ∧ V (Str.ofString "draws") = some (.ref D4) ∧ V (Str.ofString "cased") = some (.ref D6) ∧ V (Str.ofString "plain") = some (.ref D8) ∧ V (Str.ofString "want") = some (.str (cat (qs.map (pieceS (ctxt cs) (ptxt ps)))) tw) ∧
        V (Str.ofString "tag") = some (.str tagS tt) ∧ V (Str.ofString "first") = some (.int (f2 : Nat) t) ∧ V (Str.ofString "last") = some (.int (l2 : Nat) t') ∧ V (Str.ofString "start") = some (.int (s0 : Nat) ts) ∧ V (Str.ofString "end") = some (.int ((s0 + n0 : Nat) : Int) te) ∧
        (∀ b o, b ≠ S1.heap.objs.size → h.get? b = some o → h'.get? b = some o) ∧ PieceOk (ctxt cs) (ptxt ps) ⟨tagS, f2, l2, s0, s0 + n0⟩ := ⟨_, rfl⟩
    have hTG : tagS = Str.ofString "equal" ∨ tagS = Str.ofString "insert" ∨ tagS = Str.ofString "delete" ∨ tagS = Str.ofString "replace" ∨ tagS = Str.ofString "turned" := by
      have := List.mem_of_getElem? htag
      simpa [TG] using this
    have nch7 : ∀ h' k, (∀ b o, h24.get? b = some o → h'.get? b = some o) → ((tagS = Str.ofString "replace" ∨ tagS = Str.ofString "turned") → f1 < f0 + l0) → Q7 .next ⟨h', S1.gens, S1.drawn, k, S1.os⟩ := fun h' k kp hn => by
      rw [hQ7]
      refine ⟨rfl, h', k, W, tf1, tl, f1, f0 + l0, rfl, FW.keeps kp, wd, wc, wp, ww, wt, wf, wl, ws, we, fun b o n e => kp b o (up24 b o n e), ?_, ?_, ?_, ?_, ?_, ?_⟩
      · show f1 ≤ f0 + l0; omega
      · rw [ctxt_len]; exact hl0n
      · show s0 ≤ s0 + n0; omega
      · rw [ptxt_len]; exact hs0n
      · rw [ctxt_len]; exact hnear
      · intro n1 n2 n3
        rcases hTG with e | e | e | e | e
        · exact absurd e n3
        · exact absurd e n2
        · exact absurd e n1
        · exact hn (.inl e)
        · exact hn (.inr e)
    refine wpAny_mono (Q := Q7) (E := fun _ _ => False) ?_ ?_ (fun _ _ x => x)
    · repeat walk_at "m1"
      refine c_tuple ?_
      repeat walk_at "m1"
      refine ⟨by simp, ?_⟩
      intro _ _ _ _ _ e Tt h26 hTt hTt' kp26
      cases e
      have F26 := FW.keeps kp26
      refine in_tuple_strs hTt' (.cons _ _ (.cons _ _ .nil)) ?_
      repeat walk_at "m1"
      by_cases hrt : tagS = Str.ofString "replace" ∨ tagS = Str.ofString "turned"
      · refine ite_pos (by rcases hrt with e | e <;> rw [e] <;> decide) ?_
        repeat walk_at "m1"
        by_cases hlf : f0 + l0 = f1
        · refine ite_pos (by simp [hlf]) ?_
          repeat walk_at "m1"
          refine ite_pos rfl ?_
          repeat walk_at "m1"
          refine c_max rfl fun h27 k27 t27 kp27 => ?_
          rw [show max ((f1 : Int) - 1) 0 = ((f1 - 1 : Nat) : Int) by omega]
          refine c_st (F26.keeps kp27) rfl (by k_dflt rfl) rfl fun h28 k28 F28 hs28 => ?_
          dsimp only
          repeat walk_at "m1"
          refine c_st F28 rfl (by k_dflt rfl) rfl fun h29 k29 F29 hs29 => ?_
          repeat (first | walk_at "m1" | dsimp only)
          rw [hQ7]
          refine ⟨rfl, h29, _, _, _, _, f1 - 1, f1 - 1 + 1, rfl, F29, by k_dflt exact wd, by k_dflt exact wc, by k_dflt exact wp, by k_dflt exact ww, by k_dflt exact wt, by k_dflt rfl, by k_dflt rfl, by k_dflt exact ws, by k_dflt exact we, fun b o n e => hs29.extBut b o n (hs28.extBut b o n (kp27 b o (kp26 b o (up24 b o n e)))), ?_, ?_, ?_, ?_, ?_, ?_⟩
          · exact Nat.le_succ _
          · rw [ctxt_len]; show f1 - 1 + 1 ≤ cs.length; omega
          · show s0 ≤ s0 + n0; omega
          · rw [ptxt_len]; exact hs0n
          · intro e
            exfalso
            change tagS = _ at e
            rcases hrt with e' | e' <;> (rw [e'] at e; exact absurd e (by decide))
          · intro _ _ _; exact Nat.lt_succ_self _
        · refine ite_neg (by simp; omega) ?_
          refine ite_neg (by decide) ?_
          repeat (first | walk_at "m1" | dsimp only)
          exact nch7 h26 _ kp26 fun _ => by omega
      · refine ite_neg (fun e => hrt (by
          simp only [List.any_cons, List.any_nil, Bool.or_false, Bool.or_eq_true, beq_iff_eq] at e
          exact e.imp (·.symm) (·.symm))) ?_
        refine ite_neg (by decide) ?_
        repeat (first | walk_at "m1" | dsimp only)
        exact nch7 h26 _ kp26 fun e => absurd e hrt
    intro f s' hq7
    rw [hQ7] at hq7
    obtain ⟨rfl, h25, k25, Z, tf2, tl2, f2, l2, rfl, FZ, zd, zc, zp, zw, zt, zf, zl, zs, ze, up25, hok⟩ := hq7
    clear nch7 hQ7 FW wd wc wp ww wt wf wl ws we up24
    dsimp only
    walk_at "m1"
    refine wpAny_Expr ?_ (by rfl) (by rfl)
    refine call_append rfl (by rfl) (by rfl) (by rfl) ?_
    have Up25 := cell_ne Upm up25 (by show @Ne Nat _ _; omega)
    have hDp25 := pl_ne hDp up25 hD11L
    refine ldCe Up25 ?_ rfl (by k_dflt rfl) (by k_dflt rfl) (by decide)
    have hvz : vals.size = i := by have := paired_len hvals; simp at this; omega
    refine ⟨D11, vals, rfl, hDp25, ?_⟩
    walk_at "m1"
    refine c_tuple ?_
    repeat walk_at "m1"
    refine ⟨by simp, ?_⟩
    intro _ _ _ _ _ e Tp h26 hTp hTp' kp26
    cases e
    repeat walk_at "m1"
    refine ⟨_, rfl, hDp25.at (kp26 _), by omega, ?_⟩
    intro _ _ _ _ _ e h27 hDp27 hs27
    cases e
    have hLI : S1.heap.objs.size ≠ h16.objs.size := Nat.ne_of_lt FN16.ns.lt
    have hDI : D11 ≠ h16.objs.size := pl_lt (hPs15.at (kp16 _))
    have up27 : ∀ b o, b ≠ S1.heap.objs.size → b ≠ D11 → h.get? b = some o → h27.get? b = some o := fun b o n1 n2 e => hs27.extBut b o n2 (kp26 b o (up25 b o n1 e))
    have F27 : Fr (ghostOf S1.heap [(68, 66)]) S1.heap.objs.size h27 Z := ⟨(FZ.keeps kp26).ns.sameBut hs27 (Ne.symm hD11L), fun b o e => hs27.extBut b o (hgD11 b o e) (kp26 b o (FZ.keep b o e)), FZ.above⟩
    have hTpI : Tp ≠ h16.objs.size := fun q => by have := up25 _ _ (Ne.symm hLI) hoI; rw [← q, hTp] at this; cases this
    have hTpD : Tp ≠ D11 := fun q => by obtain ⟨n, e⟩ := hDp25; rw [← q, hTp] at e; cases e
    have hTpL : Tp ≠ S1.heap.objs.size := fun q => by obtain ⟨o, _, _, e, _⟩ := FZ.ns; rw [← q, hTp] at e; cases e
    have hPc27 : h27.PlainList D6 yc := hPcm.at fun o e => up27 _ _ hD6L hD6D e
    have hPp27 : h27.PlainList D8 yp := hPpm.at fun o e => up27 _ _ hD8L hD8D e
    dsimp only
    walk_at "m1"
    walk_at "m1"
    refine ldnLoc F27 zw ?_
    walk_at "m1"
    refine nmG (v := .ref 64) X TR F27.keep (by kernel_rfl) ?_ rfl rfl rfl (by decide)
    with_reducible refine callWith_K (K := K1 _) X (by kernel_rfl) ?_ (by k_dflt rfl) (by k_dflt rfl)
    repeat walk_at "m1"
    refine ⟨X.keeps F27.keep, ?_⟩
    refine piece_spec (q := ⟨tagS, f2, l2, s0, s0 + n0⟩) (X.keeps F27.keep) (TR.keeps F27.keep) (by rw [room]; decide) rfl hPc27.isList hPp27.isList hcs hps (by omega) (by omega) hcm hpm hok fun t28 h28 k28 kp28 => ?_
    rw [lawPiece_eq hcm hpm hok]
    have hac : (ctxt cs).length ≤ 100 := by rw [ctxt_len]; omega
    have hbc : (ptxt ps).length ≤ 100 := by rw [ptxt_len]; omega
    have hwl : (cat (qs.map (pieceS (ctxt cs) (ptxt ps)))).length ≤ 100000 := by
      refine Nat.le_trans (len_cat_le (B := 1000) fun y hy => ?_) ?_
      · obtain ⟨q', _, rfl⟩ := List.mem_map.mp hy; exact len_piece q' hac hbc
      · rw [List.length_map]; omega
    have hpl2 := len_piece (⟨tagS, f2, l2, s0, s0 + n0⟩ : Piece) hac hbc
    refine c_iadds (by omega) (by omega) fun t29 k29 => ?_
    refine c_st (F27.keeps kp28) rfl (by k_dflt rfl) rfl fun h30 k30 F30 hs30 => ?_
    have up30 : ∀ b o, b ≠ S1.heap.objs.size → h27.get? b = some o → h30.get? b = some o := fun b o n e => hs30.extBut b o n (kp28 b o e)
    have upA : ∀ b o, b ≠ S1.heap.objs.size → b ≠ D11 → h.get? b = some o → h30.get? b = some o := fun b o n1 n2 e => up30 b o n1 (up27 b o n1 n2 e)
    repeat (first | walk_at "m1" | dsimp only)
    generalize hqq : (⟨tagS, f2, l2, s0, s0 + n0⟩ : Piece) = qn at hok F30
    obtain ⟨Y, FY, yd, yc', yp', yw⟩ : ∃ Y, Fr (ghostOf S1.heap [(68, 66)]) S1.heap.objs.size h30 Y ∧ Y (Str.ofString "draws") = some (.ref D4) ∧ Y (Str.ofString "cased") = some (.ref D6) ∧ Y (Str.ofString "plain") = some (.ref D8) ∧ Y (Str.ofString "want") = some (.str (cat (qs.map (pieceS (ctxt cs) (ptxt ps))) ++ pieceS (ctxt cs) (ptxt ps) qn) t29) :=
      ⟨_, F30, by k_dflt exact zd, by k_dflt exact zc, by k_dflt exact zp, by k_dflt rfl⟩
    have hcat : cat ((qs ++ [qn]).map (pieceS (ctxt cs) (ptxt ps))) = cat (qs.map (pieceS (ctxt cs) (ptxt ps))) ++ pieceS (ctxt cs) (ptxt ps) qn := by
      rw [List.map_append, cat_append, List.map_cons, List.map_nil, cat_one]
    rw [← hcat] at yw
    have hql' : (qs ++ [qn]).length = i + 1 := by rw [List.length_append, hql]; rfl
    have hqok' : ∀ q ∈ qs ++ [qn], PieceOk (ctxt cs) (ptxt ps) q := fun q hq => by
      rcases List.mem_append.mp hq with hq | hq
      · exact hqok q hq
      · rw [List.mem_singleton.mp hq]; exact hok
    have hDp30 := pl_ne hDp27 up30 hD11L
    have hTp30 := hTp'
    obtain ⟨oT, hoT, rT⟩ := hTp30
    have hTn : TupP h30 (.ref Tp) qn := by
      rw [← hqq]
      exact ⟨Tp, tt, tf2, tl2, ts, te, rfl, oT, up30 _ _ hTpL (hs27.extBut _ _ hTpD hoT), rT⟩
    have hval' : Paired (fun v q => TupP h30 v q ∧ v ≠ .ref h16.objs.size ∧ v ≠ .ref D11 ∧ v ≠ .ref S1.heap.objs.size) (vals.push (.ref Tp)).toList (qs ++ [qn]) := by
      rw [Array.toList_push]
      refine Paired.snoc (paired_imp (fun v q hv => ?_) hvals) ⟨hTn, fun e => ?_, fun e => ?_, fun e => ?_⟩
      · obtain ⟨⟨T, t1, t2, t3, t4, t5, rfl, hT⟩, n1, n2, n3⟩ := hv
        obtain ⟨o, ho, r⟩ := hT
        exact ⟨⟨T, t1, t2, t3, t4, t5, rfl, o, upA T o (fun q => n3 (by rw [q])) (fun q => n2 (by rw [q])) ho, r⟩, n1, n2, n3⟩
      · injection e with e; exact hTpI e
      · injection e with e; exact hTpD e
      · injection e with e; exact hTpL e
    have Ua30 : h30.IsCell (S1.heap.objs.size + 1) none := by obtain ⟨o, ho, r⟩ := Uam; exact ⟨o, upA _ _ (by show @Ne Nat _ _; omega) (Ne.symm hD11a) ho, r⟩
    have Up30 : h30.IsCell (S1.heap.objs.size + 2) (some (.ref D11)) := by obtain ⟨o, ho, r⟩ := Upm; exact ⟨o, upA _ _ (by show @Ne Nat _ _; omega) (Ne.symm hD11p) ho, r⟩
    have tab30 := upA 66 _ (by show @Ne Nat _ _; omega) h66D tabm
    have hdv30 : h30.PlainList D4 dv := hdvm.at fun o e => upA _ _ hD4L hD4D e
    have hPc30 : h30.PlainList D6 yc := hPcm.at fun o e => upA _ _ hD6L hD6D e
    have hPp30 : h30.PlainList D8 yp := hPpm.at fun o e => upA _ _ hD8L hD8D e
    exact ⟨.inl rfl, h30, k30, rfl, ⟨Y, t29, vals.push (.ref Tp), qs ++ [qn], FY, yd, yc', yp', yw, hql', hqok', hDp30, hval', Ua30, Up30, tab30, hdv30, hPc30, hPp30⟩, fun o e => upA _ _ (Ne.symm hLI) (Ne.symm hDI) e⟩
  · rintro h tk ⟨m, tw, vals, qs, Fm, md, mc, mp, mw, hql, hqok, hDp, hvals, Uam, Upm, tabm, hdvm, hPcm, hPpm⟩
    repeat (first | walk_at "m1" | dsimp only)
    -- cased_text
    have hLn : S1.heap.objs.size ≠ D11 := Ne.symm hD11L
    refine c_join rfl fun t40 => ?_
    refine comp_list (cl := []) (fun v y => ∀ r, CasR v r → IsS y ⟨#[r.1]⟩) (by rfl) (by decide) rfl (by decide) rfl rfl ?_
    refine ldLoc Fm (by k_dflt exact mc) ?_ (by k_dflt rfl) (by k_dflt rfl) (by decide)
    refine ⟨D6, _, rfl, hPcm.isList, Nat.le_trans (by omega : yc.size ≤ 100) (by decide), ?_, ?_⟩
    · intro C v s₃ m₃ E' hv hn hm hk
      obtain ⟨r, hr, hvr⟩ := paired_mem hcs v hv
      obtain ⟨kr, rfl, hkr⟩ := id hvr
      obtain ⟨hp3, ge, dr, k3, os⟩ := s₃
      have kk : ∀ b o, Heap.get? _ b = some o → hp3.get? b = some o := fun b o e => hk b o (Fm.keep b o e)
      obtain ⟨tr, hT⟩ := cas_row (X.keeps kk) hkr
      repeat walk_at "m1"
      refine item_t hT (by decide) (by decide) rfl rfl ?_
      refine ⟨fun r' h' => ?_, _, _, rfl, fun _ _ e => e⟩
      rw [← casR_uniq hvr h']; exact ⟨_, rfl⟩
    intro D40 h40 k40 y40 hD40 hl40 hF40 kp40
    have hj1 := paired_map (fun r : Nat × Bool => (⟨#[r.1]⟩ : Str)) (fun v a y r f => f a r) hcs hF40
    refine ⟨D40, _, _, rfl, hl40.isList, hj1, (fun y hy => by obtain ⟨r, _, rfl⟩ := List.mem_map.mp hy; show 1 ≤ 1000; decide), by rw [List.length_map]; omega, ?_⟩
    intro _ _ _ _ _ e t41 k41
    cases e
    rw [show cat (cs.map fun r => (⟨#[r.1]⟩ : Str)) = ctxt cs from cat_signs _ _]
    have F40 := Fm.keeps kp40
    refine c_st F40 rfl (by k_dflt rfl) rfl fun h41 k42 F41 hs41 => ?_
    have up41 : ∀ b o, b ≠ S1.heap.objs.size → h.get? b = some o → h41.get? b = some o := fun b o n e => hs41.extBut b o n (kp40 b o e)
    repeat (first | walk_at "m1" | dsimp only)
    -- plain_text
    refine c_join rfl fun t42 => ?_
    refine comp_list (cl := []) (fun v y => ∀ r, PlaR v r → IsS y ⟨#[r.1]⟩) (by rfl) (by decide) rfl (by decide) rfl rfl ?_
    refine ldLoc F41 (by k_dflt exact mp) ?_ (by k_dflt rfl) (by k_dflt rfl) (by decide)
    refine ⟨D8, _, rfl, (pl_ne hPpm up41 hD8L).isList, Nat.le_trans (by omega : yp.size ≤ 100) (by decide), ?_, ?_⟩
    · intro C v s₃ m₃ E' hv hn hm hk
      obtain ⟨r, hr, hvr⟩ := paired_mem hps v hv
      obtain ⟨kr, rfl, hkr⟩ := id hvr
      obtain ⟨hp3, ge, dr, k3, os⟩ := s₃
      have kk : ∀ b o, Heap.get? _ b = some o → hp3.get? b = some o := fun b o e => hk b o (F41.keep b o e)
      obtain ⟨tr, tr2, tr3, hT⟩ := pla_row (X.keeps kk) hkr
      repeat walk_at "m1"
      refine item_t hT (by decide) (by decide) rfl rfl ?_
      refine ⟨fun r' h' => ?_, _, _, rfl, fun _ _ e => e⟩
      rw [← plaR_uniq hvr h']; exact ⟨_, rfl⟩
    intro D42 h42 k43 y42 hD42 hl42 hF42 kp42
    have hj2 := paired_map (fun r : Nat × Str × Str => (⟨#[r.1]⟩ : Str)) (fun v a y r f => f a r) hps hF42
    refine ⟨D42, _, _, rfl, hl42.isList, hj2, (fun y hy => by obtain ⟨r, _, rfl⟩ := List.mem_map.mp hy; show 1 ≤ 1000; decide), by rw [List.length_map]; omega, ?_⟩
    intro _ _ _ _ _ e t43 k44
    cases e
    rw [show cat (ps.map fun r => (⟨#[r.1]⟩ : Str)) = ptxt ps from cat_signs _ _]
    have F42 := F41.keeps kp42
    refine c_st F42 rfl (by k_dflt rfl) rfl fun h43 k45 F43 hs43 => ?_
    have up43 : ∀ b o, b ≠ S1.heap.objs.size → h.get? b = some o → h43.get? b = some o := fun b o n e => hs43.extBut b o n (kp42 b o (up41 b o n e))
    repeat (first | walk_at "m1" | dsimp only)
    -- asked
    refine c_list ?_
    repeat walk_at "m1"
    refine ⟨by simp, ?_⟩
    intro _ _ _ _ _ e D44 h44 hD44 hP44 kp44
    cases e
    have Ua44 := (cell_ne Uam up43 (by show @Ne Nat _ _; omega)).keeps kp44
    have hD44a := ne_cell Ua44 hP44.isList
    have hgD44 : ∀ b o, (ghostOf S1.heap [(68, 66)]).get? b = some o → b ≠ D44 := fun b o e q => by have := F43.keep b o e; rw [q, hD44] at this; cases this
    refine c_stc (F43.keeps kp44) rfl rfl rfl Ua44 (Nat.lt_succ_self _) fun h45 F45 Ua45 hs45 => ?_
    have hD11a' : D11 ≠ S1.heap.objs.size + 1 := hD11a
    have up45 : ∀ b o, b ≠ S1.heap.objs.size → b ≠ S1.heap.objs.size + 1 → h.get? b = some o → h45.get? b = some o := fun b o n1 n2 e => hs45.extBut b o n2 (kp44 b o (up43 b o n1 e))
    have hP45 := pl_ne hP44 hs45.extBut hD44a
    obtain ⟨Z, FZ, zw, zc, zp⟩ : ∃ Z, Fr (ghostOf S1.heap [(68, 66)]) S1.heap.objs.size h45 Z ∧ Z (Str.ofString "want") = some (.str (cat (qs.map (pieceS (ctxt cs) (ptxt ps)))) tw) ∧ Z (Str.ofString "cased_text") = some (.str (ctxt cs) t41) ∧ Z (Str.ofString "plain_text") = some (.str (ptxt ps) t43) := ⟨_, F45, by k_dflt exact mw, by k_dflt rfl, by k_dflt rfl⟩
    have hD11D : D11 ≠ D44 := fun q => by
      obtain ⟨n, e⟩ := hDp
      have := up43 _ _ hD11L e
      rw [q, hD44] at this; cases this
    have hD44p := ne_cell ((cell_ne Upm up43 (by show @Ne Nat _ _; omega)).keeps kp44) hP44.isList
    clear F40 F41 F42 F43 F45 hl40 hF40 hj1 hl42 hF42 hj2 hs41 hs43 hs45 kp40 kp42 kp44 up41 up43 Ua44 hP44
    repeat (first | walk_at "m1" | dsimp only)
    refine nestDef_K (by exact rfl) (by exact rfl) (by exact rfl) ?_
    have tab45 := up45 66 _ (by show @Ne Nat _ _; omega) (by show @Ne Nat _ _; omega) tabm
    have hgs := TG0.g.keeps FZ.keep
    obtain ⟨bm, ob, b1, b2, b3, b4, b5, b6⟩ := TG0.bmain
    have hgP : mainGlobals ≠ 66 := fun q => by
      obtain ⟨o, es, ep, e, hdd, _⟩ := hgs
      rw [q, tab45] at e; cases e; cases hdd
    have hbP : bm ≠ 66 := fun q => by
      have e := FZ.keep _ _ b3
      rw [q, tab45] at e; cases e; cases b4
    have hbG : bm ≠ mainGlobals := fun q => by
      obtain ⟨o, es, ep, e, hdd, _⟩ := TG0.g
      rw [q, e] at b3; cases b3; rw [hdd] at b6; cases b6
    refine makeFunction_K (clos := [(Str.ofString "pieces", S1.heap.objs.size + 2), (Str.ofString "asked", S1.heap.objs.size + 1)]) (by rfl) rfl hgs rfl (HC.keeps FZ.keep) tab45 (by exact True.intro) (by rfl) hgP ⟨bm, ob, b1, b2, hbG, hbP, FZ.keep _ _ b3, b4, b5, b6⟩ fun c' ctv doc h46 k46 hx hge hlt hrec htb => ?_
    have hL66 : S1.heap.objs.size ≠ 66 := by show @Ne Nat _ _; omega
    have g66 : ∀ b o, (ghostOf S1.heap [(68, 66)]).get? b = some o → b ≠ 66 := fun b o e q => by
      have := hideAll_none [66] (h := S1.heap) (b := 66) (.head _)
      rw [q] at e
      exact absurd (this.symm.trans e) (by simp)
    have up46 : ∀ b o, b ≠ 66 → h45.get? b = some o → h46.get? b = some o := hx
    have F46 : Fr (ghostOf S1.heap [(68, 66)]) S1.heap.objs.size h46 Z := ⟨FZ.ns.extBut hx hL66, fun b o e => hx b o (g66 b o e) (FZ.keep b o e), FZ.above⟩
    generalize hfo : (fnMade _ _ _ _ _ _ _ _ _ _) = fo
    have F47 := F46.keeps (h' := h46.push fo) fun b o e => Heap.get?_push_of_some _ e
    have hfget : (h46.push fo).get? h46.objs.size = some fo := Heap.get?_push_size _ (by rw [← hfo]; rfl)
    refine c_st F47 rfl (by k_dflt rfl) rfl fun h48 k48 F48 hs48 => ?_
    have hfL : h46.objs.size ≠ S1.heap.objs.size := Ne.symm (Nat.ne_of_lt F46.ns.lt)
    have hfget48 := hs48.extBut _ _ hfL hfget
    have up48 : ∀ b o, b ≠ 66 → b ≠ S1.heap.objs.size → h45.get? b = some o → h48.get? b = some o := fun b o n1 n2 e => hs48.extBut b o n2 (Heap.get?_push_of_some _ (hx b o n1 e))
    dsimp only
    walk_at "m1"
    walk_at "m1"
    walk_at "m1"
    have hcL : c' ≠ S1.heap.objs.size := Ne.symm (Nat.ne_of_lt (Nat.lt_of_lt_of_le FZ.ns.lt hge))
    have hrec48 := codeRec_up (h' := h48) hrec fun o e => hs48.extBut _ _ hcL (Heap.get?_push_of_some _ e)
    have hD44L := ne_list FZ hP45.isList
    have hD44n : (66 : Addr) ≠ D44 := fun q => by obtain ⟨n, e⟩ := hP45; rw [← q, tab45] at e; cases e
    have hP48 : h48.PlainList D44 #[] := hP45.at fun o e => up48 _ _ (Ne.symm hD44n) hD44L e
    have hv48 : Paired (fun v q => TupP h48 v q ∧ v ≠ .ref D44) vals.toList qs := paired_imp (fun v q hv => by
      obtain ⟨⟨T, t1, t2, t3, t4, t5, rfl, o, ho, hoc, n, hod⟩, n1, n2, n3⟩ := hv
      have m1 : T ≠ S1.heap.objs.size := fun q => n3 (by rw [q])
      have m2 : T ≠ S1.heap.objs.size + 1 := fun q => by
        obtain ⟨oc, hc, hdc⟩ := Uam
        rw [← q, ho] at hc
        cases hc
        rw [hod] at hdc; cases hdc
      have m3 : T ≠ 66 := fun q => by
        rw [q, tabm] at ho
        cases ho; cases hoc
      have e45 := up45 T o m1 m2 ho
      have m4 : T ≠ D44 := fun q => by
        obtain ⟨nn, e⟩ := hP45
        rw [← q, e45] at e
        cases e; injection hoc with hoc; exact absurd hoc (by decide)
      exact ⟨⟨T, t1, t2, t3, t4, t5, rfl, o, up48 T o m3 m1 e45, hoc, n, hod⟩, fun e => by injection e with e; exact m4 e⟩) hvals
    refine nmG (v := .ref 24) X TR F48.keep (by kernel_rfl) ?_ rfl rfl rfl (by decide)
    with_reducible refine callWith_K (K := K1 _) X (by kernel_rfl) ?_ (by k_dflt rfl) (by k_dflt rfl)
    repeat walk_at "m1"
    refine ⟨X.keeps F48.keep, ?_⟩
    have hac : (ctxt cs).length ≤ 100 := by rw [ctxt_len]; omega
    have hbc : (ptxt ps).length ≤ 100 := by rw [ptxt_len]; omega
    have hac0 : 0 < (ctxt cs).length := by rw [ctxt_len]; omega
    have hbc0 : 0 < (ptxt ps).length := by rw [ptxt_len]; omega
    have hD44lt : D44 < h48.objs.size := by obtain ⟨n, e⟩ := hP48; exact Heap.lt_size e
    refine wpAny_call (similar_spec (ps := qs) (of := fo) (fun b => b = D44) (fun h => ∃ Tq t1 t2, h.PlainList D44 #[.ref Tq] ∧ IsTup h Tq #[.str (Txt.lower (ctxt cs)) t1, .str (ptxt ps) t2] ∧ Tq ≠ h48.objs.size ∧ Tq ≠ h48.objs.size + 1) ?_ X TR F48.keep (Nat.le_trans F48.above (Nat.le_of_lt F48.ns.lt)) hgD44 (fun b e => e ▸ hD44lt) (by rw [room]; decide) rfl hac0 hbc0 hac hbc hqok (by omega) hfget48 (by rw [← hfo]) ?_ ?_)
    · rintro h h' ⟨Tq, t1, t2, a, b, n1, n2⟩ k
      exact ⟨Tq, t1, t2, a.at fun o e => k _ o (Nat.ne_of_lt hD44lt) (Nat.ne_of_lt (Nat.lt_succ_of_lt hD44lt)) e, by obtain ⟨o, ho, r⟩ := b; exact ⟨o, k _ _ n1 n2 ho, r⟩, n1, n2⟩
    · intro A' h' k' t1 t2 Q hA' hd' hk' hsz' cont
      rw [room] at hd'
      subst hfo
      refine wpAny_call (enter_clo [("one", .str (Txt.lower (ctxt cs)) t1), ("two", .str (ptxt ps) t2)] (hk' _ _ hfget48) (TR.nolimit.keeps fun b o e => hk' b o (F48.keep b o e)) (codeRec_up hrec48 fun o e => hk' _ o e) (Nat.lt_of_le_of_lt hd' (by decide)) (BindsTo.of_eq rfl) (by exact locs rfl) (by decide) rfl rfl rfl ?_)
      intro L51 h51 hL51 hns hk51
      walk_at "m1"
      refine wpAny_Expr ?_ (by rfl) (by rfl)
      refine call_append rfl (by rfl) (by rfl) (by rfl) ?_
      have Ua51 : h51.IsCell (S1.heap.objs.size + 1) (some (.ref D44)) := by obtain ⟨o, ho, r⟩ := Ua45; exact ⟨o, hk51 _ _ (hk' _ _ (up48 _ _ (by show @Ne Nat _ _; omega) (by show @Ne Nat _ _; omega) ho)), r⟩
      have Up51 : h51.IsCell (S1.heap.objs.size + 2) (some (.ref D11)) := by obtain ⟨o, ho, r⟩ := Upm; exact ⟨o, hk51 _ _ (hk' _ _ (up48 _ _ (by show @Ne Nat _ _; omega) (by show @Ne Nat _ _; omega) (up45 _ _ (by show @Ne Nat _ _; omega) (by show @Ne Nat _ _; omega) ho))), r⟩
      refine ldFe Ua51 ?_ (by k_dflt rfl) (by k_dflt rfl) (by k_dflt rfl) (by decide) (by decide)
      have hP51 : h51.PlainList D44 #[] := hP48.at fun o e => hk51 _ _ (hk' _ _ e)
      refine ⟨D44, #[], rfl, hP51, ?_⟩
      walk_at "m1"
      have F51 : Fr (ghostOf S1.heap [(68, 66)]) L51 h51 _ := ⟨hns, fun b o e => hk51 b o (hk' b o (F48.keep b o e)), by rw [hL51]; exact Nat.le_trans (Nat.le_trans F48.above (Nat.le_of_lt F48.ns.lt)) (Nat.le_trans (Nat.le_add_right _ 2) hsz')⟩
      refine c_tupleX ?_
      dsimp only
      walk_at "m1"
      refine ldLe F51.ns (by k_dflt rfl) ?_ (by k_dflt rfl) (by k_dflt rfl) (by decide)
      walk_at "m1"
      refine ldLe F51.ns (by k_dflt rfl) ?_ (by k_dflt rfl) (by k_dflt rfl) (by decide)
      walk_at "m1"
      refine ⟨by simp, ?_⟩
      intro _ _ _ _ _ e h52 hT52 kp52
      cases e
      repeat walk_at "m1"
      refine ⟨_, rfl, hP51.at (kp52 _), by decide, ?_⟩
      intro _ _ _ _ _ e h53 hP53 hs53
      cases e
      have hL51D : L51 ≠ D44 := fun q => by
        have q2 : h48.objs.size + 2 ≤ D44 := by rw [← q, hL51]; exact hsz'
        exact Nat.not_lt.mpr (Nat.le_trans (Nat.le_add_right _ 2) q2) hD44lt
      have F53 : Fr (ghostOf S1.heap [(68, 66)]) L51 h53 _ := ⟨(F51.keeps kp52).ns.sameBut hs53 hL51D, fun b o e => hs53.extBut b o (hgD44 b o e) (kp52 b o (F51.keep b o e)), F51.above⟩
      walk_at "m1"
      walk_at "m1"
      have hlt51 : h48.objs.size + 2 < h51.objs.size := Nat.lt_of_le_of_lt (by rw [← show L51 = h'.objs.size from hL51] at hsz'; exact hsz') hns.lt
      have hD44lt51 : D44 ≠ h51.objs.size := Nat.ne_of_lt (Nat.lt_trans hD44lt (Nat.lt_of_le_of_lt (Nat.le_add_right _ 2) hlt51))
      have kD : ∀ b o, b ≠ D44 → h48.get? b = some o → h53.get? b = some o := fun b o n e => hs53.extBut b o n (kp52 b o (hk51 b o (hk' b o e)))
      have hDp53 : h53.PlainList D11 vals := (hDp.at (h' := h45) fun o e => up45 _ _ hD11L hD11a' e).at fun o e => kD _ _ hD11D (up48 _ _ (Ne.symm h66D) hD11L e)
      have Up53 : h53.IsCell (S1.heap.objs.size + 2) (some (.ref D11)) := by obtain ⟨o, ho, r⟩ := Up51; exact ⟨o, hs53.extBut _ _ (Ne.symm hD44p) (kp52 _ _ ho), r⟩
      walk_at "m1"
      refine nmB (K := K1 _) X TR F53.keep (by kernel_rfl) (by boot_by_name) (by decide) ?_ (by k_dflt rfl) (by k_dflt rfl) (by k_dflt rfl) (by k_dflt rfl) (by decide)
      walk_at "m1"
      walk_at "m1"
      refine ldFe Up53 ?_ (by k_dflt rfl) (by k_dflt rfl) (by k_dflt rfl) (by decide) (by decide)
      walk_at "m1"
      obtain ⟨n53, e53⟩ := hDp53
      have hvz : vals.size = qs.length := by have := paired_len hvals; simpa using this
      refine call_list_seq D11 (.inl rfl) e53 rfl rfl (fun h54 c54 kp54 hnew => ?_) (Nat.le_trans (by omega : vals.size ≤ 100) (by decide))
      refine cont h53.objs.size vals h54 _ (fun e => ?_) ⟨_, hnew, rfl, c54, rfl⟩ ?_ (fun b o n e => kp54 b o (hs53.extBut b o n (kp52 b o (hk51 b o e)))) ⟨h51.objs.size, t1, t2, hP53.at (kp54 _), ?_, ?_, ?_⟩
      · obtain ⟨n, e'⟩ := hP53
        exact Nat.lt_irrefl _ (e ▸ Heap.lt_size e')
      · refine paired_imp (fun v q hv => ?_) hv48
        obtain ⟨⟨T, u1, u2, u3, u4, u5, rfl, o, ho, r⟩, n1⟩ := hv
        exact ⟨T, u1, u2, u3, u4, u5, rfl, o, kp54 _ _ (kD T o (fun q => n1 (by rw [q])) ho), r⟩
      · obtain ⟨o, ho, r⟩ := hT52
        exact ⟨o, kp54 _ _ (hs53.extBut _ _ (Ne.symm hD44lt51) ho), r⟩
      · exact Ne.symm (Nat.ne_of_lt (Nat.lt_of_le_of_lt (Nat.le_add_right _ 2) hlt51))
      · exact Ne.symm (Nat.ne_of_lt (Nat.lt_of_le_of_lt (Nat.le_succ _) hlt51))
    · intro t50 h50 k50 kp50 hpx
      have F50 : Fr (ghostOf S1.heap [(68, 66)]) S1.heap.objs.size h50 _ := ⟨F48.ns.at' fun o e => kp50 _ o (Ne.symm hD44L) e, fun b o e => kp50 b o (hgD44 b o e) (F48.keep b o e), F48.above⟩
      obtain ⟨Tq, u1, u2, hA50, hT50, n1, n2⟩ := hpx
      have hTqL : Tq ≠ S1.heap.objs.size := fun q => by
        obtain ⟨o, ho, hc, n, hd⟩ := hT50
        obtain ⟨o', es, ep, ho', hd', _⟩ := F50.ns
        rw [← q, ho] at ho'
        cases ho'
        rw [hd] at hd'; cases hd'
      have tab50 : GrownAt 66 h50 := ⟨_, kp50 _ _ hD44n (hs48.extBut _ _ (Ne.symm hL66) (Heap.get?_push_of_some _ htb))⟩
      have Ua50 : h50.IsCell (S1.heap.objs.size + 1) (some (.ref D44)) := by
        obtain ⟨o, ho, r⟩ := Ua45
        exact ⟨o, kp50 _ _ (Ne.symm hD44a) (up48 _ _ (by show @Ne Nat _ _; omega) (by show @Ne Nat _ _; omega) ho), r⟩
      dsimp only
      refine c_st F50 rfl (by k_dflt rfl) rfl fun h51 k51 F51 hs51 => ?_
      obtain ⟨V, FV, vt, vw, vc, vp⟩ : ∃ V, Fr (ghostOf S1.heap [(68, 66)]) S1.heap.objs.size h51 V ∧ V (Str.ofString "told") = some (.str (cat (qs.map (pieceS (ctxt cs) (ptxt ps)))) t50) ∧ V (Str.ofString "want") = some (.str (cat (qs.map (pieceS (ctxt cs) (ptxt ps)))) tw) ∧ V (Str.ofString "cased_text") = some (.str (ctxt cs) t41) ∧ V (Str.ofString "plain_text") = some (.str (ptxt ps) t43) := ⟨_, F51, by k_dflt rfl, by k_dflt exact zw, by k_dflt exact zc, by k_dflt exact zp⟩
      have hA51 := pl_ne hA50 hs51.extBut hD44L
      have hT51 : IsTup h51 Tq #[.str (Txt.lower (ctxt cs)) u1, .str (ptxt ps) u2] := by obtain ⟨o, ho, r⟩ := hT50; exact ⟨o, hs51.extBut _ _ hTqL ho, r⟩
      have tab51 : GrownAt 66 h51 := by obtain ⟨pp, e⟩ := tab50; exact ⟨pp, hs51.extBut _ _ (Ne.symm hL66) e⟩
      have Ua51 := cell_but Ua50 hs51 (by show @Ne Nat _ _; omega)
      clear F48 F50 F51 FZ Fm hA50 hT50 tab50 Ua50 hs51 kp50
      try dsimp only
      walk_at "m1"
      walk_at "m1"
      refine wpAny_And2 ?_
      walk_at "m1"
      walk_at "m1"
      walk_at "m1"
      refine eq_s ?_
      walk_at "m1"
      refine ite_pos (decide_eq_true rfl) ?_
      walk_at "m1"
      refine ldCe Ua51 ?_ rfl (by k_dflt rfl) (by k_dflt rfl) (by decide)
      refine c_list ?_
      walk_at "m1"
      refine c_tupleX ?_
      walk_at "m1"
      refine c_lower rfl ?_
      walk_at "m1"
      refine ⟨ctxt cs, t41, rfl, by omega, ?_⟩
      intro _ _ _ _ _ e t52 k52
      cases e
      walk_at "m1"
      walk_at "m1"
      walk_at "m1"
      refine ⟨by simp, ?_⟩
      intro _ _ _ _ _ e h52 hT52 kp52
      cases e
      walk_at "m1"
      refine ⟨by simp, ?_⟩
      intro _ _ _ _ _ e D53 h53 hD53 hP53 kp53
      cases e
      refine SeqAt.eq_listAt (e := fun _ => true) (hA51.at fun o e => kp53 _ _ (kp52 _ _ e)).isList hP53.isList rfl (unitsA _) ?_ ?_
      · intro j h1 h2
        have hj : j = 0 := Nat.lt_one_iff.mp h1
        subst hj
        refine SeqAt.EqAt.of_refs (l := Tq) (b := h51.objs.size) (fun q => ?_) ?_
        · obtain ⟨o, ho, _⟩ := hT51
          exact Nat.lt_irrefl _ (q ▸ Heap.lt_size ho)
        · refine SeqAt.RcAt.tuples (e := fun _ => true) (hT51.keeps fun b o e => kp53 _ _ (kp52 _ _ e)) (hT52.keeps kp53) (unitsB _) ?_
          intro j h1 h2
          have hj : j = 0 ∨ j = 1 := by have : j < 2 := h1; omega
          rcases hj with rfl | rfl
          · exact (beq_self_eq_true (Txt.lower (ctxt cs))) ▸ SeqAt.EqAt.str_str _ _ _ _
          · exact (beq_self_eq_true (ptxt ps)) ▸ SeqAt.EqAt.str_str _ _ _ _
      dsimp only
      refine ⟨rfl, fun b o e => kp53 _ _ (kp52 _ _ (FV.keep b o e)), rfl, rfl, ⟨?_, True.intro⟩⟩
      obtain ⟨pp, e⟩ := tab51
      exact ⟨pp, kp53 _ _ (kp52 _ _ e)⟩)
end Mine
end

theorem PySem.Challenge.cw_gb5018_02_holds : PySem.Challenge.rw_gb5018_02.Holds := by
  exact Mine.fin02
