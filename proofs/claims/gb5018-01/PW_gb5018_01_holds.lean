import PyProof.Rows.All
import Wide.All
import OpenK.AllK
import Wide.FinOn
import PySem.Challenge.RW_gb5018_01
open PySem PySem.W PyProof.Rows
set_option Elab.async false
section
namespace Mine
set_option maxRecDepth 100000 in
set_option maxHeartbeats 8000000 in
open_top hd01 for PySem.Challenge.rw_gb5018_01
end Mine
end

section
open PySem.Calls
namespace Mine
section zip
structure ZApart (z TI TO i1 i2 : Addr) : Prop where
  TIz : TI ≠ z
  TOz : TO ≠ z
  i1z : i1 ≠ z
  i2z : i2 ≠ z
  TITO : TI ≠ TO
  TIi1 : TI ≠ i1
  TIi2 : TI ≠ i2
  TOi1 : TO ≠ i1
  TOi2 : TO ≠ i2
  i12 : i1 ≠ i2
variable {prog : Program} {w : World} {A : Around} {E : Value → Shared → Prop} {s : Shared}

theorem stAt {it : Addr} {n : Nat} {P : Nat → Value → Prop} {St : Nat → Heap → Prop} (D : Draws prog w A it [it] n P St) {i : Nat} {h h' : Heap} (x : St i h) (k : ∀ o, h.get? it = some o → h'.get? it = some o) : St i h' :=
  D.frame _ _ _ x fun b hb o e => by rw [List.mem_singleton.mp hb] at e ⊢; exact k o e

theorem zipd_next_item {z TI TO i1 i2 : Addr} {n1 n2 k1 k2 : Nat} {P1 P2 : Nat → Value → Prop} {S1 S2 : Nat → Heap → Prop} {a b : Value} {Q : Value → Shared → Prop} (D : ZApart z TI TO i1 i2)
    (D1 : Draws prog w A i1 [i1] n1 P1 S1) (D2 : Draws prog w A i2 [i2] n2 P2 S2)
    (hz : IsZip s.heap z TI TO .none) (hTI : IsPair s.heap TI (.ref i1) (.ref i2)) (hTO : IsPair s.heap TO a b)
    (h1 : S1 k1 s.heap) (h2 : S2 k2 s.heap) (hk1 : k1 < n1) (hk2 : k2 < n2)
    (hQ : ∀ h' tk x y, P1 k1 x → P2 k2 y → IsZip h' z TI TO (rawInt s.heap.objs.size) → IsPair h' TO x y → S1 (k1 + 1) h' → S2 (k2 + 1) h' → IsPair h' s.heap.objs.size x y → h'.objs.size = s.heap.objs.size + 1 →
      (∀ c o, c ≠ z → c ≠ TO → c ≠ i1 → c ≠ i2 → s.heap.get? c = some o → h'.get? c = some o) → Q (.ref s.heap.objs.size) { s with heap := h', toks := tk }) :
    wpAny (model prog w) A (Builtin.«zip.__next__» ⟨[.ref z], []⟩) (fun fin s' => ∃ v, fin = .done (.ret v) ∧ Q v s') E s := by
  show wpAny _ _ (field (.ref z) 2 >>= _) _ _ _
  refine wpAny_bind (wpAny_field hz rfl (x := .bool false) rfl ?_)
  show wpAny _ _ (field (.ref z) 3 >>= _) _ _ _
  refine wpAny_bind (wpAny_field hz rfl (x := .ref TI) rfl ?_)
  refine wpAny_bind (wpAny_seqItems hTI rfl ?_)
  show wpAny _ _ (Builtin.SmallTypes.ownedTupleIsFree (.ref z) >>= _) _ _ _
  refine wpAny_bind ?_
  unfold Builtin.SmallTypes.ownedTupleIsFree
  refine wpAny_bind (wpAny_field hz rfl (x := .none) rfl (wpAny_pure ?_))
  simp only [if_true]
  refine wpAny_bind (wpAny_rule ?_)
  refine wpAny_bind (wpAny_field hz rfl (x := .ref TO) rfl ?_)
  refine wpAny_bind (wpAny_setField_rec hz (by simp) fun h₁ hz₁ hs₁ => ?_)
  replace hz₁ : IsZip h₁ z TI TO .ellipsis := hz₁
  refine wpAny_bind ?_
  simp only [List.zipIdx_cons, List.zipIdx_nil, List.forIn_cons, List.forIn_nil]
  refine wpAny_bind (wpAny_bind (wpAny_onRaise ?_))
  show wpAny _ _ (Builtin.SmallTypes.nextOf (.ref i1) >>= _) _ _ _
  refine wpAny_bind (D1.item k1 _ _ _ hk1 (stAt D1 h1 fun o e => hs₁.extBut _ _ D.i1z e) fun x h₂ tk₂ px h1₂ hs₂ => wpAny_pure ?_)
  have hTO₂ : IsPair h₂ TO a b := hs₂.extBut _ _ D.TOi1 (hs₁.extBut _ _ D.TOz hTO)
  refine wpAny_bind (wpAny_seqItems hTO₂ rfl ?_)
  refine wpAny_bind (wpAny_updateSeq_pair hTO₂ fun h₃ hTO₃ hs₃ => ?_)
  replace hTO₃ : IsPair h₃ TO x b := hTO₃
  refine wpAny_bind (wpAny_letGo (wpAny_pure ?_))
  refine wpAny_bind (wpAny_bind (wpAny_onRaise ?_))
  show wpAny _ _ (Builtin.SmallTypes.nextOf (.ref i2) >>= _) _ _ _
  refine wpAny_bind (D2.item k2 _ _ _ hk2 (stAt D2 h2 fun o e => hs₃.extBut _ _ D.TOi2.symm (hs₂.extBut _ _ D.i12.symm (hs₁.extBut _ _ D.i2z e))) fun y h₄ tk₄ py h2₄ hs₄ => wpAny_pure ?_)
  have hTO₄ : IsPair h₄ TO x b := hs₄.extBut _ _ D.TOi2 hTO₃
  refine wpAny_bind (wpAny_seqItems hTO₄ rfl ?_)
  refine wpAny_bind (wpAny_updateSeq_pair hTO₄ fun h₅ hTO₅ hs₅ => ?_)
  replace hTO₅ : IsPair h₅ TO x y := hTO₅
  refine wpAny_bind (wpAny_letGo (wpAny_pure (wpAny_pure ?_)))
  refine wpAny_bind (wpAny_seqItems hTO₅ rfl ?_)
  refine wpAny_bind (wpAny_newTuple ?_)
  have hsz : h₅.objs.size = s.heap.objs.size := by rw [hs₅.1, hs₄.1, hs₃.1, hs₂.1, hs₁.1]
  have hz₅ : IsZip h₅ z TI TO .ellipsis := hs₅.extBut _ _ D.TOz.symm (hs₄.extBut _ _ D.i2z.symm (hs₃.extBut _ _ D.TOz.symm (hs₂.extBut _ _ D.i1z.symm hz₁)))
  have hk₅ : ∀ c o, c ≠ z → c ≠ TO → c ≠ i1 → c ≠ i2 → s.heap.get? c = some o → h₅.get? c = some o := fun c o c1 c2 c3 c4 e =>
    hs₅.extBut _ _ c2 (hs₄.extBut _ _ c4 (hs₃.extBut _ _ c2 (hs₂.extBut _ _ c3 (hs₁.extBut _ _ c1 e))))
  have h1₅ : S1 (k1 + 1) h₅ := stAt D1 h1₂ fun o e => hs₅.extBut _ _ D.TOi1.symm (hs₄.extBut _ _ D.i12 (hs₃.extBut _ _ D.TOi1.symm e))
  have h2₅ : S2 (k2 + 1) h₅ := stAt D2 h2₄ fun o e => hs₅.extBut _ _ D.TOi2.symm e
  have hzlt : z < h₅.objs.size := Heap.lt_size hz₅
  have hTOlt : TO < h₅.objs.size := Heap.lt_size hTO₅
  show wpAny _ _ (Builtin.SmallTypes.ownedTupleHandOut (.ref z) (.ref h₅.objs.size) >>= _) _ _ _
  refine wpAny_bind ?_
  unfold Builtin.SmallTypes.ownedTupleHandOut
  have hz₆ : IsZip (h₅.push { cls := .type "tuple", data := .seq #[x, y] }) z TI TO .ellipsis := Heap.get?_push_of_some _ hz₅
  refine wpAny_bind (wpAny_setField_rec hz₆ (by simp) fun h₇ hz₇ hs₇ => ?_)
  replace hz₇ : IsZip h₇ z TI TO (rawInt h₅.objs.size) := hz₇
  refine wpAny_setField_rec hz₇ (by simp) fun h₈ hz₈ hs₈ => ?_
  replace hz₈ : IsZip h₈ z TI TO (rawInt h₅.objs.size) := hz₈
  have up : ∀ c o, c ≠ z → h₅.get? c = some o → h₈.get? c = some o := fun c o c1 e => hs₈.extBut _ _ c1 (hs₇.extBut _ _ c1 (Heap.get?_push_of_some _ e))
  have hT₈ : IsPair h₈ h₅.objs.size x y := hs₈.extBut _ _ (Nat.ne_of_gt hzlt) (hs₇.extBut _ _ (Nat.ne_of_gt hzlt) (Heap.get?_push_size _ rfl))
  have hz8 : h₈.objs.size = h₅.objs.size + 1 := by rw [hs₈.1, hs₇.1, Heap.size_push]
  rw [hsz] at hz₈ hT₈ hz8
  refine wpAny_pure ⟨_, rfl, ?_⟩
  show Q (.ref h₅.objs.size) _
  rw [hsz]
  exact hQ h₈ tk₄ x y px py hz₈ (up _ _ D.TOz hTO₅) (stAt D1 h1₅ fun o e => up _ o D.i1z e) (stAt D2 h2₅ fun o e => up _ o D.i2z e) hT₈ hz8 fun c o c1 c2 c3 c4 e => up c o c1 (hk₅ c o c1 c2 c3 c4 e)

theorem zipd_next_end {z TI TO i1 i2 : Addr} {n1 n2 k : Nat} {P1 P2 : Nat → Value → Prop} {S1 S2 : Nat → Heap → Prop} {a b : Value} {Q : Fin → Shared → Prop} (D : ZApart z TI TO i1 i2)
    (D1 : Draws prog w A i1 [i1] n1 P1 S1) (D2 : Draws prog w A i2 [i2] n2 P2 S2)
    (hz : IsZip s.heap z TI TO .none) (hTI : IsPair s.heap TI (.ref i1) (.ref i2)) (hTO : IsPair s.heap TO a b)
    (h1 : S1 k s.heap) (h2 : S2 k s.heap) (hk : k = min n1 n2)
    (hE : ∀ h' tk e, (∀ c o, c ≠ z → c ≠ TO → c ≠ i1 → c ≠ i2 → s.heap.get? c = some o → h'.get? c = some o) → (∃ o, h'.get? e = some o ∧ o.cls = .type "StopIteration") → E (.ref e) { s with heap := h', toks := tk }) :
    wpAny (model prog w) A (Builtin.«zip.__next__» ⟨[.ref z], []⟩) Q E s := by
  show wpAny _ _ (field (.ref z) 2 >>= _) _ _ _
  refine wpAny_bind (wpAny_field hz rfl (x := .bool false) rfl ?_)
  show wpAny _ _ (field (.ref z) 3 >>= _) _ _ _
  refine wpAny_bind (wpAny_field hz rfl (x := .ref TI) rfl ?_)
  refine wpAny_bind (wpAny_seqItems hTI rfl ?_)
  show wpAny _ _ (Builtin.SmallTypes.ownedTupleIsFree (.ref z) >>= _) _ _ _
  refine wpAny_bind ?_
  unfold Builtin.SmallTypes.ownedTupleIsFree
  refine wpAny_bind (wpAny_field hz rfl (x := .none) rfl (wpAny_pure ?_))
  simp only [if_true]
  refine wpAny_bind (wpAny_rule ?_)
  refine wpAny_bind (wpAny_field hz rfl (x := .ref TO) rfl ?_)
  refine wpAny_bind (wpAny_setField_rec hz (by simp) fun h₁ hz₁ hs₁ => ?_)
  replace hz₁ : IsZip h₁ z TI TO .ellipsis := hz₁
  refine wpAny_bind ?_
  simp only [List.zipIdx_cons, List.zipIdx_nil, List.forIn_cons, List.forIn_nil]
  refine wpAny_bind (wpAny_bind (wpAny_onRaise ?_))
  show wpAny _ _ (Builtin.SmallTypes.nextOf (.ref i1) >>= _) _ _ _
  have h1₁ : S1 k h₁ := stAt D1 h1 fun o e => hs₁.extBut _ _ D.i1z e
  by_cases hx : k < n1
  · have hy : k = n2 := by omega
    refine wpAny_bind (D1.item k _ _ _ hx h1₁ fun x h₂ tk₂ px h1₂ hs₂ => wpAny_pure ?_)
    have hTO₂ : IsPair h₂ TO a b := hs₂.extBut _ _ D.TOi1 (hs₁.extBut _ _ D.TOz hTO)
    refine wpAny_bind (wpAny_seqItems hTO₂ rfl ?_)
    refine wpAny_bind (wpAny_updateSeq_pair hTO₂ fun h₃ hTO₃ hs₃ => ?_)
    refine wpAny_bind (wpAny_letGo (wpAny_pure ?_))
    refine wpAny_bind (wpAny_bind (wpAny_onRaise ?_))
    show wpAny _ _ (Builtin.SmallTypes.nextOf (.ref i2) >>= _) _ _ _
    refine wpAny_bind (D2.done _ _ _ (hy ▸ (stAt D2 h2 fun o e => hs₃.extBut _ _ D.TOi2.symm (hs₂.extBut _ _ D.i12.symm (hs₁.extBut _ _ D.i2z e)))) fun h₄ e hs₄ he => ?_)
    obtain ⟨oe, hoe, hce⟩ := he
    have hz₄ : IsZip h₄ z TI TO .ellipsis := hs₄ _ _ D.i2z.symm (hs₃.extBut _ _ D.TOz.symm (hs₂.extBut _ _ D.i1z.symm hz₁))
    have hez : e ≠ z := fun x => by subst x; rw [hz₄] at hoe; cases hoe; simp at hce
    refine wpAny_setField_rec hz₄ (by simp) fun h₅ _ hs₅ => hE h₅ _ e (fun c o c1 c2 c3 c4 x => hs₅.extBut _ _ c1 (hs₄ _ _ c4 (hs₃.extBut _ _ c2 (hs₂.extBut _ _ c3 (hs₁.extBut _ _ c1 x))))) ⟨oe, hs₅.extBut _ _ hez hoe, hce⟩
  · have hy : k = n1 := by omega
    refine wpAny_bind (D1.done _ _ _ (hy ▸ h1₁) fun h₂ e hs₂ he => ?_)
    obtain ⟨oe, hoe, hce⟩ := he
    have hz₂ : IsZip h₂ z TI TO .ellipsis := hs₂ _ _ D.i1z.symm hz₁
    have hez : e ≠ z := fun x => by subst x; rw [hz₂] at hoe; cases hoe; simp at hce
    refine wpAny_setField_rec hz₂ (by simp) fun h₃ _ hs₃ => hE h₃ _ e (fun c o c1 _ c3 _ x => hs₃.extBut _ _ c1 (hs₂ _ _ c3 (hs₁.extBut _ _ c1 x))) ⟨oe, hs₃.extBut _ _ hez hoe, hce⟩

theorem zipd_walks {z TI TO i1 i2 : Addr} {n1 n2 : Nat} {P1 P2 : Nat → Value → Prop} {S1 S2 : Nat → Heap → Prop} (D : ZApart z TI TO i1 i2)
    (D1 : Draws prog w A.in1 i1 [i1] n1 P1 S1) (D2 : Draws prog w A.in1 i2 [i2] n2 P2 S2) :
    WalksT prog w A z [z, TI, TO, i1, i2] [z, TO, i1, i2] (min n1 n2)
      (fun i vals => ∃ x y, P1 i x ∧ P2 i y ∧ vals = #[x, y])
      (fun i h => IsZip h z TI TO .none ∧ IsPair h TI (.ref i1) (.ref i2) ∧ (∃ a b, IsPair h TO a b) ∧ S1 i h ∧ S2 i h)
      (fun i T h => IsZip h z TI TO (rawInt T) ∧ IsPair h TI (.ref i1) (.ref i2) ∧ (∃ a b, IsPair h TO a b) ∧ S1 (i + 1) h ∧ S2 (i + 1) h ∧ T ≠ z ∧ T ≠ TO ∧ T ≠ i1 ∧ T ≠ i2) where
  sub := fun c hc => by simp at hc ⊢; rcases hc with rfl | rfl | rfl | rfl <;> simp
  frame := fun i h h' hst hk => by
    obtain ⟨hz, hTI, ⟨a, b, hTO⟩, h1, h2⟩ := hst
    exact ⟨hk z (by simp) _ hz, hk TI (by simp) _ hTI, ⟨a, b, hk TO (by simp) _ hTO⟩, stAt D1 h1 fun o e => hk i1 (by simp) o e, stAt D2 h2 fun o e => hk i2 (by simp) o e⟩
  item := fun i s Q E hi hst hQ => by
    obtain ⟨hz, hTI, ⟨a, b, hTO⟩, h1, h2⟩ := hst
    have hT : s.TypeIs (.ref z) "zip" := ⟨_, hz, rfl⟩
    unfold pyNext
    refine wpAny_bind (wpAny_attempt (wpAny_callSpecial?_slot (name := Str.ofString "__next__") hT F.slot_zip_next
      (wpAny_call_entry F.slot_zip_next hT F.entry_zip_next (zipd_next_item D D1 D2 hz hTI hTO h1 h2 (Nat.lt_of_lt_of_le hi (Nat.min_le_left ..)) (Nat.lt_of_lt_of_le hi (Nat.min_le_right ..))
        fun h' tk x y px py a1 a2 a3 a4 a5 a6 hk => wpAny_pure ?_) (F.args_zip_next_1 _))))
    have lt : ∀ {c o}, s.heap.get? c = some o → s.heap.objs.size ≠ c := fun e => Nat.ne_of_gt (Heap.lt_size e)
    exact hQ s.heap.objs.size #[x, y] h' tk ⟨x, y, px, py, rfl⟩ (Nat.le_refl _) ⟨_, a5, rfl, _, rfl⟩
      ⟨a1, hk _ _ D.TIz D.TITO D.TIi1 D.TIi2 hTI, ⟨_, _, a2⟩, a3, a4,
        lt hz, lt hTO, (by obtain ⟨_, e⟩ := D1.live _ _ h1; exact lt e), (by obtain ⟨_, e⟩ := D2.live _ _ h2; exact lt e)⟩
      fun c o hc e => hk c o (fun x => hc (by simp [x])) (fun x => hc (by simp [x])) (fun x => hc (by simp [x])) (fun x => hc (by simp [x])) e
  go := fun elts k pos i T s Q E hm hQ => by
    obtain ⟨hz, hTI, ⟨a, b, hTO⟩, h1, h2, _⟩ := hm
    refine wpAny_letOwnedTupleGo_zip hz fun h' hz' hs' => hQ h' ⟨hz', hs'.extBut _ _ D.TIz hTI, ⟨a, b, hs'.extBut _ _ D.TOz hTO⟩, stAt D1 h1 fun o e => hs'.extBut _ _ D.i1z e, stAt D2 h2 fun o e => hs'.extBut _ _ D.i2z e⟩
      fun c o hc e => hs'.extBut _ _ (fun x => hc (by simp [x])) e
  apart := fun i T h hm hT => by
    obtain ⟨_, _, _, _, _, t1, t2, t3, t4⟩ := hm
    simp at hT
    rcases hT with rfl | rfl | rfl | rfl
    · exact t1 rfl
    · exact t2 rfl
    · exact t3 rfl
    · exact t4 rfl
  done := fun s Q E hst hQ => by
    obtain ⟨hz, hTI, ⟨a, b, hTO⟩, h1, h2⟩ := hst
    have hT : s.TypeIs (.ref z) "zip" := ⟨_, hz, rfl⟩
    unfold pyNext
    refine wpAny_bind (wpAny_attempt (wpAny_callSpecial?_slot (name := Str.ofString "__next__") hT F.slot_zip_next
      (wpAny_call_entry F.slot_zip_next hT F.entry_zip_next (zipd_next_end D D1 D2 hz hTI hTO h1 h2 rfl fun h' tk e hk he => ?_) (F.args_zip_next_1 _))))
    obtain ⟨o, ho, hc⟩ := he
    refine wpAny_bind (wpAny_isInstance (T := "StopIteration") (b := true) ⟨o, ho, hc⟩ isSubtype_stop ?_)
    exact wpAny_pure (hQ _ _ fun c o hc e => hk c o (fun x => hc (by simp [x])) (fun x => hc (by simp [x])) (fun x => hc (by simp [x])) (fun x => hc (by simp [x])) e)
  self := fun i s Q E hst hQ => wpAny_pyIter_zip hst.1 hQ
end zip
end Mine
end

section
open PySem.Calls
namespace Mine
def itKind (x : Str) : String := if x.cps.all (· < 128) then "str_ascii_iterator" else "str_iterator"
def itObj (x : Str) (t : Tok) : Obj := { cls := .type (itKind x), data := .fields #[.str x t, .int 0 0] }
def chAt (x : Str) (i : Nat) (v : Value) : Prop := ∃ c u, x.cps[i]? = some c ∧ v = .str ⟨#[c]⟩ u
section
variable {prog : Program} {w : World} {A : Around} {E : Value → Shared → Prop} {s : Shared}
theorem pyIter_strK {x : Str} {t : Tok} {Q : Value → Shared → Prop} (hQ : Q (.ref s.heap.objs.size) { s with heap := s.heap.push (itObj x t) }) :
    wpAny (model prog w) A (pyIter (.str x t)) Q E s := by
  cases ha : x.cps.all (· < 128)
  · exact wpAny_pyIter_wide ha (by simpa [itObj, itKind, ha] using hQ)
  · exact wpAny_pyIter_ascii ha (by simpa [itObj, itKind, ha] using hQ)
theorem draws_str (hh : A.handled = none) (I : Addr) (x : Str) (t : Tok) : Draws prog w A I [I] x.cps.size (chAt x) (fun i h => h.IsStrIter I (itKind x) x t i) := by
  cases ha : x.cps.all (· < 128)
  · have e : itKind x = "str_iterator" := by simp [itKind, ha]
    rw [e]; exact Draws.strWide hh I x t
  · have e : itKind x = "str_ascii_iterator" := by simp [itKind, ha]
    rw [e]; exact Draws.strAscii hh I x t
theorem walks_str (hh : A.handled = none) (I : Addr) (x : Str) (t : Tok) : Walks prog w A I [I] [I] x.cps.size (chAt x) (fun i h => h.IsStrIter I (itKind x) x t i) := by
  cases ha : x.cps.all (· < 128)
  · have e : itKind x = "str_iterator" := by simp [itKind, ha]
    rw [e]; exact Walks.strWide hh I x t
  · have e : itKind x = "str_ascii_iterator" := by simp [itKind, ha]
    rw [e]; exact Walks.strAscii hh I x t
theorem isStrIter_new {h : Heap} (x : Str) (t : Tok) : (h.push (itObj x t)).IsStrIter h.objs.size (itKind x) x t 0 := ⟨_, Heap.get?_push_size _ rfl, rfl, rfl⟩
end

abbrev zH1 (h : Heap) (o1 : Obj) : Heap := h.push o1
abbrev zH2 (h : Heap) (o1 o2 : Obj) : Heap := (zH1 h o1).push o2
abbrev zH3 (h : Heap) (o1 o2 : Obj) : Heap := (zH2 h o1 o2).push { cls := .type "tuple", data := .seq #[.ref h.objs.size, .ref (zH1 h o1).objs.size] }
abbrev zH4 (h : Heap) (o1 o2 : Obj) : Heap := (zH3 h o1 o2).push { cls := .type "tuple", data := .seq #[.none, .none] }
abbrev zH5 (h : Heap) (o1 o2 : Obj) : Heap := (zH4 h o1 o2).push { cls := .type "zip", data := .fields #[.none, .bool false, .bool false, .ref (zH2 h o1 o2).objs.size, .ref (zH3 h o1 o2).objs.size] }

set_option maxHeartbeats 2000000 in
theorem meets_zip_strs (a b : Str) (ta tb : Tok) (o1 o2 : Obj)
    (k1 : ∀ (prog : Program) (w : World) (A : Around) (E : Value → Shared → Prop) (hp : Heap) (g : Array GenState) (d : Drawn) (tk : Nat) (os : OsState) (Q : Value → Shared → Prop), Q (.ref hp.objs.size) ⟨hp.push o1, g, d, tk, os⟩ → wpAny (model prog w) A (pyIter (.str a ta)) Q E ⟨hp, g, d, tk, os⟩)
    (k2 : ∀ (prog : Program) (w : World) (A : Around) (E : Value → Shared → Prop) (hp : Heap) (g : Array GenState) (d : Drawn) (tk : Nat) (os : OsState) (Q : Value → Shared → Prop), Q (.ref hp.objs.size) ⟨hp.push o2, g, d, tk, os⟩ → wpAny (model prog w) A (pyIter (.str b tb)) Q E ⟨hp, g, d, tk, os⟩) :
    Meets (Builtin.«zip.__new__» ⟨[.type "zip", .str a ta, .str b tb], []⟩) (fun _ R s =>
      R (.ok (.ret (.ref (zH4 s.heap o1 o2).objs.size))) { s with heap := zH5 s.heap o1 o2 }) :=
  .of_wp fun prog w A R s h => by
    obtain ⟨hp, g, d, tk, os⟩ := s
    have hsub := sub_zip
    wp_walk using k1, k2
    exact ⟨_, rfl, h⟩
section
variable {prog : Program} {w : World} {A : Around} {E : Value → Shared → Prop} {s : Shared}
theorem call_zip_strs {a b : Str} {ta tb : Tok} {Q : Value → Shared → Prop}
    (h : ∀ h' n, n = s.heap.objs.size → IsZip h' (n + 4) (n + 2) (n + 3) .none → IsPair h' (n + 2) (.ref n) (.ref (n + 1)) →
      IsPair h' (n + 3) .none .none → h'.IsStrIter n (itKind a) a ta 0 → h'.IsStrIter (n + 1) (itKind b) b tb 0 → h'.objs.size = n + 5 →
      (∀ c o, s.heap.get? c = some o → h'.get? c = some o) → Q (.ref (n + 4)) { s with heap := h' }) :
    wpAny (model prog w) A (call (.type "zip") [.str a ta, .str b tb]) Q E s := by
  refine callType_new F.called_zip (by decide) (F.typeCall_zip_2 _ _) (F.newCall_zip_2 _ _) (fun obj => F.args_object_init_3 obj _ _) F.entry_zip_new
    (meets_zip_strs a b ta tb (itObj a ta) (itObj b tb) (fun _ _ _ _ _ _ _ _ _ _ h => pyIter_strK h) (fun _ _ _ _ _ _ _ _ _ _ h => pyIter_strK h)) ?_
  have z1 : (zH1 s.heap (itObj a ta)).objs.size = s.heap.objs.size + 1 := Heap.size_push ..
  have z2 : (zH2 s.heap (itObj a ta) (itObj b tb)).objs.size = s.heap.objs.size + 2 := by rw [Heap.size_push, z1]
  have z3 : (zH3 s.heap (itObj a ta) (itObj b tb)).objs.size = s.heap.objs.size + 3 := by rw [Heap.size_push, z2]
  have z4 : (zH4 s.heap (itObj a ta) (itObj b tb)).objs.size = s.heap.objs.size + 4 := by rw [Heap.size_push, z3]
  have z5 : (zH5 s.heap (itObj a ta) (itObj b tb)).objs.size = s.heap.objs.size + 5 := by rw [Heap.size_push, z4]
  have g5 : (zH5 s.heap (itObj a ta) (itObj b tb)).get? (zH4 s.heap (itObj a ta) (itObj b tb)).objs.size = some _ := Heap.get?_push_size _ rfl
  have g4 : (zH5 s.heap (itObj a ta) (itObj b tb)).get? (zH3 s.heap (itObj a ta) (itObj b tb)).objs.size = some _ := Heap.get?_push_of_some _ (Heap.get?_push_size _ rfl)
  have g3 : (zH5 s.heap (itObj a ta) (itObj b tb)).get? (zH2 s.heap (itObj a ta) (itObj b tb)).objs.size = some _ := Heap.get?_push_of_some _ (Heap.get?_push_of_some _ (Heap.get?_push_size _ rfl))
  have g2 : (zH5 s.heap (itObj a ta) (itObj b tb)).get? (zH1 s.heap (itObj a ta)).objs.size = some _ := Heap.get?_push_of_some _ (Heap.get?_push_of_some _ (Heap.get?_push_of_some _ (Heap.get?_push_size _ rfl)))
  have g1 : (zH5 s.heap (itObj a ta) (itObj b tb)).get? s.heap.objs.size = some _ := Heap.get?_push_of_some _ (Heap.get?_push_of_some _ (Heap.get?_push_of_some _ (Heap.get?_push_of_some _ (Heap.get?_push_size _ rfl))))
  show _ ∧ _
  rw [z2, z3, z4] at g5
  rw [z1, z2] at g3
  rw [z3] at g4
  rw [z1] at g2
  rw [z4]
  exact ⟨⟨_, g5, rfl⟩, h _ _ rfl g5 g3 g4 ⟨_, g1, rfl, rfl⟩ ⟨_, g2, rfl, rfl⟩ z5 fun c o x =>
    Heap.get?_push_of_some _ (Heap.get?_push_of_some _ (Heap.get?_push_of_some _ (Heap.get?_push_of_some _ (Heap.get?_push_of_some _ x))))⟩
theorem zApart_new {n : Nat} : ZApart (n + 4) (n + 2) (n + 3) n (n + 1) where
  TIz := (by omega : ∀ n : Nat, n + 2 ≠ n + 4) n
  TOz := (by omega : ∀ n : Nat, n + 3 ≠ n + 4) n
  i1z := (by omega : ∀ n : Nat, n + 0 ≠ n + 4) n
  i2z := (by omega : ∀ n : Nat, n + 1 ≠ n + 4) n
  TITO := (by omega : ∀ n : Nat, n + 2 ≠ n + 3) n
  TIi1 := (by omega : ∀ n : Nat, n + 2 ≠ n + 0) n
  TIi2 := (by omega : ∀ n : Nat, n + 2 ≠ n + 1) n
  TOi1 := (by omega : ∀ n : Nat, n + 3 ≠ n + 0) n
  TOi2 := (by omega : ∀ n : Nat, n + 3 ≠ n + 1) n
  i12 := (by omega : ∀ n : Nat, n + 0 ≠ n + 1) n
end
end Mine
end

section
open PySem.Calls
namespace Mine
section
variable {prog : Program} {w : World} {A : Around} {E : Value → Shared → Prop} {s : Shared} {env : Env}

theorem paired_len {α β : Type} {F : α → β → Prop} : ∀ {l₁ : List α} {l₂ : List β}, Paired F l₁ l₂ → l₁.length = l₂.length
  | _, _, .nil => rfl
  | _, _, .cons _ t => congrArg (· + 1) (paired_len t)
theorem paired_imp {α β : Type} {F G : α → β → Prop} (h : ∀ a b, F a b → G a b) : ∀ {l₁ : List α} {l₂ : List β}, Paired F l₁ l₂ → Paired G l₁ l₂
  | _, _, .nil => .nil
  | _, _, .cons h₁ t => .cons (h _ _ h₁) (paired_imp h t)
/-- from sources that stand for data, and turns by the source: the results stand for the data's image -/
theorem paired_map {α β : Type} {R : Value → α → Prop} {F : Value → Value → Prop} {S : Value → β → Prop} (f : α → β) (hF : ∀ v a y, R v a → F v y → S y (f a)) :
    ∀ {vs : List Value} {as : List α} {ys : List Value}, Paired R vs as → Paired F vs ys → Paired S ys (as.map f)
  | _, _, _, .nil, .nil => .nil
  | _, _, _, .cons r rs, .cons h hs => .cons (hF _ _ _ r h) (paired_map f hF rs hs)
theorem paired_mem {α β : Type} {F : α → β → Prop} : ∀ {l₁ : List α} {l₂ : List β}, Paired F l₁ l₂ → ∀ a ∈ l₁, ∃ b, b ∈ l₂ ∧ F a b
  | _, _, .cons h t, a, hm => by
    rcases List.mem_cons.mp hm with rfl | hm
    · exact ⟨_, List.mem_cons_self, h⟩
    · obtain ⟨b, hb, hf⟩ := paired_mem t a hm; exact ⟨b, List.mem_cons_of_mem _ hb, hf⟩
theorem paired_get {α β : Type} {F : α → β → Prop} : ∀ {l₁ : List α} {l₂ : List β}, Paired F l₁ l₂ → ∀ (i : Nat) (b : β), l₂[i]? = some b → ∃ a, l₁[i]? = some a ∧ F a b
  | _, _, .cons h _, 0, b, e => ⟨_, rfl, by simpa using (Option.some.inj e) ▸ h⟩
  | _, _, .cons _ t, i + 1, b, e => paired_get t i b (by simpa using e)
theorem paired_get' {α β : Type} {F : α → β → Prop} : ∀ {l₁ : List α} {l₂ : List β}, Paired F l₁ l₂ → ∀ (i : Nat) (a : α), l₁[i]? = some a → ∃ b, l₂[i]? = some b ∧ F a b
  | _, _, .cons h _, 0, a, e => ⟨_, rfl, by simpa using (Option.some.inj e) ▸ h⟩
  | _, _, .cons _ t, i + 1, a, e => paired_get' t i a (by simpa using e)
theorem paired_drop {α β : Type} {F : α → β → Prop} : ∀ {l₁ : List α} {l₂ : List β}, Paired F l₁ l₂ → ∀ k : Nat, Paired F (l₁.drop k) (l₂.drop k)
  | _, _, h, 0 => h
  | _, _, .nil, _ + 1 => .nil
  | _, _, .cons _ t, k + 1 => paired_drop t k
theorem paired_take {α β : Type} {F : α → β → Prop} : ∀ {l₁ : List α} {l₂ : List β}, Paired F l₁ l₂ → ∀ k : Nat, Paired F (l₁.take k) (l₂.take k)
  | _, _, _, 0 => .nil
  | _, _, .nil, _ + 1 => .nil
  | _, _, .cons h t, k + 1 => .cons h (paired_take t k)

def IsS (v : Value) (x : Str) : Prop := ∃ t, v = .str x t
def IsI (v : Value) (k : Int) : Prop := ∃ t, v = .int k t
theorem strsAre_of {vs : List Value} {xs : List Str} (h : Paired IsS vs xs) : StrsAre vs xs := by
  induction h with
  | nil => exact .nil
  | cons a _ ih => obtain ⟨t, rfl⟩ := a; exact .cons _ t ih
theorem ints_paired {vs : List Value} {ks : List Int} (h : IntsAre vs ks) : Paired IsI vs ks := by
  induction h with
  | nil => exact .nil
  | cons n t _ ih => exact .cons ⟨t, rfl⟩ ih
theorem ints_of {vs : List Value} {ks : List Int} (h : Paired IsI vs ks) : IntsAre vs ks := by
  induction h with
  | nil => exact .nil
  | cons a _ ih => obtain ⟨t, rfl⟩ := a; exact .cons _ t ih

theorem not_new_of_old {h : Heap} {b : Addr} {o : Obj} (e : h.get? b = some o) : b ∉ [h.objs.size] := fun hb =>
  absurd (Heap.lt_size e) ((List.mem_singleton.mp hb) ▸ Nat.lt_irrefl _)

theorem walks_bound {I : Addr} {fp wr : List Addr} {n : Nat} {P : Nat → Value → Prop} {St : Nat → Heap → Prop} (W : Walks prog w A I fp wr n P St) : Walks prog w A I fp wr n (fun i v => i < n ∧ P i v) St where
  sub := W.sub
  frame := W.frame
  item := fun i s Q E hi st hQ => W.item i s Q E hi st fun v h' tk hP => hQ v h' tk ⟨hi, hP⟩
  done := W.done
  self := W.self

/-- a list comprehension over a list, its element pure -/
theorem comp_list {elt iter : Expr} {x : Str} {px : Pos} {scope : Scope} {cl : List (Str × Addr)} {pos : Pos} {Q : Value → Shared → Prop} (F : Value → Value → Prop)
    (hclos : closureFor scope env = pure cl) (hcell : ∀ y ∈ scope.names, y.2 ≠ .cell) (hkind : scope.kind = .function)
    (hnames : ∀ y ∈ scope.names, y.2 = .local → scope.names.lookup y.1 = some .local) (hx : scope.names.lookup x = some .local) (hh : A.handled = none)
    (h : wpAny (model prog w) A (eval iter env) (fun xv s₁ => ∃ l items, xv = .ref l ∧ s₁.heap.IsList l items ∧ items.size ≤ sizeLine ∧
      (∀ C v s₃ m₃ E', v ∈ items.toList → s₃.heap.Ns C m₃ → m₃ x = some v → (∀ b o, s₁.heap.get? b = some o → s₃.heap.get? b = some o) →
        wpAny (model prog w) A (eval elt (compEnvC scope cl C env)) (fun y s₄ => F v y ∧ Keeps s₃ s₄) E' s₃) ∧
      (∀ D h' tk ys, s₁.heap.get? D = none → h'.PlainList D ys → Paired F items.toList ys.toList → (∀ b o, s₁.heap.get? b = some o → h'.get? b = some o) → Q (.ref D) { s₁ with heap := h', toks := tk })) E s)
    (hs : ∀ x, foldedSetIterable iter env x = pure x := by intro _; rfl) :
    wpAny (model prog w) A (eval (.ListComp elt [⟨.Name x px, iter, [], 0⟩] scope pos) env) Q E s := by
  refine wpAny_ListComp_free (fun _ => true) F hclos hcell hkind hnames hx (wpAny_mono h (fun xv s₁ h₁ => ?_) fun _ _ e => e) hs
  obtain ⟨l, items, rfl, hl, hsz, helt, hQ⟩ := h₁
  have hlt : l < s₁.heap.objs.size := by obtain ⟨_, e, _⟩ := hl; exact Heap.lt_size e
  refine wpAny_pyIter_list hl ?_
  refine ⟨s₁.heap.objs.size, [s₁.heap.objs.size, l], [s₁.heap.objs.size], items.size, _, _, rfl, Walks.list hh _ l (Nat.ne_of_lt hlt) items, hsz,
    ⟨⟨_, Heap.get?_push_size _ rfl, rfl, rfl⟩, hl.at fun o e => Heap.get?_push_of_some _ e⟩, ?_, ⟨?_, ?_⟩, ?_⟩
  · intro b hb
    show b < (s₁.heap.push _).objs.size
    rw [Heap.size_push]
    rcases List.mem_cons.mp hb with rfl | hb
    · exact Nat.lt_succ_self _
    · rw [List.mem_singleton.mp hb]; exact Nat.lt_succ_of_lt hlt
  · intro C i v s₃ m₃ E' _ _ _ _ _ _
    exact wpAny_pure ⟨rfl, s₃.heap, s₃.toks, rfl, fun _ _ e => e⟩
  · intro C i v s₃ m₃ E' _ hP _ hn hm hk _
    exact helt C v s₃ m₃ E' (by obtain ⟨h1, rfl⟩ := Array.getElem?_eq_some_iff.mp hP; simp) hn hm fun b o e => hk b o (not_new_of_old e) (Heap.get?_push_of_some _ e)
  · intro D h' tk ys vs hnew _ hplD hlen hP hF hk
    have e' : vs = items.toList := walked_is hlen hP
    subst e'
    refine hQ D h' tk ys ?_ hplD (by rw [List.filter_eq_self.mpr (fun _ _ => rfl)] at hF; exact hF) fun b o e => hk b o (not_new_of_old e) (Heap.get?_push_of_some _ e)
    cases e : s₁.heap.get? D with
    | none => rfl
    | some o' => rw [Heap.get?_push_of_some _ e] at hnew; cases hnew

/-- a list comprehension over a range by ones from nought -/
theorem comp_range {elt iter : Expr} {x : Str} {px : Pos} {scope : Scope} {cl : List (Str × Addr)} {pos : Pos} {Q : Value → Shared → Prop} (G : Nat → Value → Prop)
    (hclos : closureFor scope env = pure cl) (hcell : ∀ y ∈ scope.names, y.2 ≠ .cell) (hkind : scope.kind = .function)
    (hnames : ∀ y ∈ scope.names, y.2 = .local → scope.names.lookup y.1 = some .local) (hx : scope.names.lookup x = some .local) (hh : A.handled = none)
    (h : wpAny (model prog w) A (eval iter env) (fun xv s₁ => ∃ r n t u v, xv = .ref r ∧ IsRange s₁.heap r 0 (n : Nat) 1 t u v ∧ n ≤ 1000000 ∧
      (∀ C i t s₃ m₃ E', i < n → s₃.heap.Ns C m₃ → m₃ x = some (.int (i : Nat) t) → (∀ b o, s₁.heap.get? b = some o → s₃.heap.get? b = some o) →
        wpAny (model prog w) A (eval elt (compEnvC scope cl C env)) (fun y s₄ => G i y ∧ Keeps s₃ s₄) E' s₃) ∧
      (∀ D h' tk ys, s₁.heap.get? D = none → h'.PlainList D ys → Paired (fun i y => G i y) (List.range n) ys.toList → (∀ b o, s₁.heap.get? b = some o → h'.get? b = some o) → Q (.ref D) { s₁ with heap := h', toks := tk })) E s)
    (hs : ∀ x, foldedSetIterable iter env x = pure x := by intro _; rfl) :
    wpAny (model prog w) A (eval (.ListComp elt [⟨.Name x px, iter, [], 0⟩] scope pos) env) Q E s := by
  refine wpAny_ListComp_free (fun _ => true) (fun v y => ∃ (i : Nat) (t : Tok), v = .int (i : Nat) t ∧ G i y) hclos hcell hkind hnames hx (wpAny_mono h (fun xv s₁ h₁ => ?_) fun _ _ e => e) hs
  obtain ⟨r, n, t, u, v, rfl, hr, hsz, helt, hQ⟩ := h₁
  have e2 : Builtin.Range.rangeSize 0 (n : Nat) 1 = (n : Nat) := by simp [Builtin.Range.rangeSize]; omega
  have hsm : Builtin.Range.small 0 (n : Nat) 1 = true := by
    unfold Builtin.Range.small
    rw [e2]
    simp [Builtin.Range.rangeFitsLong]
    omega
  refine wpAny_pyIter_range hr hsm ?_
  rw [e2]
  refine ⟨s₁.heap.objs.size, [s₁.heap.objs.size], [s₁.heap.objs.size], n, _, _, rfl, walks_bound (Walks.range hh _ 0 1 n), Nat.le_trans hsz (by decide), ?_, ?_, ⟨?_, ?_⟩, ?_⟩
  · show IsRangeIter _ _ _ _ _
    simpa using Heap.get?_push_size s₁.heap (o := { cls := .type "range_iterator", data := .fields #[rawInt 0, rawInt (n : Nat), rawInt 1] }) rfl
  · intro b hb
    show b < (s₁.heap.push _).objs.size
    rw [Heap.size_push, List.mem_singleton.mp hb]
    exact Nat.lt_succ_self _
  · intro C i v s₃ m₃ E' _ _ _ _ _ _
    exact wpAny_pure ⟨rfl, s₃.heap, s₃.toks, rfl, fun _ _ e => e⟩
  · intro C i v s₃ m₃ E' _ hP _ hn hm hk _
    obtain ⟨hi, t', rfl⟩ := hP
    have e3 : (0 : Int) + (i : Int) * 1 = (i : Nat) := by omega
    rw [e3] at hm ⊢
    exact wpAny_mono (helt C i t' s₃ m₃ E' hi hn hm fun b o e => hk b o (not_new_of_old e) (Heap.get?_push_of_some _ e)) (fun y s₄ hy => ⟨⟨i, t', rfl, hy.1⟩, hy.2⟩) fun _ _ e => e
  · intro D h' tk ys vs hnew _ hplD hlen hP hF hk
    rw [List.filter_eq_self.mpr (fun _ _ => rfl)] at hF
    have hi : Paired (fun i v => ∃ t, v = Value.int (i : Nat) t) (List.range n) vs := by
      subst hlen
      clear hF hk hplD hnew hQ helt hsm e2 hsz hr
      have : ∀ (k : Nat) (us : List Value), (∀ j v, us[j]? = some v → ∃ t, v = Value.int ((k + j : Nat) : Int) t) → Paired (fun i v => ∃ t, v = Value.int (i : Nat) t) (List.range' k us.length) us := by
        intro k us
        induction us generalizing k with
        | nil => intro _; exact .nil
        | cons u us ih =>
          intro hu
          rw [List.length_cons, List.range'_succ]
          refine .cons (by simpa using hu 0 u rfl) (ih (k + 1) fun j v e => ?_)
          obtain ⟨t, e'⟩ := hu (j + 1) v (by simpa using e)
          exact ⟨t, by rw [e']; congr 1; omega⟩
      rw [List.range_eq_range']
      exact this 0 vs fun j v e => by
        obtain ⟨_, t, e'⟩ := hP j v e
        exact ⟨t, by rw [e']; congr 1; omega⟩
    refine hQ D h' tk ys ?_ hplD ?_ fun b o e => hk b o (not_new_of_old e) (Heap.get?_push_of_some _ e)
    · cases e : s₁.heap.get? D with
      | none => rfl
      | some o' => rw [Heap.get?_push_of_some _ e] at hnew; cases hnew
    · have go : ∀ {ks : List Nat} {us zs : List Value}, Paired (fun i v => ∃ t, v = Value.int (i : Nat) t) ks us → Paired (fun v y => ∃ (i : Nat) (t : Tok), v = .int (i : Nat) t ∧ G i y) us zs → Paired (fun i y => G i y) ks zs := by
        intro ks us zs h1
        induction h1 generalizing zs with
        | nil => intro h2; cases h2; exact .nil
        | cons a _ ih =>
          intro h2
          cases h2 with
          | cons b bs =>
            obtain ⟨t, rfl⟩ := a
            obtain ⟨i, t', e, g⟩ := b
            injection e with e _
            have : i = _ := (Int.ofNat_inj.mp e).symm
            subst this
            exact .cons g (ih bs)
      exact go hi hF

/-- a list comprehension over a text's signs -/
theorem comp_str {elt iter : Expr} {x : Str} {px : Pos} {scope : Scope} {cl : List (Str × Addr)} {pos : Pos} {Q : Value → Shared → Prop} (f : Nat → Str)
    (hclos : closureFor scope env = pure cl) (hcell : ∀ y ∈ scope.names, y.2 ≠ .cell) (hkind : scope.kind = .function)
    (hnames : ∀ y ∈ scope.names, y.2 = .local → scope.names.lookup y.1 = some .local) (hx : scope.names.lookup x = some .local) (hh : A.handled = none)
    (h : wpAny (model prog w) A (eval iter env) (fun xv s₁ => ∃ a ta, xv = .str a ta ∧ a.cps.size ≤ sizeLine ∧
      (∀ C c t s₃ m₃ E', c ∈ a.cps.toList → s₃.heap.Ns C m₃ → m₃ x = some (.str ⟨#[c]⟩ t) → (∀ b o, s₁.heap.get? b = some o → s₃.heap.get? b = some o) →
        wpAny (model prog w) A (eval elt (compEnvC scope cl C env)) (fun y s₄ => IsS y (f c) ∧ Keeps s₃ s₄) E' s₃) ∧
      (∀ D h' tk ys, s₁.heap.get? D = none → h'.PlainList D ys → Paired IsS ys.toList (a.cps.toList.map f) → (∀ b o, s₁.heap.get? b = some o → h'.get? b = some o) → Q (.ref D) { s₁ with heap := h', toks := tk })) E s)
    (hs : ∀ x, foldedSetIterable iter env x = pure x := by intro _; rfl) :
    wpAny (model prog w) A (eval (.ListComp elt [⟨.Name x px, iter, [], 0⟩] scope pos) env) Q E s := by
  refine wpAny_ListComp_free (fun _ => true) (fun v y => ∃ c t, v = .str ⟨#[c]⟩ t ∧ IsS y (f c)) hclos hcell hkind hnames hx (wpAny_mono h (fun xv s₁ h₁ => ?_) fun _ _ e => e) hs
  obtain ⟨a, ta, rfl, hsz, helt, hQ⟩ := h₁
  refine pyIter_strK ?_
  refine ⟨s₁.heap.objs.size, [s₁.heap.objs.size], [s₁.heap.objs.size], a.cps.size, _, _, rfl, walks_str hh _ a ta, hsz, isStrIter_new a ta, ?_, ⟨?_, ?_⟩, ?_⟩
  · intro b hb
    show b < (s₁.heap.push _).objs.size
    rw [Heap.size_push, List.mem_singleton.mp hb]
    exact Nat.lt_succ_self _
  · intro C i v s₃ m₃ E' _ _ _ _ _ _
    exact wpAny_pure ⟨rfl, s₃.heap, s₃.toks, rfl, fun _ _ e => e⟩
  · intro C i v s₃ m₃ E' _ hP _ hn hm hk _
    obtain ⟨c, t, hc, rfl⟩ := hP
    exact wpAny_mono (helt C c t s₃ m₃ E' (by obtain ⟨h1, rfl⟩ := Array.getElem?_eq_some_iff.mp hc; simp) hn hm fun b o e => hk b o (not_new_of_old e) (Heap.get?_push_of_some _ e)) (fun y s₄ hy => ⟨⟨c, t, rfl, hy.1⟩, hy.2⟩) fun _ _ e => e
  · intro D h' tk ys vs hnew _ hplD hlen hP hF hk
    rw [List.filter_eq_self.mpr (fun _ _ => rfl)] at hF
    have hv : Paired (fun v c => ∃ t, v = Value.str ⟨#[c]⟩ t) vs a.cps.toList := by
      have : ∀ (us : List Value) (cs : List Nat), us.length = cs.length → (∀ (j : Nat) (v : Value), us[j]? = some v → ∃ c t, cs[j]? = some c ∧ v = Value.str ⟨#[c]⟩ t) → Paired (fun v c => ∃ t, v = Value.str ⟨#[c]⟩ t) us cs := by
        intro us
        induction us with
        | nil => intro cs hl _; cases cs with
          | nil => exact .nil
          | cons _ _ => cases hl
        | cons u us ih =>
          intro cs hl hu
          cases cs with
          | nil => cases hl
          | cons c cs =>
            obtain ⟨c', t, e, e'⟩ := hu 0 u rfl
            injection e with e; subst e
            exact .cons ⟨t, e'⟩ (ih cs (by simpa using hl) fun j v e => by simpa using hu (j + 1) v (by simpa using e))
      exact this vs a.cps.toList (by simpa using hlen) fun (j : Nat) (v : Value) e => by
        obtain ⟨c, t, hc, e'⟩ := hP j v e
        exact ⟨c, t, by simpa using hc, e'⟩
    refine hQ D h' tk ys ?_ hplD (paired_map (R := fun v c => ∃ t, v = Value.str ⟨#[c]⟩ t) f (fun v c y hr hf => ?_) hv hF) fun b o e => hk b o (not_new_of_old e) (Heap.get?_push_of_some _ e)
    · cases e : s₁.heap.get? D with
      | none => rfl
      | some o' => rw [Heap.get?_push_of_some _ e] at hnew; cases hnew
    · obtain ⟨t, rfl⟩ := hr
      obtain ⟨c', t', e, hy⟩ := hf
      injection e with e _
      injection e with e
      have : c = c' := by simpa using e
      subst this; exact hy
end
end Mine
end

section
open PySem.Calls
namespace Mine
section
variable {prog : Program} {w : World} {A : Around} {E : Value → Shared → Prop} {s : Shared} {env : Env}

theorem comp_zip {elt iter : Expr} {x x₂ : Str} {px px₂ tp : Pos} {tk₀ : Nat} {scope : Scope} {cl : List (Str × Addr)} {pos : Pos} {Q : Value → Shared → Prop} {a b : Str} (f : Nat → Nat → Str)
    (hclos : closureFor scope env = pure cl) (hcell : ∀ y ∈ scope.names, y.2 ≠ .cell) (hkind : scope.kind = .function)
    (hnames : ∀ y ∈ scope.names, y.2 = .local → scope.names.lookup y.1 = some .local) (hx : scope.names.lookup x = some .local) (hx₂ : scope.names.lookup x₂ = some .local) (hxx : x ≠ x₂) (hh : A.handled = none)
    (hsz : a.cps.size ≤ 1000000)
    (h : wpAny (model prog w) A (eval iter env) (fun xv s₁ => ∃ n ta tb, n = s.heap.objs.size ∧ xv = .ref (n + 4) ∧ IsZip s₁.heap (n + 4) (n + 2) (n + 3) .none ∧ IsPair s₁.heap (n + 2) (.ref n) (.ref (n + 1)) ∧
      IsPair s₁.heap (n + 3) .none .none ∧ s₁.heap.IsStrIter n (itKind a) a ta 0 ∧ s₁.heap.IsStrIter (n + 1) (itKind b) b tb 0 ∧ s₁.heap.objs.size = n + 5 ∧ (∀ c o, s.heap.get? c = some o → s₁.heap.get? c = some o) ∧
      (∀ C c d t u s₃ m₃ E', s₃.heap.Ns C m₃ → m₃ x = some (.str ⟨#[c]⟩ t) → m₃ x₂ = some (.str ⟨#[d]⟩ u) → (∀ b o, s.heap.get? b = some o → s₃.heap.get? b = some o) →
        wpAny (model prog w) A (eval elt (compEnvC scope cl C env)) (fun y s₄ => IsS y (f c d) ∧ Keeps s₃ s₄) E' s₃) ∧
      (∀ D h' tk ys, s.heap.get? D = none → h'.PlainList D ys → Paired IsS ys.toList (List.zipWith f a.cps.toList b.cps.toList) → (∀ b o, s.heap.get? b = some o → h'.get? b = some o) → Q (.ref D) { s₁ with heap := h', toks := tk })) E s)
    (hs : ∀ x, foldedSetIterable iter env x = pure x := by intro _; rfl) :
    wpAny (model prog w) A (eval (.ListComp elt [⟨.Tuple [.Name x px, .Name x₂ px₂] tk₀ tp, iter, [], 0⟩] scope pos) env) Q E s := by
  rw [eval_ListComp]
  refine wpAny_comprehension_free (use := none) rfl hs hclos hkind hnames (wpAny_mono h (fun xv s₁ h₁ => ?_) fun _ _ e => e)
  obtain ⟨n, ta, tb, hn, rfl, hz, hTI, hTO, hi1, hi2, hsz1, hk1, helt, hQ⟩ := h₁
  refine wpAny_pyIter_zip hz ?_
  have hA : A.in1.handled = none := hh
  have W := zipd_walks (prog := prog) (w := w) (A := A) (zApart_new (n := n)) (draws_str hA n a ta) (draws_str hA (n + 1) b tb)
  have hst : IsZip s₁.heap (n + 4) (n + 2) (n + 3) .none ∧ IsPair s₁.heap (n + 2) (.ref n) (.ref (n + 1)) ∧ (∃ a b, IsPair s₁.heap (n + 3) a b) ∧ s₁.heap.IsStrIter n (itKind a) a ta 0 ∧ s₁.heap.IsStrIter (n + 1) (itKind b) b tb 0 :=
    ⟨hz, hTI, ⟨_, _, hTO⟩, hi1, hi2⟩
  generalize hN : min a.cps.size b.cps.size = N at W
  generalize hSt : (fun (i : Nat) (h : Heap) => IsZip h (n + 4) (n + 2) (n + 3) .none ∧ IsPair h (n + 2) (.ref n) (.ref (n + 1)) ∧ (∃ a b, IsPair h (n + 3) a b) ∧ h.IsStrIter n (itKind a) a ta i ∧ h.IsStrIter (n + 1) (itKind b) b tb i) = St at W
  replace hst : St 0 s₁.heap := by rw [← hSt]; exact hst
  have hold : ∀ (c : Nat) (o : Obj), s.heap.get? c = some o → @LT.lt Nat _ c n := fun c o e => hn ▸ Heap.lt_size e
  have hwr : ∀ (c : Nat), @LT.lt Nat _ c n → c ∉ [n + 4, n + 3, n, n + 1] := fun c hc hm => by simp at hm; omega
  refine wpAny_newObj_type (wpAny_newFunctionEnv hcell (by intro y hy; simp at hy) (fun h₁ hns₁ hsb₁ => ?_) hkind)
  dsimp only at hns₁ hsb₁ ⊢
  generalize hH2 : s₁.heap.push { cls := .type "list", dict := none, data := .seq ([] : List Value).toArray } = H2 at hns₁ hsb₁ ⊢
  have hC : H2.objs.size = s₁.heap.objs.size + 1 := by rw [← hH2, Heap.size_push]
  have hCn : H2.objs.size = n + 6 := by rw [hC, hsz1]
  have hDC : s₁.heap.objs.size ≠ H2.objs.size := by rw [hC]; exact Nat.ne_of_lt (Nat.lt_succ_self _)
  have old : ∀ b o, s₁.heap.get? b = some o → h₁.get? b = some o := fun b o e => hsb₁.extBut b o (Nat.ne_of_lt (by rw [hC]; exact Nat.lt_succ_of_lt (Heap.lt_size e))) (Heap.get?_push_of_some _ (hH2 ▸ Heap.get?_push_of_some _ e))
  have hacc : h₁.PlainList s₁.heap.objs.size #[] := ⟨_, hsb₁.extBut _ _ hDC (Heap.get?_push_of_some _ (hH2 ▸ Heap.get?_push_size _ rfl))⟩
  have hst₁ : St 0 h₁ := W.frame _ _ _ hst fun b _ o e => old b o e
  generalize hD : s₁.heap.objs.size = D at hDC hacc hC
  generalize hCC : H2.objs.size = C at hDC hns₁ hC hCn
  have hDn : D = n + 5 := by omega
  have hDw : D ∉ [n + 4, n + 3, n, n + 1] := fun hm => by simp at hm; omega
  have hDf : D ∉ [n + 4, n + 2, n + 3, n, n + 1] := fun hm => by simp at hm; omega
  have hCf : C ∉ [n + 4, n + 2, n + 3, n, n + 1] := fun hm => by simp at hm; omega
  have hCw : C ∉ [n + 4, n + 3, n, n + 1] := fun hm => by simp at hm; omega
  have old2 : ∀ b o, s.heap.get? b = some o → h₁.get? b = some o := fun b o e => old b o (hk1 b o e)
  have hDs : s.heap.get? D = none := by
    cases e : s.heap.get? D with
    | none => rfl
    | some o => have := hold _ _ e; omega
  have hCs : s.heap.get? C = none := by
    cases e : s.heap.get? C with
    | none => rfl
    | some o => have := hold _ _ e; omega
  have loop : ∀ s₃ : Shared, s₃ = { s₁ with heap := h₁, toks := s₁.toks + ([] : List (Str × Value)).length } →
      codeAny (model prog w) A (.compLoop (.ListComp elt [⟨.Tuple [.Name x px, .Name x₂ px₂] tk₀ tp, iter, [], 0⟩] scope pos) 0 (.ref (n + 4)) (.ref D) (compEnvC scope cl C env))
        (compPost (model prog w) A E none Q (.ref D) C) s₃ := by
    rintro s₃ rfl
    refine LCp.codeAny_compLoop_pair
      (fun k s' => ∃ h' tk i ys m', s' = { s₁ with heap := h', toks := tk } ∧ i ≤ N ∧ k = N + 1 - i ∧ St i h' ∧ h'.Ns C m' ∧ h'.PlainList D ys ∧
        Paired IsS ys.toList ((List.zipWith f a.cps.toList b.cps.toList).take i) ∧ (∀ b o, s.heap.get? b = some o → h'.get? b = some o)) ?_ (N + 1)
      ⟨h₁, _, 0, #[], _, rfl, Nat.zero_le _, rfl, hst₁, hns₁, hacc, .nil, old2⟩
    rintro k s' ⟨h', tk, i, ys, m', rfl, hi, rfl, hst', hn', hacc', hP', hk'⟩
    have hyl : ys.size = i := by
      have := paired_len hP'
      simp at this; omega
    by_cases hlt : i < N
    · refine W.item i _ _ _ hlt hst' fun T vals h₂ tk₂ hv _ hT hm hk₂ => ?_
      obtain ⟨v, u, ⟨c, tc, hc, rfl⟩, ⟨d, td, hd, rfl⟩, rfl⟩ := hv
      have hTw := W.apart _ _ _ hm
      refine W.go _ _ _ i T _ _ _ hm fun h₃ hst₃ hk₃ => ?_
      refine assign_Tuple_tuple hh (items := #[.str ⟨#[c]⟩ tc, .str ⟨#[d]⟩ td]) (by obtain ⟨o, ho, r⟩ := hT; exact ⟨o, hk₃ _ _ hTw ho, r⟩) rfl rfl fun h₄ he => ?_
      have he' : ∀ b o, h₃.get? b = some o → h₄.get? b = some o := fun b o e => he b o (Nat.ne_of_lt (Heap.lt_size e)) e
      have up4 : ∀ b o, b ∉ [n + 4, n + 3, n, n + 1] → h'.get? b = some o → h₄.get? b = some o := fun b o hb e => he' b o (hk₃ b o hb (hk₂ b o hb e))
      refine assignInOrder_cons (wpAny_assign_Name (wpAny_storeName_local (lookup_relabel_local hx) (hn'.at' fun o e => up4 _ o hCw e) (fun h₅ hn₅ hs₅ => ?_) (by simp [compEnvC, relabel, hkind])))
      refine assignInOrder_cons (wpAny_assign_Name (wpAny_storeName_local (lookup_relabel_local hx₂) hn₅ (fun h₆ hn₆ hs₆ => ?_) (by simp [compEnvC, relabel, hkind])))
      refine assignInOrder_nil ?_
      have up6 : ∀ b o, b ≠ C → h₄.get? b = some o → h₆.get? b = some o := fun b o hb e => hs₆.extBut b o hb (hs₅.extBut b o hb e)
      have keep6 : ∀ b o, s.heap.get? b = some o → h₆.get? b = some o := fun b o e => up6 b o (fun q => by rw [q, hCs] at e; cases e) (up4 b o (hwr _ (hold _ _ e)) (hk' b o e))
      have hst₆ : St (i + 1) h₆ := W.frame _ _ _ hst₃ fun b hb o e => up6 b o (fun q => hCf (q ▸ hb)) (he' b o e)
      refine wpAny_mono (helt C c d tc td _ _ _ hn₆ (by simp [hxx]) (by simp) keep6) (fun y s₇ hy => ?_) fun _ _ e => e
      obtain ⟨hy, h₇, tk₇, rfl, hk₇⟩ := hy
      refine wpAny_list_append_plain (hsz := by rw [hyl]; exact Nat.le_trans hi (Nat.le_trans (hN ▸ Nat.min_le_left _ _) (Nat.le_trans hsz (by decide)))) ((hacc'.at fun o e => up4 _ o hDw e).at fun o e => hk₇ _ o (up6 _ o hDC e)) fun h₈ hl₈ hs₈ => ?_
      refine ⟨N + 1 - (i + 1), by omega, h₈, tk₇, i + 1, ys.push y, _, rfl, hlt, rfl, ?_, (hn₆.keeps hk₇).sameBut hs₈ (Ne.symm hDC), hl₈, ?_, fun b o e => hs₈.extBut b o (fun q => by rw [q, hDs] at e; cases e) (hk₇ b o (keep6 b o e))⟩
      · exact W.frame _ _ _ hst₆ fun b hb o e => hs₈.extBut b o (fun q => hDf (q ▸ hb)) (hk₇ b o e)
      · rw [List.take_add_one]
        have : (List.zipWith f a.cps.toList b.cps.toList)[i]? = some (f c d) := by
          rw [List.getElem?_zipWith]
          have e1 : a.cps.toList[i]? = some c := by simpa using hc
          have e2 : b.cps.toList[i]? = some d := by simpa using hd
          rw [e1, e2]
        rw [this]
        simpa using hP'.snoc hy
    · obtain rfl : i = N := Nat.le_antisymm hi (Nat.not_lt.mp hlt)
      refine W.done _ _ _ hst' fun h₂ tk₂ hk₂ => ?_
      refine ⟨m', hn'.at' fun o e => hk₂ _ o hCw e, fun h₃ hs₃ => ?_⟩
      refine hQ D h₃ tk₂ ys hDs ((hacc'.at fun o e => hk₂ _ o hDw e).extBut hs₃.extBut hDC) ?_ fun b o e => hs₃.extBut b o (fun q => by rw [q, hCs] at e; cases e) (hk₂ b o (hwr _ (hold _ _ e)) (hk' b o e))
      rw [List.take_of_length_le (by simp; omega)] at hP'
      exact hP'
  exact codeAny_compStart_list (loop _ rfl) (W.self 0 _ _ _ hst₁ (loop _ rfl))
end
end Mine
end

section
open PySem.Calls
namespace Mine
section
variable {prog : Program} {w : World} {A : Around} {E : Value → Shared → Prop} {s : Shared} {env : Env}

theorem keeps_refl (s : Shared) : Keeps s s := ⟨s.heap, s.toks, rfl, fun _ _ e => e⟩
theorem keeps_trans {a b c : Shared} (x : Keeps a b) (y : Keeps b c) : Keeps a c := by
  obtain ⟨h1, t1, rfl, k1⟩ := x
  obtain ⟨h2, t2, rfl, k2⟩ := y
  exact ⟨h2, t2, rfl, fun b o e => k2 b o (k1 b o e)⟩

/-- a def without cells, entered; its body raises nothing -/
theorem enter_def {K : Frag} {R : Result → Shared → Prop} {name qual : Str} {params : Arguments} {body : List Stmt} {scope : Scope} {dV kV doc pm cdv ct oc : Value} {an od : Option Addr} {osl : Array (Option Value)} {f : Addr} {args : Args} (binds : List (Str × Value))
    (X : K.In s.heap) (hlim : s.heap.NoLimit) (ho : K.lookup f = some ⟨oc, od, .func (fnOf name qual params body scope dV kV doc pm an cdv ct), osl⟩) (hcd : codeIn K cdv qual = true) (hroom : A.depth < recursionLimit)
    (hbind : BindsTo s (fnOf name qual params body scope dV kV doc pm an cdv ct) args binds) (hloc : ∀ y ∈ binds, scope.names.lookup y.1 = some .local) (hcell : ∀ x ∈ scope.names, x.2 ≠ .cell)
    (hco : scope.isCoroutine = false) (hgen : scope.isGenerator = false) (hk : scope.kind = .function)
    (h : ∀ (L : Nat) (h₁ : Heap), L = s.heap.objs.size → Fr s.heap L h₁ (fun y => binds.reverse.lookup y) →
      wpAny (model prog w) (A.deeper (envOf qual scope L f cdv)) (execs body (envOf qual scope L f cdv))
        (fun fl s' => R (.ok (.ret (match fl with | .ret v => v | _ => .none))) s') (fun _ _ => False)
        { s with heap := h₁, toks := s.toks + binds.length }) :
    codeAny (model prog w) A (.call (.ref f) args) R s := by
  refine codeAny_call_def (fd := fnOf name qual params body scope dV kV doc pm an cdv ct) (body := body) (binds := binds) hroom (X _ _ ho) rfl hlim (codeRec_of X hcd) rfl hbind hcell hloc (fun h₁ hns hk₁ => ?_) hco hgen hk
  exact wpAny_mono (h _ h₁ rfl ⟨hns, hk₁, Nat.le_refl _⟩) (fun _ _ x => x) fun _ _ x => x.elim

/-- a def with cells, entered; its body raises nothing -/
theorem enter_defC {K : Frag} {R : Result → Shared → Prop} {name qual : Str} {params : Arguments} {body : List Stmt} {scope : Scope} {dV kV doc pm cdv ct oc : Value} {an od : Option Addr} {osl : Array (Option Value)} {f : Addr} {args : Args} (binds : List (Str × Value))
    (X : K.In s.heap) (hlim : s.heap.NoLimit) (ho : K.lookup f = some ⟨oc, od, .func (fnOf name qual params body scope dV kV doc pm an cdv ct), osl⟩) (hcd : codeIn K cdv qual = true) (hroom : A.depth < recursionLimit)
    (hbind : BindsTo s (fnOf name qual params body scope dV kV doc pm an cdv ct) args binds) 
    (hkind : (binds.all fun y => scope.names.lookup y.1 == some .local || scope.names.lookup y.1 == some .cell) = true)
    (hco : scope.isCoroutine = false) (hgen : scope.isGenerator = false) (hk : scope.kind = .function)
    (h : ∀ (L : Nat) (h₁ : Heap) tk, L = s.heap.objs.size → Fr s.heap L h₁ (bindL (envOfC qual scope L f cdv).kindOf binds fun _ => none) →
      Cl L (cellsFrom (L + 1) scope.names []) h₁ (bindC (envOfC qual scope L f cdv).kindOf binds fun _ => none) →
      wpAny (model prog w) (A.deeper (envOfC qual scope L f cdv)) (execs body (envOfC qual scope L f cdv))
        (fun fl s' => R (.ok (.ret (match fl with | .ret v => v | _ => .none))) s') (fun _ _ => False)
        { s with heap := h₁, toks := tk }) :
    codeAny (model prog w) A (.call (.ref f) args) R s := by
  refine codeAny_call_function (fd := fnOf name qual params body scope dV kV doc pm an cdv ct) hroom (X _ _ ho) rfl hco hgen rfl (codeRec_of X hcd) (hbind _ _ _ _ ?_)
  refine wpAny_newFunctionEnv_cells hk (kindsX hkind _) fun env' he s' x => ?_
  subst he
  refine ⟨hlim.keeps x.toInCall.keep, codeAny_func ?_⟩
  obtain ⟨h₁, tk, rfl, _⟩ := x.done
  exact wpAny_mono (h s.heap.objs.size h₁ tk rfl ⟨x.toInCall.ns, x.toInCall.keep, Nat.le_refl _⟩ ⟨x.cell, x.apart, x.above⟩) (fun _ _ y => y) fun _ _ y => y.elim

theorem nmG {M : Model} {K : Frag} {h₀ : Heap} {mg mb : Str → Option Value} {p : Program} {loose : List Str} {x : Str} {pos : Pos} {v : Value} {Q : Value → Shared → Prop} (X : K.In h₀) (T : TopRead p loose mg mb h₀)
    (k : ∀ b o, h₀.get? b = some o → s.heap.get? b = some o) (e : nsIn K mainGlobals x = some (some v)) (h : Q v s) (hg : env.globals = mainGlobals) (hk : env.scope.kind = .function) (hx : env.kindOf x = some .globalImplicit) (hd : (x == ("__debug__" : Str)) = false) :
    wpAny M A (eval (.Name x pos) env) Q E s :=
  Name_function_global hk hx (loadGlobal_global (env := env) (by rw [hg]; exact T.g.keeps k) (mg_of X T.g e) h) hd
theorem nmB {M : Model} {K : Frag} {h₀ : Heap} {mg mb : Str → Option Value} {p : Program} {loose : List Str} {x : Str} {pos : Pos} {v : Value} {Q : Value → Shared → Prop} (X : K.In h₀) (T : TopRead p loose mg mb h₀)
    (k : ∀ b o, h₀.get? b = some o → s.heap.get? b = some o) (e : nsIn K mainGlobals x = some none) (hv : bootBuiltins x = some v) (hn : x ≠ "__name__") (h : Q v s) (hg : env.globals = mainGlobals) (hb : env.builtins = builtinsNs) (hk : env.scope.kind = .function) (hx : env.kindOf x = some .globalImplicit) (hd : (x == ("__debug__" : Str)) = false) :
    wpAny M A (eval (.Name x pos) env) Q E s :=
  Name_function_global hk hx (loadGlobal_builtin (env := env) (by rw [hg]; exact T.g.keeps k) (mg_none_of X T.g e) (by rw [hb]; exact T.b.keeps k) ((T.builtins x hn).trans hv) h) hd
end
end Mine
end

section
open PySem.Calls
namespace Mine
/-- the texts one behind the other -/
def cat (l : List Str) : Str := ⟨(l.flatMap fun y => y.cps.toList).toArray⟩
theorem cat_nil : cat [] = ⟨#[]⟩ := rfl
theorem cat_append (l m : List Str) : cat (l ++ m) = cat l ++ cat m := by
  apply Str.ext'
  show _ = (cat l).cps ++ (cat m).cps
  simp [cat]
theorem cat_cons (x : Str) (l : List Str) : cat (x :: l) = x ++ cat l := by
  apply Str.ext'
  show _ = x.cps ++ (cat l).cps
  simp [cat]
theorem join_empty' : ∀ l : List Str, Str.join (Str.ofString "") l = cat l
  | [] => by rw [cat_nil]; rfl
  | [x] => by
    rw [cat_cons, cat_nil]
    show x = x ++ (⟨#[]⟩ : Str)
    apply Str.ext'
    show x.cps = x.cps ++ #[]
    simp
  | x :: y :: r => by
    rw [cat_cons, ← join_empty' (y :: r)]
    show x ++ Str.ofString "" ++ Str.join (Str.ofString "") (y :: r) = _
    have e : x ++ Str.ofString "" = x := by
      apply Str.ext'
      show x.cps ++ (Str.ofString "").cps = x.cps
      have : (Str.ofString "").cps = #[] := by decide
      rw [this]; simp
    rw [e]
theorem join_empty (l : List Str) : Txt.join (Str.ofString "") l = cat l := by
  rw [← join_empty']; exact StrLaws.glued_eq_join _ _
theorem len_cat (l : List Str) : (cat l).length = (l.map (·.length)).sum := by
  show ((l.flatMap fun y => y.cps.toList).toArray).size = _
  induction l with
  | nil => rfl
  | cons x l ih =>
    simp only [List.flatMap_cons, List.size_toArray, List.length_append, List.map_cons, List.sum_cons] at ih ⊢
    rw [ih]; simp [Str.length]
theorem len_cat_le {B : Nat} : ∀ {l : List Str}, (∀ y ∈ l, y.length ≤ B) → (cat l).length ≤ B * l.length := by
  intro l h
  rw [len_cat]
  have := StrLaws.sumLen_le l h
  rw [Nat.mul_comm]; exact this

section
variable {prog : Program} {w : World} {A : Around} {E : Value → Shared → Prop} {s : Shared} {env : Env}

theorem len_s {x : Str} {t : Tok} {Q : Value → Shared → Prop} (hx : x.length ≤ 1000000) (h : ∀ t' k, Q (.int x.length t') { s with toks := k }) : wpAny (model prog w) A (call (.builtin "len") [.str x t]) Q E s :=
  P.len_str (by omega) (h _ _)
theorem len_l {l : Addr} {items : Array Value} {Q : Value → Shared → Prop} (hl : s.heap.IsList l items) (hx : items.size ≤ 1000000) (h : ∀ t' k, Q (.int items.size t') { s with toks := k }) : wpAny (model prog w) A (call (.builtin "len") [.ref l]) Q E s :=
  len_list hl (by omega) (h _ _)
theorem upper_s {x : Str} {t : Tok} {Q : Value → Shared → Prop} (hx : x.length ≤ 1000000) (h : ∀ t' k, Q (.str (Txt.upper x) t') { s with toks := k }) : wpAny (model prog w) A (call (.builtin "str.upper") [.str x t]) Q E s :=
  SCL.upper (by omega) fun _ => h _ _
theorem lower_s {x : Str} {t : Tok} {Q : Value → Shared → Prop} (hx : x.length ≤ 1000000) (h : ∀ t' k, Q (.str (Txt.lower x) t') { s with toks := k }) : wpAny (model prog w) A (call (.builtin "str.lower") [.str x t]) Q E s :=
  SCL.lower (by omega) fun _ => h _ _
theorem isupper_s {x : Str} {t : Tok} {Q : Value → Shared → Prop} (h : Q (.bool (Txt.isupper x)) s) : wpAny (model prog w) A (call (.builtin "str.isupper") [.str x t]) Q E s := SC.isupper h
theorem join_s {D : Addr} {t : Tok} {items : Array Value} {ys : List Str} {Q : Value → Shared → Prop} (hl : s.heap.IsList D items) (hi : Paired IsS items.toList ys) (hB : ∀ y ∈ ys, y.length ≤ 1000) (hn : ys.length ≤ 1000)
    (h : ∀ t' k, Q (.str (cat ys) t') { s with toks := k }) : wpAny (model prog w) A (call (.builtin "str.join") [.str (Str.ofString "") t, .ref D]) Q E s := by
  refine join_list hl (strsAre_of hi) ?_ fun t' k => by rw [join_empty]; exact h t' k
  have h1 := StrLaws.sumLen_le ys hB
  have h2 : (Str.ofString "").length = 0 := by decide
  have h3 : ys.length * 1000 ≤ 1000 * 1000 := Nat.mul_le_mul_right _ hn
  rw [h2]; omega
theorem add_s {x y : Str} {t u : Tok} {Q : Value → Shared → Prop} (hx : x.length ≤ 1000000) (hy : y.length ≤ 1000000) (h : ∀ t' k, Q (.str (x ++ y) t') { s with toks := k }) : wpAny (model prog w) A (binaryOp .Add (.str x t) (.str y u)) Q E s :=
  SB.add h (by unfold sizeLine; omega)
theorem iadd_s {x y : Str} {t u : Tok} {Q : Value → Shared → Prop} (hx : x.length ≤ 1000000) (hy : y.length ≤ 1000000) (h : ∀ t' k, Q (.str (x ++ y) t') { s with toks := k }) : wpAny (model prog w) A (inplaceOp .Add (.str x t) (.str y u)) Q E s :=
  SB.iadd h (by unfold sizeLine; omega)
theorem str_beq (x y : Str) : (x.cps.toList == y.cps.toList) = decide (x = y) := by
  by_cases h : x = y
  · subst h; simp
  · rw [decide_eq_false h, beq_eq_false_iff_ne]
    intro e
    exact h (Str.ext' (by rw [← Array.toArray_toList (xs := x.cps), e, Array.toArray_toList]))
theorem eq_s {x y : Str} {t u : Tok} {Q : Value → Shared → Prop} (h : Q (.bool (decide (x = y))) s) : wpAny (model prog w) A (compareOp .Eq (.str x t) (.str y u)) Q E s := P.eq_str (by rw [str_beq]; exact h)
theorem ne_s {x y : Str} {t u : Tok} {Q : Value → Shared → Prop} (h : Q (.bool (!decide (x = y))) s) : wpAny (model prog w) A (compareOp .NotEq (.str x t) (.str y u)) Q E s := P.ne_str (by rw [bne, str_beq]; exact h)
end
end Mine
end

section
open PySem.Calls
set_option maxRecDepth 100000
namespace Mine
section
variable {prog : Program} {w : World} {A : Around} {E : Value → Shared → Prop} {s : Shared} {env : Env}

theorem call_join {elt : Expr} {gens : List Comprehension} {sc : Scope} {lp p apos pos : Pos} {k : Nat} {Q : Value → Shared → Prop} (hline : (apos.endLine == pos.line) = true)
    (h : ∀ t, wpAny (model prog w) A (eval (.ListComp elt gens sc lp) env) (fun v s₁ => ∃ D items ys, v = .ref D ∧ s₁.heap.IsList D items ∧ Paired IsS items.toList ys ∧ (∀ y ∈ ys, y.length ≤ 1000) ∧ ys.length ≤ 1000 ∧
      ∀ t' k, Q (.str (cat ys) t') { s₁ with toks := k }) E { s with toks := t }) :
    wpAny (model prog w) A (eval (.Call (.Attribute (.Constant (.str (Str.ofString "")) k p) (Str.ofString "join") apos) [.ListComp elt gens sc lp] [] pos) env) Q E s := by
  refine Call_method1 rfl rfl hline (Calls.Constant_str ?_)
  refine SB.join (wpAny_mono (h _) (fun v s₁ h₁ => ?_) fun _ _ e => e)
  obtain ⟨D, items, ys, rfl, hl, hp, hB, hn, hq⟩ := h₁
  obtain ⟨l, hv, ht⟩ := strsAre_values (strsAre_of hp)
  refine ⟨D, l, rfl, by rw [← hv]; exact hl, ys, ht, joinOk_of ?_, fun t' k => by rw [join_empty]; exact hq t' k⟩
  have h1 := StrLaws.sumLen_le ys hB
  have h2 : (Str.ofString "").length = 0 := by decide
  have h3 : ys.length * 1000 ≤ 1000 * 1000 := Nat.mul_le_mul_right _ hn
  rw [h2]; omega
theorem call_upper {x : Str} {p apos pos : Pos} {Q : Value → Shared → Prop} (hline : (apos.endLine == pos.line) = true)
    (h : wpAny (model prog w) A (eval (.Name x p) env) (fun v s₁ => ∃ a t, v = .str a t ∧ a.length ≤ 1000000 ∧ ∀ t' k, Q (.str (Txt.upper a) t') { s₁ with toks := k }) E s) :
    wpAny (model prog w) A (eval (.Call (.Attribute (.Name x p) (Str.ofString "upper") apos) [] [] pos) env) Q E s := by
  refine Call_method0 rfl hline (wpAny_mono h (fun v s₁ h₁ => ?_) fun _ _ e => e)
  obtain ⟨a, t, rfl, hl, hq⟩ := h₁
  exact SBL.upper (by omega) fun _ => hq _ _
theorem call_lower {x : Str} {p apos pos : Pos} {Q : Value → Shared → Prop} (hline : (apos.endLine == pos.line) = true)
    (h : wpAny (model prog w) A (eval (.Name x p) env) (fun v s₁ => ∃ a t, v = .str a t ∧ a.length ≤ 1000000 ∧ ∀ t' k, Q (.str (Txt.lower a) t') { s₁ with toks := k }) E s) :
    wpAny (model prog w) A (eval (.Call (.Attribute (.Name x p) (Str.ofString "lower") apos) [] [] pos) env) Q E s := by
  refine Call_method0 rfl hline (wpAny_mono h (fun v s₁ h₁ => ?_) fun _ _ e => e)
  obtain ⟨a, t, rfl, hl, hq⟩ := h₁
  exact SBL.lower (by omega) fun _ => hq _ _
theorem call_isupper {x : Str} {p apos pos : Pos} {Q : Value → Shared → Prop} (hline : (apos.endLine == pos.line) = true)
    (h : wpAny (model prog w) A (eval (.Name x p) env) (fun v s₁ => ∃ a t, v = .str a t ∧ Q (.bool (Txt.isupper a)) s₁) E s) :
    wpAny (model prog w) A (eval (.Call (.Attribute (.Name x p) (Str.ofString "isupper") apos) [] [] pos) env) Q E s := by
  refine Call_method0 rfl hline (wpAny_mono h (fun v s₁ h₁ => ?_) fun _ _ e => e)
  obtain ⟨a, t, rfl, hq⟩ := h₁
  exact SB.isupper hq
/-- the same upon a cut or an item -/
theorem call_upperX {v i : Expr} {sp apos pos : Pos} {Q : Value → Shared → Prop} (hline : (apos.endLine == pos.line) = true)
    (h : wpAny (model prog w) A (eval (.Subscript v i sp) env) (fun v s₁ => ∃ a t, v = .str a t ∧ a.length ≤ 1000000 ∧ ∀ t' k, Q (.str (Txt.upper a) t') { s₁ with toks := k }) E s) :
    wpAny (model prog w) A (eval (.Call (.Attribute (.Subscript v i sp) (Str.ofString "upper") apos) [] [] pos) env) Q E s := by
  refine Call_method0 rfl hline (wpAny_mono h (fun v s₁ h₁ => ?_) fun _ _ e => e)
  obtain ⟨a, t, rfl, hl, hq⟩ := h₁
  exact SBL.upper (by omega) fun _ => hq _ _
theorem call_lowerX {v i : Expr} {sp apos pos : Pos} {Q : Value → Shared → Prop} (hline : (apos.endLine == pos.line) = true)
    (h : wpAny (model prog w) A (eval (.Subscript v i sp) env) (fun v s₁ => ∃ a t, v = .str a t ∧ a.length ≤ 1000000 ∧ ∀ t' k, Q (.str (Txt.lower a) t') { s₁ with toks := k }) E s) :
    wpAny (model prog w) A (eval (.Call (.Attribute (.Subscript v i sp) (Str.ofString "lower") apos) [] [] pos) env) Q E s := by
  refine Call_method0 rfl hline (wpAny_mono h (fun v s₁ h₁ => ?_) fun _ _ e => e)
  obtain ⟨a, t, rfl, hl, hq⟩ := h₁
  exact SBL.lower (by omega) fun _ => hq _ _
theorem call_isupperX {v i : Expr} {sp apos pos : Pos} {Q : Value → Shared → Prop} (hline : (apos.endLine == pos.line) = true)
    (h : wpAny (model prog w) A (eval (.Subscript v i sp) env) (fun v s₁ => ∃ a t, v = .str a t ∧ Q (.bool (Txt.isupper a)) s₁) E s) :
    wpAny (model prog w) A (eval (.Call (.Attribute (.Subscript v i sp) (Str.ofString "isupper") apos) [] [] pos) env) Q E s := by
  refine Call_method0 rfl hline (wpAny_mono h (fun v s₁ h₁ => ?_) fun _ _ e => e)
  obtain ⟨a, t, rfl, hq⟩ := h₁
  exact SB.isupper hq

theorem isTrue_call {f : Expr} {args : List Expr} {kw : List Keyword} {pos : Pos} {Q : Bool → Shared → Prop} (h : wpAny (model prog w) A (eval (.Call f args kw pos) env) (fun v s₁ => ∃ b, v = .bool b ∧ Q b s₁) E s) :
    wpAny (model prog w) A (isTrue (.Call f args kw pos) env (eval (.Call f args kw pos) env)) Q E s := by
  refine wpAny_isTrue_value (wpAny_mono h (fun v s₁ h₁ => ?_) fun _ _ e => e) rfl
  obtain ⟨b, rfl, hq⟩ := h₁
  exact wpAny_truthy_bool hq
end
end Mine
end

section
open PySem.Calls
set_option maxRecDepth 100000
namespace Mine
section
variable {prog : Program} {w : World} {A : Around} {E : Value → Shared → Prop} {s : Shared} {env : Env}

theorem wp_false {α : Type} {M : Model} {t : Sem α} {Q : α → Shared → Prop} (h : wpAny M A t Q (fun _ _ => False) s) : wpAny M A t Q E s := wpAny_mono h (fun _ _ x => x) fun _ _ x => x.elim

/-- a for with a tuple of names over a list -/
theorem for_list_tup {elts : List Expr} {tk₀ : Nat} {tp pos : Pos} {iter : Expr} {body : List Stmt} {Q : Flow → Shared → Prop} (hh : A.handled = none)
    (h : wpAny (model prog w) A (eval iter env) (fun xv s₁ => ∃ l items, ∃ Inv : Nat → Heap → Prop, xv = .ref l ∧ Inv 0 s₁.heap ∧ (∀ i h, Inv i h → h.IsList l items) ∧ (∀ (i : Nat) v, items[i]? = some v → ∃ T, v = .ref T) ∧
      (∀ i h h', Inv i h → (∀ b o, b ≠ s₁.heap.objs.size → h.get? b = some o → h'.get? b = some o) → Inv i h') ∧
      (∀ i v h tk, items[i]? = some v → Inv i h → (∃ o, h.get? s₁.heap.objs.size = some o) → wpAny (model prog w) A (assign (.Tuple elts tk₀ tp) env v) (fun _ s₂ => wpAny (model prog w) A (execs body env)
        (fun f s₃ => (f = .next ∨ f = .cont) ∧ ∃ h' tk', s₃ = { s₁ with heap := h', toks := tk' } ∧ Inv (i + 1) h' ∧ (∀ o, h.get? s₁.heap.objs.size = some o → h'.get? s₁.heap.objs.size = some o)) (fun _ _ => False) s₂) (fun _ _ => False) { s₁ with heap := h, toks := tk }) ∧
      (∀ h tk, Inv items.size h → Q .next { s₁ with heap := h, toks := tk })) E s)
    (hs : ∀ x, foldedSetIterable iter env x = pure x := by intro _; rfl) :
    wpAny (model prog w) A (exec (.For (.Tuple elts tk₀ tp) iter body [] pos) env) Q E s := by
  refine wpAny_For (wpAny_mono h (fun xv s₁ h₁ => ?_) fun _ _ e => e) hs
  obtain ⟨l, items, Inv, rfl, h0, hL, hT, hst, turn, hend⟩ := h₁
  have hl := hL _ _ h0
  have hlt : l < s₁.heap.objs.size := by obtain ⟨_, e, _⟩ := hl; exact Heap.lt_size e
  refine wpAny_pyIter_list hl ?_
  refine codeAny_forLoop_any (fun k s' => ∃ i h tk, s' = { s₁ with heap := h, toks := tk } ∧ i ≤ items.size ∧ k = items.size + 1 - i ∧ Inv i h ∧ h.IsListIter s₁.heap.objs.size l i) ?_ (items.size + 1)
    ⟨0, _, s₁.toks, rfl, Nat.zero_le _, rfl, hst _ _ _ h0 fun b o _ e => Heap.get?_push_of_some _ e, ⟨_, Heap.get?_push_size _ rfl, rfl, rfl⟩⟩
  rintro k s' ⟨i, h, tk, rfl, hi, rfl, hI, hit⟩
  cases hv : items[i]? with
  | none =>
    have hle : items.size ≤ i := by simpa using hv
    obtain rfl : i = items.size := Nat.le_antisymm hi hle
    refine wpAny_pyNext_list_end hh hit (hL _ _ hI) hv fun h₁ he₁ => wpAny_execs_nil ?_
    exact hend h₁ tk (hst _ _ _ hI fun b o hb e => he₁ b o hb e)
  | some v =>
    have hlt' : i < items.size := (Array.getElem?_eq_some_iff.mp hv).1
    refine wpAny_pyNext_list_item hit (hL _ _ hI) hv fun h₁ hit₁ hs₁ => ?_
    obtain ⟨T, rfl⟩ := hT i v hv
    refine wpAny_letOwnedTupleGo_listiter (s := { s₁ with heap := h₁, toks := tk }) hit₁ ?_
    have hI₁ : Inv i h₁ := hst _ _ _ hI fun b o hb e => hs₁.extBut b o hb e
    refine wp_false (wpAny_mono (turn i _ h₁ tk hv hI₁ (by obtain ⟨o, ho, _⟩ := hit₁; exact ⟨o, ho⟩)) (fun _ s₂ h₂ => ?_) fun _ _ e => e)
    refine wp_false (wpAny_mono h₂ (fun f s₃ h₃ => ?_) fun _ _ e => e)
    obtain ⟨hf, h', tk', rfl, hI', hkI⟩ := h₃
    have : ∃ m, m < items.size + 1 - i ∧ ∃ j h tk, ({ s₁ with heap := h', toks := tk' } : Shared) = { s₁ with heap := h, toks := tk } ∧ j ≤ items.size ∧ m = items.size + 1 - j ∧ Inv j h ∧ h.IsListIter s₁.heap.objs.size l j :=
      ⟨items.size + 1 - (i + 1), by omega, i + 1, h', tk', rfl, hlt', rfl, hI', hit₁.at hkI⟩
    rcases hf with rfl | rfl <;> exact this

/-- a for with two names over a zip of two texts -/
theorem for_zip {x x₂ : Str} {px px₂ tp pos : Pos} {tk₀ : Nat} {iter : Expr} {body : List Stmt} {Q : Flow → Shared → Prop} {a b : Str} (hh : A.handled = none)
    (h : wpAny (model prog w) A (eval iter env) (fun xv s₁ => ∃ (n : Nat) (ta tb : Tok), ∃ Inv : Nat → Heap → Prop, xv = .ref (n + 4) ∧ IsZip s₁.heap (n + 4) (n + 2) (n + 3) .none ∧ IsPair s₁.heap (n + 2) (.ref n) (.ref (n + 1)) ∧
      IsPair s₁.heap (n + 3) .none .none ∧ s₁.heap.IsStrIter n (itKind a) a ta 0 ∧ s₁.heap.IsStrIter (n + 1) (itKind b) b tb 0 ∧ Inv 0 s₁.heap ∧
      (∀ i h h', Inv i h → (∀ (b : Nat) o, (b < n ∨ n + 5 ≤ b) → h.get? b = some o → h'.get? b = some o) → Inv i h') ∧
      (∀ i c d t u T h tk, a.cps.toList[i]? = some c → b.cps.toList[i]? = some d → Inv i h → h.IsTuple T #[.str ⟨#[c]⟩ t, .str ⟨#[d]⟩ u] → wpAny (model prog w) A (assign (.Tuple [.Name x px, .Name x₂ px₂] tk₀ tp) env (.ref T)) (fun _ s₂ => wpAny (model prog w) A (execs body env)
        (fun f s₃ => (f = .next ∨ f = .cont) ∧ ∃ h' tk', s₃ = { s₁ with heap := h', toks := tk' } ∧ Inv (i + 1) h' ∧ (∀ (b : Nat) o, n ≤ b → b < n + 5 → h.get? b = some o → h'.get? b = some o)) (fun _ _ => False) s₂) (fun _ _ => False) { s₁ with heap := h, toks := tk }) ∧
      (∀ h tk, Inv (min a.cps.size b.cps.size) h → Q .next { s₁ with heap := h, toks := tk })) E s)
    (hs : ∀ x, foldedSetIterable iter env x = pure x := by intro _; rfl) :
    wpAny (model prog w) A (exec (.For (.Tuple [.Name x px, .Name x₂ px₂] tk₀ tp) iter body [] pos) env) Q E s := by
  refine wpAny_For (wpAny_mono h (fun xv s₁ h₁ => ?_) fun _ _ e => e) hs
  obtain ⟨n, ta, tb, Inv, rfl, hz, hTI, hTO, hi1, hi2, h0, hst, turn, hend⟩ := h₁
  refine wpAny_pyIter_zip hz ?_
  have hA : A.in1.handled = none := hh
  have W := zipd_walks (prog := prog) (w := w) (A := A) (zApart_new (n := n)) (draws_str hA n a ta) (draws_str hA (n + 1) b tb)
  have hs0 : IsZip s₁.heap (n + 4) (n + 2) (n + 3) .none ∧ IsPair s₁.heap (n + 2) (.ref n) (.ref (n + 1)) ∧ (∃ a b, IsPair s₁.heap (n + 3) a b) ∧ s₁.heap.IsStrIter n (itKind a) a ta 0 ∧ s₁.heap.IsStrIter (n + 1) (itKind b) b tb 0 :=
    ⟨hz, hTI, ⟨_, _, hTO⟩, hi1, hi2⟩
  generalize hN : min a.cps.size b.cps.size = N at W hend
  generalize hSt : (fun (i : Nat) (h : Heap) => IsZip h (n + 4) (n + 2) (n + 3) .none ∧ IsPair h (n + 2) (.ref n) (.ref (n + 1)) ∧ (∃ a b, IsPair h (n + 3) a b) ∧ h.IsStrIter n (itKind a) a ta i ∧ h.IsStrIter (n + 1) (itKind b) b tb i) = St at W
  replace hs0 : St 0 s₁.heap := by rw [← hSt]; exact hs0
  have hwr : ∀ (c : Nat), (c < n ∨ n + 5 ≤ c) → c ∉ [n + 4, n + 3, n, n + 1] := fun c hc hm => by simp at hm; omega
  refine codeAny_forLoop_any (fun k s' => ∃ i h tk, s' = { s₁ with heap := h, toks := tk } ∧ i ≤ N ∧ k = N + 1 - i ∧ Inv i h ∧ St i h) ?_ (N + 1)
    ⟨0, s₁.heap, s₁.toks, rfl, Nat.zero_le _, rfl, h0, hs0⟩
  rintro k s' ⟨i, h, tk, rfl, hi, rfl, hI, hS⟩
  by_cases hlt : i < N
  · refine W.item i _ _ _ hlt hS fun T vals h₂ tk₂ hv _ hT hm hk₂ => ?_
    obtain ⟨v, u, ⟨c, tc, hc, rfl⟩, ⟨d, td, hd, rfl⟩, rfl⟩ := hv
    have hTw := W.apart _ _ _ hm
    refine W.go _ _ _ i T _ _ _ hm fun h₃ hS₃ hk₃ => ?_
    have hI₃ : Inv i h₃ := hst _ _ _ hI fun b o hb e => hk₃ _ _ (hwr b hb) (hk₂ _ _ (hwr b hb) e)
    have hT₃ : h₃.IsTuple T #[.str ⟨#[c]⟩ tc, .str ⟨#[d]⟩ td] := by obtain ⟨o, ho, r⟩ := hT; exact ⟨o, hk₃ _ _ hTw ho, r⟩
    refine wp_false (wpAny_mono (turn i c d tc td T h₃ tk₂ (by simpa using hc) (by simpa using hd) hI₃ hT₃) (fun _ s₂ h₂ => ?_) fun _ _ e => e)
    refine wp_false (wpAny_mono h₂ (fun f s₃ h₃ => ?_) fun _ _ e => e)
    obtain ⟨hf, h', tk', rfl, hI', hkI⟩ := h₃
    have hS' : St (i + 1) h' := W.frame _ _ _ hS₃ fun b hb o e => by
      have : n ≤ b ∧ @LT.lt Nat _ b (n + 5) := by simp at hb; rcases hb with rfl | rfl | rfl | rfl | rfl <;> exact ⟨by omega, by omega⟩
      exact hkI b o this.1 this.2 e
    have : ∃ m, m < N + 1 - i ∧ ∃ j h tk, ({ s₁ with heap := h', toks := tk' } : Shared) = { s₁ with heap := h, toks := tk } ∧ j ≤ N ∧ m = N + 1 - j ∧ Inv j h ∧ St j h :=
      ⟨N + 1 - (i + 1), by omega, i + 1, h', tk', rfl, hlt, rfl, hI', hS'⟩
    rcases hf with rfl | rfl <;> exact this
  · obtain rfl : i = N := Nat.le_antisymm hi (Nat.not_lt.mp hlt)
    refine W.done _ _ _ hS fun h₂ tk₂ hk₂ => wpAny_execs_nil ?_
    exact hend h₂ tk₂ (hst _ _ _ hI fun b o hb e => hk₂ _ _ (hwr b hb) e)

/-- a for with one name over a range of a step -/
theorem for_range {x : Str} {px pos : Pos} {iter : Expr} {body : List Stmt} {Q : Flow → Shared → Prop} {a c : Int} {n : Nat} (hh : A.handled = none)
    (h : wpAny (model prog w) A (eval iter env) (fun xv s₁ => ∃ r b t u v, ∃ Inv : Nat → Heap → Prop, xv = .ref r ∧ IsRange s₁.heap r a b c t u v ∧ Builtin.Range.small a b c = true ∧ Builtin.Range.rangeSize a b c = (n : Nat) ∧ Inv 0 s₁.heap ∧
      (∀ i h h', Inv i h → (∀ b o, b ≠ s₁.heap.objs.size → h.get? b = some o → h'.get? b = some o) → Inv i h') ∧
      (∀ i t h tk, i < n → Inv i h → (∃ o, h.get? s₁.heap.objs.size = some o) → wpAny (model prog w) A (assign (.Name x px) env (.int (a + (i : Nat) * c) t)) (fun _ s₂ => wpAny (model prog w) A (execs body env)
        (fun f s₃ => (f = .next ∨ f = .cont) ∧ ∃ h' tk', s₃ = { s₁ with heap := h', toks := tk' } ∧ Inv (i + 1) h' ∧ (∀ o, h.get? s₁.heap.objs.size = some o → h'.get? s₁.heap.objs.size = some o)) (fun _ _ => False) s₂) (fun _ _ => False) { s₁ with heap := h, toks := tk }) ∧
      (∀ h tk, Inv n h → Q .next { s₁ with heap := h, toks := tk })) E s)
    (hs : ∀ x, foldedSetIterable iter env x = pure x := by intro _; rfl) :
    wpAny (model prog w) A (exec (.For (.Name x px) iter body [] pos) env) Q E s := by
  refine wpAny_For (wpAny_mono h (fun xv s₁ h₁ => ?_) fun _ _ e => e) hs
  obtain ⟨r, b, t, u, v, Inv, rfl, hr, hsm, hn, h0, hst, turn, hend⟩ := h₁
  refine wpAny_pyIter_range hr hsm ?_
  rw [hn]
  have W := Walks.range (prog := prog) (w := w) hh s₁.heap.objs.size a c n
  refine codeAny_forLoop_any (fun k s' => ∃ i h tk, s' = { s₁ with heap := h, toks := tk } ∧ i ≤ n ∧ k = n + 1 - i ∧ Inv i h ∧ IsRangeIter h s₁.heap.objs.size (a + (i : Nat) * c) ((n : Int) - (i : Nat)) c) ?_ (n + 1)
    ⟨0, _, s₁.toks, rfl, Nat.zero_le _, rfl, hst _ _ _ h0 fun b o _ e => Heap.get?_push_of_some _ e, by simpa using Heap.get?_push_size s₁.heap (o := { cls := .type "range_iterator", data := .fields #[rawInt a, rawInt (n : Nat), rawInt c] }) rfl⟩
  rintro k s' ⟨i, h, tk, rfl, hi, rfl, hI, hit⟩
  by_cases hlt : i < n
  · refine W.item i _ _ _ hlt hit fun v h₁ tk₁ hv hit₁ hk₁ => ?_
    obtain ⟨t', rfl⟩ := hv
    have hI₁ : Inv i h₁ := hst _ _ _ hI fun b o hb e => hk₁ b o (by simpa using hb) e
    refine wpAny_pure (a := ()) ?_
    refine wp_false (wpAny_mono (turn i t' h₁ tk₁ hlt hI₁ ⟨_, hit₁⟩) (fun _ s₂ h₂ => ?_) fun _ _ e => e)
    refine wp_false (wpAny_mono h₂ (fun f s₃ h₃ => ?_) fun _ _ e => e)
    obtain ⟨hf, h', tk', rfl, hI', hkI⟩ := h₃
    have : ∃ m, m < n + 1 - i ∧ ∃ j h tk, ({ s₁ with heap := h', toks := tk' } : Shared) = { s₁ with heap := h, toks := tk } ∧ j ≤ n ∧ m = n + 1 - j ∧ Inv j h ∧ IsRangeIter h s₁.heap.objs.size (a + (j : Nat) * c) ((n : Int) - (j : Nat)) c :=
      ⟨n + 1 - (i + 1), by omega, i + 1, h', tk', rfl, hlt, rfl, hI', hkI _ hit₁⟩
    rcases hf with rfl | rfl <;> exact this
  · obtain rfl : i = n := Nat.le_antisymm hi (Nat.not_lt.mp hlt)
    refine W.done _ _ _ hit fun h₁ tk₁ hk₁ => wpAny_execs_nil ?_
    exact hend h₁ tk₁ (hst _ _ _ hI fun b o hb e => hk₁ b o (by simpa using hb) e)
end
end Mine
end

section
open PySem.Calls
set_option maxRecDepth 100000
namespace Mine
/-- x[i:j], the bounds in x -/
def sub (x : Str) (i j : Nat) : Str := ⟨((x.cps.toList.drop i).take (j - i)).toArray⟩
theorem app_nil (x : Str) : x ++ (⟨#[]⟩ : Str) = x := by
  apply Str.ext'
  show x.cps ++ #[] = x.cps
  simp
theorem nil_app (x : Str) : (⟨#[]⟩ : Str) ++ x = x := by
  apply Str.ext'
  show #[] ++ x.cps = x.cps
  simp
theorem app_assoc (x y z : Str) : x ++ y ++ z = x ++ (y ++ z) := by
  apply Str.ext'
  show x.cps ++ y.cps ++ z.cps = x.cps ++ (y.cps ++ z.cps)
  simp
theorem is_blank (c : Nat) : (⟨#[c]⟩ : Str) = Str.ofString " " ↔ c = 32 := by
  have e : Str.ofString " " = ⟨#[32]⟩ := by decide
  rw [e]
  constructor
  · intro h
    have := congrArg (fun x : Str => x.cps.toList) h
    simpa using this
  · rintro rfl; rfl
theorem cat_one (x : Str) : cat [x] = x := by rw [cat_cons, cat_nil, app_nil]
theorem len_sub (x : Str) {i j : Nat} (h : j ≤ x.length) : (sub x i j).length = j - i := by
  show (((x.cps.toList.drop i).take (j - i)).toArray).size = _
  have : x.cps.toList.length = x.length := by simp [Str.length]
  rw [List.size_toArray, List.length_take, List.length_drop, this]
  omega
section
variable {prog : Program} {w : World} {A : Around} {E : Value → Shared → Prop} {s : Shared} {env : Env}
theorem sub_any {value slice : Expr} {o i : Value} {ops : List Value} {Q : Value → Shared → Prop} (h : ItemOn (model prog w) A E o i Q s) (hs : subscripted slice false o i = operate ops (getItem o i)) :
    wpAny (model prog w) A (subscriptTail value slice o i) Q E s := by
  obtain ⟨T, id, hl, hT, hg⟩ := h
  exact kba_turn (value' := Expr.Name (Str.ofString "_") ⟨0, 0, 0, 0⟩) (fun _ => rfl) (subscriptTail_ops hT hl hg hs fun _ => rfl)

theorem cut_ss {value : Expr} {lo up : Option Expr} {p : Pos} {x : Str} {t ti tj : Tok} {i j : Int} {Q : Value → Shared → Prop} (hi : 0 ≤ i) (hij : i ≤ j) (hj : j ≤ x.length) (hx : x.length ≤ 1000000)
    (h : ∀ h' t' k, (∀ b o, s.heap.get? b = some o → h'.get? b = some o) → Q (.str (sub x i.toNat j.toNat) t') { s with heap := h', toks := k }) :
    wpAny (model prog w) A (subscriptTail value (.Slice lo up none p) (.str x t) (.ref s.heap.objs.size)) Q E { s with heap := s.heap.push { cls := .type "slice", data := .fields #[.int i ti, .int j tj, .none] } } := by
  refine sub_any (ops := [.ref s.heap.objs.size, .str x t]) ⟨"str", _, F.slot_str_getitem.lookup, typeIs_str _ _ _, wpAny_getItem_str_slice (l := some (i, ti)) (u := some (j, tj)) (st := none) ⟨_, Heap.get?_push_size _ rfl, rfl, rfl⟩ rfl
    (post_val_or_str ⟨Nat.le_trans (Txt.slice_le x _ _) (Nat.le_trans hx (by decide)), fun t' k => ?_⟩)⟩ rfl
  have e : Txt.slice x (some i) (some j) = sub x i.toNat j.toNat := by
    have := beq_iff_eq.mp (slice_closesL hi hij hj)
    rw [this]; unfold sub; congr 3; omega
  have := h (s.heap.push { cls := .type "slice", data := .fields #[.int i ti, .int j tj, .none] }) t' k fun b o e => Heap.get?_push_of_some _ e
  rw [← e] at this
  exact this
theorem cut_sn {value : Expr} {lo up : Option Expr} {p : Pos} {x : Str} {t ti : Tok} {i : Int} {Q : Value → Shared → Prop} (hi : 0 ≤ i) (hij : i ≤ x.length) (hx : x.length ≤ 1000000)
    (h : ∀ h' t' k, (∀ b o, s.heap.get? b = some o → h'.get? b = some o) → Q (.str (sub x i.toNat x.length) t') { s with heap := h', toks := k }) :
    wpAny (model prog w) A (subscriptTail value (.Slice lo up none p) (.str x t) (.ref s.heap.objs.size)) Q E { s with heap := s.heap.push { cls := .type "slice", data := .fields #[.int i ti, .none, .none] } } := by
  refine sub_any (ops := [.ref s.heap.objs.size, .str x t]) ⟨"str", _, F.slot_str_getitem.lookup, typeIs_str _ _ _, wpAny_getItem_str_slice (l := some (i, ti)) (u := none) (st := none) ⟨_, Heap.get?_push_size _ rfl, rfl, rfl⟩ rfl
    (post_val_or_str ⟨Nat.le_trans (Txt.slice_le x _ _) (Nat.le_trans hx (by decide)), fun t' k => ?_⟩)⟩ rfl
  have e : Txt.slice x (some i) none = sub x i.toNat x.length := by
    rw [slice_from_eq hi hij rfl]; unfold sub; congr 3; omega
  have := h (s.heap.push { cls := .type "slice", data := .fields #[.int i ti, .none, .none] }) t' k fun b o e => Heap.get?_push_of_some _ e
  rw [← e] at this
  exact this
theorem cut_ns {value : Expr} {lo up : Option Expr} {p : Pos} {x : Str} {t tj : Tok} {j : Int} {Q : Value → Shared → Prop} (hj0 : 0 ≤ j) (hj : j ≤ x.length) (hx : x.length ≤ 1000000)
    (h : ∀ h' t' k, (∀ b o, s.heap.get? b = some o → h'.get? b = some o) → Q (.str (sub x 0 j.toNat) t') { s with heap := h', toks := k }) :
    wpAny (model prog w) A (subscriptTail value (.Slice lo up none p) (.str x t) (.ref s.heap.objs.size)) Q E { s with heap := s.heap.push { cls := .type "slice", data := .fields #[.none, .int j tj, .none] } } := by
  refine sub_any (ops := [.ref s.heap.objs.size, .str x t]) ⟨"str", _, F.slot_str_getitem.lookup, typeIs_str _ _ _, wpAny_getItem_str_slice (l := none) (u := some (j, tj)) (st := none) ⟨_, Heap.get?_push_size _ rfl, rfl, rfl⟩ rfl
    (post_val_or_str ⟨Nat.le_trans (Txt.slice_le x _ _) (Nat.le_trans hx (by decide)), fun t' k => ?_⟩)⟩ rfl
  have e : Txt.slice x none (some j) = sub x 0 j.toNat := by
    have := beq_iff_eq.mp (slice_closes_toL hj0 hj)
    rw [this]; unfold sub; congr 3; omega
  have := h (s.heap.push { cls := .type "slice", data := .fields #[.none, .int j tj, .none] }) t' k fun b o e => Heap.get?_push_of_some _ e
  rw [← e] at this
  exact this
theorem seqIdx_last {n : Nat} (h : 0 < n) : seqIndex? (-1) n = some (n - 1) := by
  have e : seqIndex? (-1) n = if (decide (0 ≤ (-1 : Int) + n) && decide ((-1 : Int) + n < n)) = true then some ((-1 : Int) + n).toNat else none := rfl
  rw [e, if_pos (by simp; omega)]
  congr 1; omega
/-- one sign of a text -/
theorem item_s {value slice : Expr} {x : Str} {t u : Tok} {i : Int} {c : Nat} {Q : Value → Shared → Prop} (hi : 0 ≤ i) (hl : x.length ≤ 1000000) (hc : x.cps.toList[i.toNat]? = some c)
    (hs : subscripted slice false (.str x t) (.int i u) = operate [.str x t, .int i u] (getItem (.str x t) (.int i u)))
    (h : ∀ t' k, Q (.str ⟨#[c]⟩ t') { s with toks := k }) : wpAny (model prog w) A (subscriptTail value slice (.str x t) (.int i u)) Q E s := by
  have hlt : i.toNat < x.length := by
    have := (List.getElem?_eq_some_iff.mp hc).1
    simpa [Str.length] using this
  refine sub_any (ops := [.str x t, .int i u]) ⟨"str", _, F.slot_str_getitem.lookup, typeIs_str _ _ _, P.getItem_str (c := c) ?_ ?_ (h _ _)⟩ hs
  · simp; omega
  · rw [seqIndex_of hi (by omega)]
    simpa using hc
/-- the last sign of a text -/
theorem item_s1 {value slice : Expr} {x : Str} {t u : Tok} {c : Nat} {Q : Value → Shared → Prop} (hl : x.length ≤ 1000000) (hc : x.cps.toList[x.length - 1]? = some c)
    (hs : subscripted slice false (.str x t) (.int (-1) u) = operate [.str x t, .int (-1) u] (getItem (.str x t) (.int (-1) u)))
    (h : ∀ t' k, Q (.str ⟨#[c]⟩ t') { s with toks := k }) : wpAny (model prog w) A (subscriptTail value slice (.str x t) (.int (-1) u)) Q E s := by
  have hlt : x.length - 1 < x.length := by
    have := (List.getElem?_eq_some_iff.mp hc).1
    simpa [Str.length] using this
  refine sub_any (ops := [.str x t, .int (-1) u]) ⟨"str", _, F.slot_str_getitem.lookup, typeIs_str _ _ _, P.getItem_str (c := c) (by decide) ?_ (h _ _)⟩ hs
  rw [seqIdx_last (by omega)]
  simpa using hc
theorem truthy_s {x : Str} {t : Tok} {Q : Bool → Shared → Prop} (hx : x.length ≤ 1000000) (h : ∀ k, Q (decide (0 < x.length)) { s with toks := k }) : wpAny (model prog w) A (truthy (.str x t)) Q E s := by
  refine P.truthy_str (by omega) ?_
  have e : ((x.length : Int) != 0) = decide (0 < x.length) := by
    by_cases h0 : x.length = 0
    · rw [h0]; rfl
    · rw [decide_eq_true (by omega)]
      exact bne_iff_ne.mpr (by omega)
  rw [e]; exact h _
/-- a store into a local name -/
theorem st_any {M : Model} {x : Str} {v : Value} {h₀ : Heap} {L : Nat} {m : Str → Option Value} {Q : Unit → Shared → Prop} (F : Fr h₀ L s.heap m) (hL : env.locals = L) (hl : env.kindOf x = some .local)
    (hp : (env.scope.kind == .class || (env.scope.kind == .module && env.locals != env.globals)) = false)
    (h : ∀ h' k, Fr h₀ L h' (fun y => if y = x then some v else m y) → Heap.SameBut L s.heap h' → Q () { s with heap := h', toks := k }) : wpAny M A (storeName env x v) Q E s := by
  subst hL
  exact wpAny_storeName_local hl F.ns (fun h' hn hs => h h' _ (F.set hn hs) hs) hp
theorem isTrue_nm {x : Str} {p : Pos} {Q : Bool → Shared → Prop} (h : wpAny (model prog w) A (eval (.Name x p) env) (fun v s₁ => wpAny (model prog w) A (truthy v) Q E s₁) E s) :
    wpAny (model prog w) A (isTrue (.Name x p) env (eval (.Name x p) env)) Q E s := wpAny_isTrue_value h rfl
/-- an item of a list, an item of a tuple -/
theorem item_l {value slice : Expr} {l : Addr} {items : Array Value} {i : Int} {u : Tok} {v : Value} {Q : Value → Shared → Prop} (hl : s.heap.IsList l items) (hi : 0 ≤ i) (hf : i < 2 ^ 63) (hv : items[i.toNat]? = some v)
    (hs : subscripted slice false (.ref l) (.int i u) = operate [.ref l, .int i u] (getItem (.ref l) (.int i u))) (h : Q v s) : wpAny (model prog w) A (subscriptTail value slice (.ref l) (.int i u)) Q E s :=
  sub_any (ops := [.ref l, .int i u]) ⟨"list", _, list_getitem_lookup, hl.typeIs, wpAny_getItem_list hl hi hf hv h⟩ hs
theorem item_l1 {value slice : Expr} {l : Addr} {items : Array Value} {u : Tok} {v : Value} {Q : Value → Shared → Prop} (hl : s.heap.IsList l items) (hv : items[items.size - 1]? = some v)
    (hs : subscripted slice false (.ref l) (.int (-1) u) = operate [.ref l, .int (-1) u] (getItem (.ref l) (.int (-1) u))) (h : Q v s) : wpAny (model prog w) A (subscriptTail value slice (.ref l) (.int (-1) u)) Q E s := by
  have hlt : items.size - 1 < items.size := (Array.getElem?_eq_some_iff.mp hv).1
  exact sub_any (ops := [.ref l, .int (-1) u]) ⟨"list", _, list_getitem_lookup, hl.typeIs, wpAny_getItem_list_neg hl (by decide) (by omega) (by decide) (by rw [show ((-1 : Int) + items.size).toNat = items.size - 1 by omega]; exact hv) h⟩ hs
theorem item_t {value slice : Expr} {l : Addr} {items : Array Value} {i : Int} {u : Tok} {v : Value} {Q : Value → Shared → Prop} (hl : IsTup s.heap l items) (hi : 0 ≤ i) (hf : i < 2 ^ 63) (hv : items[i.toNat]? = some v)
    (hs : subscripted slice false (.ref l) (.int i u) = operate [.ref l, .int i u] (getItem (.ref l) (.int i u))) (h : Q v s) : wpAny (model prog w) A (subscriptTail value slice (.ref l) (.int i u)) Q E s := by
  have hlt : i.toNat < items.size := (Array.getElem?_eq_some_iff.mp hv).1
  exact sub_any (ops := [.ref l, .int i u]) ⟨"tuple", _, slot_tuple_getitem.lookup, hl.typeIs, getItem_tuple hl (by omega) hf (seqIndex_of hi (by omega)) hv h⟩ hs
/-- a cut of a list -/
theorem cut_l {value : Expr} {lo up : Option Expr} {p : Pos} {l : Addr} {items : Array Value} {vl vu : Value} {a b : Option Int} {Q : Value → Shared → Prop} (hl : s.heap.IsList l items) (pl : IsPart vl a) (pu : IsPart vu b) (hsz : items.size ≤ 1000000)
    (h : ∀ D h', s.heap.get? D = none → h'.PlainList D (slicePick items a b none) → (∀ b o, s.heap.get? b = some o → h'.get? b = some o) → Q (.ref D) { s with heap := h' }) :
    wpAny (model prog w) A (subscriptTail value (.Slice lo up none p) (.ref l) (.ref s.heap.objs.size)) Q E { s with heap := s.heap.push { cls := .type "slice", data := .fields #[vl, vu, .none] } } := by
  refine sub_any (ops := [.ref s.heap.objs.size, .ref l]) ⟨"list", _, list_getitem_lookup, Heap.IsList.typeIs (s := { s with heap := s.heap.push { cls := .type "slice", data := .fields #[vl, vu, .none] } }) (hl.push _),
    wpAny_getItem_list_slice (hl.push _) (Heap.IsSliceOf.new ..) pl pu .none (by simp) ?_ (Nat.le_trans hsz (by decide))⟩ rfl
  refine h _ _ ?_ ⟨_, Heap.get?_push_size _ rfl⟩ fun b o e => Heap.get?_push_of_some _ (Heap.get?_push_of_some _ e)
  exact Heap.get?_none_of_le (by show _ ≤ (s.heap.push _).objs.size; rw [Heap.size_push]; exact Nat.le_succ _)
end
end Mine
end

section
open PySem.Calls
set_option maxRecDepth 100000
set_option linter.unusedVariables false
namespace Mine
/-! the rules upon a state that is written out, and giving such states back -/
section
variable {prog : Program} {w : World} {A : Around} {E : Value → Shared → Prop} {env : Env} {hp : Heap} {ge : Array GenState} {dr : Drawn} {k₀ : Nat} {os : OsState} {Q : Value → Shared → Prop}

theorem c_int {M : Model} {i : Int} {k : Nat} {pos : Pos} (h : ∀ t k', Q (.int i t) ⟨hp, ge, dr, k', os⟩) : wpAny M A (eval (.Constant (.int i) k pos) env) Q E ⟨hp, ge, dr, k₀, os⟩ := wpAny_Constant_int (h _ _)
theorem c_str {M : Model} {x : Str} {k : Nat} {pos : Pos} (h : ∀ t k', Q (.str x t) ⟨hp, ge, dr, k', os⟩) : wpAny M A (eval (.Constant (.str x) k pos) env) Q E ⟨hp, ge, dr, k₀, os⟩ := Calls.Constant_str (h _ _)
theorem c_add {a b : Int} {t u : Tok} (h : ∀ t k', Q (.int (a + b) t) ⟨hp, ge, dr, k', os⟩) : wpAny (model prog w) A (binaryOp .Add (.int a t) (.int b u)) Q E ⟨hp, ge, dr, k₀, os⟩ := P.add_int (h _ _)
theorem c_sub {a b : Int} {t u : Tok} (h : ∀ t k', Q (.int (a - b) t) ⟨hp, ge, dr, k', os⟩) : wpAny (model prog w) A (binaryOp .Sub (.int a t) (.int b u)) Q E ⟨hp, ge, dr, k₀, os⟩ := P.sub_int (h _ _)
theorem c_neg {a : Int} {t : Tok} (h : ∀ t k', Q (.int (-a) t) ⟨hp, ge, dr, k', os⟩) : wpAny (model prog w) A (unaryOp .USub (.int a t)) Q E ⟨hp, ge, dr, k₀, os⟩ := P.neg_int (h _ _)
theorem c_mod {a b : Int} {t u : Tok} (hb : b ≠ 0) (h : ∀ t k', Q (.int (Int.fmod a b) t) ⟨hp, ge, dr, k', os⟩) : wpAny (model prog w) A (binaryOp .Mod (.int a t) (.int b u)) Q E ⟨hp, ge, dr, k₀, os⟩ := mod_int hb (h _ _)
theorem c_fdiv {a b : Int} {t u : Tok} (hb : b ≠ 0) (hn : Builtin.divisionGoesByPylong a b = false) (h : ∀ t k', Q (.int (Int.fdiv a b) t) ⟨hp, ge, dr, k', os⟩) : wpAny (model prog w) A (binaryOp .FloorDiv (.int a t) (.int b u)) Q E ⟨hp, ge, dr, k₀, os⟩ := floordiv_int hb (h _ _) (.inl hn)
theorem c_slice {M : Model} {lower upper step : Option Expr} {p : Pos} {s : Shared}
    (h : wpAny M A (evalPart lower env) (fun l s₁ => wpAny M A (evalPart upper env) (fun u s₂ => wpAny M A (evalPart step env) (fun st s₃ => ∀ h g d k o, s₃ = ⟨h, g, d, k, o⟩ →
      Q (.ref h.objs.size) ⟨h.push { cls := .type "slice", data := .fields #[l, u, st] }, g, d, k, o⟩) E s₂) E s₁) E s) :
    wpAny M A (eval (.Slice lower upper step p) env) Q E s :=
  wpAny_Slice (wpAny_mono h (fun _ _ h₁ => wpAny_mono h₁ (fun _ _ h₂ => wpAny_mono h₂ (fun _ s₃ h₃ => h₃ _ _ _ _ _ rfl) fun _ _ e => e) fun _ _ e => e) fun _ _ e => e)

theorem c_len {x : Str} {t : Tok} (hx : x.length ≤ 1000000) (h : ∀ t' k, Q (.int x.length t') ⟨hp, ge, dr, k, os⟩) : wpAny (model prog w) A (call (.builtin "len") [.str x t]) Q E ⟨hp, ge, dr, k₀, os⟩ := len_s hx h
theorem c_lenl {l : Addr} {items : Array Value} (hl : hp.IsList l items) (hx : items.size ≤ 1000000) (h : ∀ t' k, Q (.int items.size t') ⟨hp, ge, dr, k, os⟩) : wpAny (model prog w) A (call (.builtin "len") [.ref l]) Q E ⟨hp, ge, dr, k₀, os⟩ := len_l (s := ⟨hp, ge, dr, k₀, os⟩) hl hx h
theorem c_adds {x y : Str} {t u : Tok} (hx : x.length ≤ 1000000) (hy : y.length ≤ 1000000) (h : ∀ t' k, Q (.str (x ++ y) t') ⟨hp, ge, dr, k, os⟩) : wpAny (model prog w) A (binaryOp .Add (.str x t) (.str y u)) Q E ⟨hp, ge, dr, k₀, os⟩ := add_s hx hy h
theorem c_iadds {x y : Str} {t u : Tok} (hx : x.length ≤ 1000000) (hy : y.length ≤ 1000000) (h : ∀ t' k, Q (.str (x ++ y) t') ⟨hp, ge, dr, k, os⟩) : wpAny (model prog w) A (inplaceOp .Add (.str x t) (.str y u)) Q E ⟨hp, ge, dr, k₀, os⟩ := iadd_s hx hy h
theorem c_truthy {x : Str} {t : Tok} {Q : Bool → Shared → Prop} (hx : x.length ≤ 1000000) (h : ∀ k, Q (decide (0 < x.length)) ⟨hp, ge, dr, k, os⟩) : wpAny (model prog w) A (truthy (.str x t)) Q E ⟨hp, ge, dr, k₀, os⟩ := truthy_s hx h
theorem c_cut_ss {value : Expr} {lo up : Option Expr} {p : Pos} {x : Str} {t ti tj : Tok} {i j : Int} (hi : 0 ≤ i) (hij : i ≤ j) (hj : j ≤ x.length) (hx : x.length ≤ 1000000)
    (h : ∀ h' t' k, (∀ b o, hp.get? b = some o → h'.get? b = some o) → Q (.str (sub x i.toNat j.toNat) t') ⟨h', ge, dr, k, os⟩) :
    wpAny (model prog w) A (subscriptTail value (.Slice lo up none p) (.str x t) (.ref hp.objs.size)) Q E ⟨hp.push { cls := .type "slice", data := .fields #[.int i ti, .int j tj, .none] }, ge, dr, k₀, os⟩ :=
  cut_ss (s := ⟨hp, ge, dr, k₀, os⟩) hi hij hj hx h
theorem c_cut_sn {value : Expr} {lo up : Option Expr} {p : Pos} {x : Str} {t ti : Tok} {i : Int} (hi : 0 ≤ i) (hij : i ≤ x.length) (hx : x.length ≤ 1000000)
    (h : ∀ h' t' k, (∀ b o, hp.get? b = some o → h'.get? b = some o) → Q (.str (sub x i.toNat x.length) t') ⟨h', ge, dr, k, os⟩) :
    wpAny (model prog w) A (subscriptTail value (.Slice lo up none p) (.str x t) (.ref hp.objs.size)) Q E ⟨hp.push { cls := .type "slice", data := .fields #[.int i ti, .none, .none] }, ge, dr, k₀, os⟩ :=
  cut_sn (s := ⟨hp, ge, dr, k₀, os⟩) hi hij hx h
theorem c_cut_ns {value : Expr} {lo up : Option Expr} {p : Pos} {x : Str} {t tj : Tok} {j : Int} (hj0 : 0 ≤ j) (hj : j ≤ x.length) (hx : x.length ≤ 1000000)
    (h : ∀ h' t' k, (∀ b o, hp.get? b = some o → h'.get? b = some o) → Q (.str (sub x 0 j.toNat) t') ⟨h', ge, dr, k, os⟩) :
    wpAny (model prog w) A (subscriptTail value (.Slice lo up none p) (.str x t) (.ref hp.objs.size)) Q E ⟨hp.push { cls := .type "slice", data := .fields #[.none, .int j tj, .none] }, ge, dr, k₀, os⟩ :=
  cut_ns (s := ⟨hp, ge, dr, k₀, os⟩) hj0 hj hx h
theorem c_item_s {value slice : Expr} {x : Str} {t u : Tok} {i : Int} {c : Nat} (hi : 0 ≤ i) (hl : x.length ≤ 1000000) (hc : x.cps.toList[i.toNat]? = some c)
    (hs : subscripted slice false (.str x t) (.int i u) = operate [.str x t, .int i u] (getItem (.str x t) (.int i u)))
    (h : ∀ t' k, Q (.str ⟨#[c]⟩ t') ⟨hp, ge, dr, k, os⟩) : wpAny (model prog w) A (subscriptTail value slice (.str x t) (.int i u)) Q E ⟨hp, ge, dr, k₀, os⟩ := item_s hi hl hc hs h
theorem c_item_s1 {value slice : Expr} {x : Str} {t u : Tok} {c : Nat} (hl : x.length ≤ 1000000) (hc : x.cps.toList[x.length - 1]? = some c)
    (hs : subscripted slice false (.str x t) (.int (-1) u) = operate [.str x t, .int (-1) u] (getItem (.str x t) (.int (-1) u)))
    (h : ∀ t' k, Q (.str ⟨#[c]⟩ t') ⟨hp, ge, dr, k, os⟩) : wpAny (model prog w) A (subscriptTail value slice (.str x t) (.int (-1) u)) Q E ⟨hp, ge, dr, k₀, os⟩ := item_s1 hl hc hs h
theorem c_cut_l {value : Expr} {lo up : Option Expr} {p : Pos} {l : Addr} {items : Array Value} {vl vu : Value} {a b : Option Int} (hl : hp.IsList l items) (pl : IsPart vl a) (pu : IsPart vu b) (hsz : items.size ≤ 1000000)
    (h : ∀ D h', hp.get? D = none → h'.PlainList D (slicePick items a b none) → (∀ b o, hp.get? b = some o → h'.get? b = some o) → Q (.ref D) ⟨h', ge, dr, k₀, os⟩) :
    wpAny (model prog w) A (subscriptTail value (.Slice lo up none p) (.ref l) (.ref hp.objs.size)) Q E ⟨hp.push { cls := .type "slice", data := .fields #[vl, vu, .none] }, ge, dr, k₀, os⟩ :=
  cut_l (s := ⟨hp, ge, dr, k₀, os⟩) hl pl pu hsz h
theorem c_st {M : Model} {x : Str} {v : Value} {h₀ : Heap} {L : Nat} {m : Str → Option Value} {Q : Unit → Shared → Prop} (F : Fr h₀ L hp m) (hL : env.locals = L) (hl : env.kindOf x = some .local)
    (hpp : (env.scope.kind == .class || (env.scope.kind == .module && env.locals != env.globals)) = false)
    (h : ∀ h' k, Fr h₀ L h' (fun y => if y = x then some v else m y) → Heap.SameBut L hp h' → Q () ⟨h', ge, dr, k, os⟩) : wpAny M A (storeName env x v) Q E ⟨hp, ge, dr, k₀, os⟩ :=
  st_any (s := ⟨hp, ge, dr, k₀, os⟩) F hL hl hpp h

theorem c_join {elt : Expr} {gens : List Comprehension} {sc : Scope} {lp p apos pos : Pos} {k : Nat} (hline : (apos.endLine == pos.line) = true)
    (h : ∀ t, wpAny (model prog w) A (eval (.ListComp elt gens sc lp) env) (fun v s₁ => ∃ D items ys, v = .ref D ∧ s₁.heap.IsList D items ∧ Paired IsS items.toList ys ∧ (∀ y ∈ ys, y.length ≤ 1000) ∧ ys.length ≤ 1000 ∧
      ∀ h g d k o, s₁ = ⟨h, g, d, k, o⟩ → ∀ t' k', Q (.str (cat ys) t') ⟨h, g, d, k', o⟩) E ⟨hp, ge, dr, t, os⟩) :
    wpAny (model prog w) A (eval (.Call (.Attribute (.Constant (.str (Str.ofString "")) k p) (Str.ofString "join") apos) [.ListComp elt gens sc lp] [] pos) env) Q E ⟨hp, ge, dr, k₀, os⟩ := by
  refine call_join hline fun t => wpAny_mono (h t) (fun v s₁ h₁ => ?_) fun _ _ e => e
  obtain ⟨D, items, ys, a1, a2, a3, a4, a5, hq⟩ := h₁
  exact ⟨D, items, ys, a1, a2, a3, a4, a5, fun t' k' => hq _ _ _ _ _ rfl t' k'⟩
theorem c_upper {x : Str} {p apos pos : Pos} {s : Shared} (hline : (apos.endLine == pos.line) = true)
    (h : wpAny (model prog w) A (eval (.Name x p) env) (fun v s₁ => ∃ a t, v = .str a t ∧ a.length ≤ 1000000 ∧ ∀ h g d k o, s₁ = ⟨h, g, d, k, o⟩ → ∀ t' k', Q (.str (Txt.upper a) t') ⟨h, g, d, k', o⟩) E s) :
    wpAny (model prog w) A (eval (.Call (.Attribute (.Name x p) (Str.ofString "upper") apos) [] [] pos) env) Q E s :=
  call_upper hline (wpAny_mono h (fun v s₁ ⟨a, t, e, hl, hq⟩ => ⟨a, t, e, hl, fun t' k' => hq _ _ _ _ _ rfl t' k'⟩) fun _ _ e => e)
theorem c_lower {x : Str} {p apos pos : Pos} {s : Shared} (hline : (apos.endLine == pos.line) = true)
    (h : wpAny (model prog w) A (eval (.Name x p) env) (fun v s₁ => ∃ a t, v = .str a t ∧ a.length ≤ 1000000 ∧ ∀ h g d k o, s₁ = ⟨h, g, d, k, o⟩ → ∀ t' k', Q (.str (Txt.lower a) t') ⟨h, g, d, k', o⟩) E s) :
    wpAny (model prog w) A (eval (.Call (.Attribute (.Name x p) (Str.ofString "lower") apos) [] [] pos) env) Q E s :=
  call_lower hline (wpAny_mono h (fun v s₁ ⟨a, t, e, hl, hq⟩ => ⟨a, t, e, hl, fun t' k' => hq _ _ _ _ _ rfl t' k'⟩) fun _ _ e => e)
theorem c_upperX {v i : Expr} {sp apos pos : Pos} {s : Shared} (hline : (apos.endLine == pos.line) = true)
    (h : wpAny (model prog w) A (eval (.Subscript v i sp) env) (fun v s₁ => ∃ a t, v = .str a t ∧ a.length ≤ 1000000 ∧ ∀ h g d k o, s₁ = ⟨h, g, d, k, o⟩ → ∀ t' k', Q (.str (Txt.upper a) t') ⟨h, g, d, k', o⟩) E s) :
    wpAny (model prog w) A (eval (.Call (.Attribute (.Subscript v i sp) (Str.ofString "upper") apos) [] [] pos) env) Q E s :=
  call_upperX hline (wpAny_mono h (fun v s₁ ⟨a, t, e, hl, hq⟩ => ⟨a, t, e, hl, fun t' k' => hq _ _ _ _ _ rfl t' k'⟩) fun _ _ e => e)
theorem c_lowerX {v i : Expr} {sp apos pos : Pos} {s : Shared} (hline : (apos.endLine == pos.line) = true)
    (h : wpAny (model prog w) A (eval (.Subscript v i sp) env) (fun v s₁ => ∃ a t, v = .str a t ∧ a.length ≤ 1000000 ∧ ∀ h g d k o, s₁ = ⟨h, g, d, k, o⟩ → ∀ t' k', Q (.str (Txt.lower a) t') ⟨h, g, d, k', o⟩) E s) :
    wpAny (model prog w) A (eval (.Call (.Attribute (.Subscript v i sp) (Str.ofString "lower") apos) [] [] pos) env) Q E s :=
  call_lowerX hline (wpAny_mono h (fun v s₁ ⟨a, t, e, hl, hq⟩ => ⟨a, t, e, hl, fun t' k' => hq _ _ _ _ _ rfl t' k'⟩) fun _ _ e => e)
end
end Mine
end

section
open PySem.Calls
set_option maxRecDepth 100000
set_option linter.unusedVariables false
namespace Mine
section
variable {prog : Program} {w : World} {A : Around} {E : Value → Shared → Prop} {env : Env} {hp : Heap} {ge : Array GenState} {dr : Drawn} {k₀ : Nat} {os : OsState} {Q : Value → Shared → Prop}

theorem c_list {M : Model} {elts : List Expr} {pos : Pos} {s : Shared}
    (h : wpAny M A (spliced (backTo pos (starEach elts env))) (fun vs s₁ => vs.length ≤ 1000000 ∧ ∀ h g d k o, s₁ = ⟨h, g, d, k, o⟩ → ∀ D h', h.get? D = none → h'.PlainList D vs.toArray → (∀ b o, h.get? b = some o → h'.get? b = some o) → Q (.ref D) ⟨h', g, d, k, o⟩) E s) :
    wpAny M A (eval (.List elts pos) env) Q E s :=
  wpAny_List (wpAny_mono h (fun vs s₁ ⟨hl, h₁⟩ => ⟨Nat.le_trans hl (by decide), h₁ _ _ _ _ _ rfl _ _ (Heap.get?_none_of_le (Nat.le_refl _)) ⟨0, Heap.get?_push_size _ rfl⟩ fun b o e => Heap.get?_push_of_some _ e⟩) fun _ _ e => e)
theorem c_tuple {M : Model} {elts : List Expr} {k : Nat} {pos : Pos} {s : Shared}
    (h : wpAny M A (spliced (backTo pos (starEach elts env))) (fun vs s₁ => vs.length ≤ 1000000 ∧ ∀ h g d k o, s₁ = ⟨h, g, d, k, o⟩ → ∀ D h', h.get? D = none → IsTup h' D vs.toArray → (∀ b o, h.get? b = some o → h'.get? b = some o) → Q (.ref D) ⟨h', g, d, k, o⟩) E s) :
    wpAny M A (eval (.Tuple elts k pos) env) Q E s :=
  wpAny_Tuple (wpAny_mono h (fun vs s₁ ⟨hl, h₁⟩ => ⟨Nat.le_trans hl (by decide), h₁ _ _ _ _ _ rfl _ _ (Heap.get?_none_of_le (Nat.le_refl _)) ⟨_, Heap.get?_push_size _ rfl, rfl, 0, rfl⟩ fun b o e => Heap.get?_push_of_some _ e⟩) fun _ _ e => e)

theorem c_addl {l b : Addr} {vs ws : Array Value} (hl : hp.IsList l vs) (hb : hp.IsList b ws) (hsz : vs.size + ws.size ≤ 1000000)
    (h : ∀ D h', hp.get? D = none → h'.PlainList D (vs ++ ws) → (∀ b o, hp.get? b = some o → h'.get? b = some o) → Q (.ref D) ⟨h', ge, dr, k₀, os⟩) : wpAny (model prog w) A (binaryOp .Add (.ref l) (.ref b)) Q E ⟨hp, ge, dr, k₀, os⟩ := by
  obtain ⟨⟨cls, dd, data, sl⟩, ho, hc, n, hd⟩ := id hl
  obtain ⟨⟨cls2, dd2, data2, sl2⟩, ho2, hc2, n2, hd2⟩ := id hb
  simp only at hc hd hc2 hd2
  subst hc hd hc2 hd2
  refine concat_meets (s := ⟨hp, ge, dr, k₀, os⟩) ⟨_, ho, rfl⟩ ⟨_, ho2, rfl⟩ noFill_list_add seq_list_add PySem.F.slot_list_add PySem.F.entry_list_add (PySem.F.args_list_add_2 _ _) (list_addW l b vs ws n n2 dd dd2 sl sl2 (Nat.le_trans hsz (by decide))) ⟨ho, ho2, ?_⟩
  exact h _ _ (Heap.get?_none_of_le (Nat.le_refl _)) ⟨_, Heap.get?_push_size _ rfl⟩ fun b o e => Heap.get?_push_of_some _ e

theorem c_mull {l : Addr} {items : Array Value} {u : Tok} (hl : hp.PlainList l items) (hne : 0 < items.size) (hsz : items.size ≤ 1000)
    (h : ∀ D h', hp.get? D = none → h'.PlainList D (items ++ items) → (∀ b o, hp.get? b = some o → h'.get? b = some o) → Q (.ref D) ⟨h', ge, dr, k₀, os⟩) : wpAny (model prog w) A (binaryOp .Mult (.ref l) (.int 2 u)) Q E ⟨hp, ge, dr, k₀, os⟩ := by
  obtain ⟨n, hl⟩ := hl
  refine wpAny_binaryOp_repeat_ref (s := ⟨hp, ge, dr, k₀, os⟩) (T := "list") (U := "int") (by decide) ⟨_, hl, rfl⟩ (fun s' => typeIs_int s' 2 u) noFill_list_mul F.fills_int_mul F.slot_int_rmul repeat_list F.slot_int_index.lookup
    (call_meets F.slot_int_rmul (typeIs_int _ 2 u) F.entry_int_rmul (F.args_int_rmul_2 _ _) (int___rmul___int_list 2 u l items n)
      ⟨hl, rfl, ⟨_, hl, rfl⟩, call_meets F.slot_list_mul ⟨_, hl, rfl⟩ F.entry_list_mul (F.args_list_mul_2 _ _)
        (AutoListH.list___mul___list_int_3 l items n 2 u (by simp [Builtin.List.listFitsIndex]) (by have q : items.size * (2 : Int).toNat = items.size * 2 := rfl; omega) (by simp [Builtin.List.listTooLong, sizeLine]; omega))
        ⟨hl, ?_⟩⟩)
  have e : List.foldl (fun x1 x2 => x1 ++ x2) #[] (List.replicate (if items.isEmpty = true then 0 else (2 : Int).toNat) items) = items ++ items := by
    rw [if_neg (by simp; intro q; rw [q] at hne; exact absurd hne (by decide))]
    show ((#[] : Array Value) ++ items) ++ items = _
    simp
  rw [e]
  exact h _ _ (Heap.get?_none_of_le (Nat.le_refl _)) ⟨_, Heap.get?_push_size _ rfl⟩ fun b o e => Heap.get?_push_of_some _ e

theorem c_range1 {n : Int} {t : Tok} (h : ∀ r h' k t u v, IsRange h' r 0 n 1 t u v → (∀ b o, hp.get? b = some o → h'.get? b = some o) → Q (.ref r) ⟨h', ge, dr, k, os⟩) : wpAny (model prog w) A (call (.type "range") [.int n t]) Q E ⟨hp, ge, dr, k₀, os⟩ :=
  call_range_1 (s := ⟨hp, ge, dr, k₀, os⟩) (h _ _ _ _ _ _ (Heap.get?_push_size _ rfl) fun b o e => Heap.get?_push_of_some _ e)
theorem c_range3 {a b c : Int} {t u v : Tok} (hc : c ≠ 0) (hd : Builtin.divisionGoesByPylong (b - a) c = false) (h : ∀ r h' k t u v, IsRange h' r a b c t u v → (∀ b o, hp.get? b = some o → h'.get? b = some o) → Q (.ref r) ⟨h', ge, dr, k, os⟩) : wpAny (model prog w) A (call (.type "range") [.int a t, .int b u, .int c v]) Q E ⟨hp, ge, dr, k₀, os⟩ :=
  call_range_3 (s := ⟨hp, ge, dr, k₀, os⟩) hc (h _ _ _ _ _ _ (Heap.get?_push_size _ rfl) fun b o e => Heap.get?_push_of_some _ e) (.inl hd)
theorem c_min {a b : Int} {t u : Tok} (hh : A.handled = none) (h : ∀ h' k t', (∀ b o, hp.get? b = some o → h'.get? b = some o) → Q (.int (min a b) t') ⟨h', ge, dr, k, os⟩) : wpAny (model prog w) A (call (.builtin "min") [.int a t, .int b u]) Q E ⟨hp, ge, dr, k₀, os⟩ := by
  refine min_two_ints (s := ⟨hp, ge, dr, k₀, os⟩) hh fun h' tk hk => ?_
  by_cases hc : b < a
  · rw [if_pos hc]
    have := h h' tk u hk
    rw [show min a b = b by omega] at this
    exact this
  · rw [if_neg hc]
    have := h h' tk t hk
    rw [show min a b = a by omega] at this
    exact this
theorem c_stc {M : Model} {x : Str} {v : Value} {h₀ : Heap} {L c : Nat} {m : Str → Option Value} {v₀ : Option Value} {Q : Unit → Shared → Prop} (F : Fr h₀ L hp m) (hk : env.scope.kind = .function) (hl : env.kindOf x = some .cell) (hc : env.cells.lookup x = some c) (hv : hp.IsCell c v₀) (hLc : L < c)
    (h : ∀ h', Fr h₀ L h' m → h'.IsCell c (some v) → Heap.SameBut c hp h' → Q () ⟨h', ge, dr, k₀, os⟩) : wpAny M A (storeName env x v) Q E ⟨hp, ge, dr, k₀, os⟩ :=
  wpAny_storeName_cell (s := ⟨hp, ge, dr, k₀, os⟩) hk hl hc hv fun h' hc' hs => h h' ⟨F.ns.sameBut hs (Nat.ne_of_lt hLc), fun b o e => hs.extBut b o (Nat.ne_of_lt (Nat.lt_trans (Nat.lt_of_lt_of_le (Heap.lt_size e) F.above) hLc)) (F.keep b o e), F.above⟩ hc' hs
end
end Mine
end

section
open PySem.Calls
set_option maxRecDepth 100000
namespace Mine
section
variable {prog : Program} {w : World} {A : Around} {E : Value → Shared → Prop} {s : Shared} {env : Env}
/-- a list comprehension over a list, bound to a local name in one go -/
theorem asg_comp_list {elt iter : Expr} {x y : Str} {px py : Pos} {scope : Scope} {cl : List (Str × Addr)} {pos spos : Pos} {Q : Flow → Shared → Prop} {g : Heap} {L : Nat} {m₀ : Str → Option Value} (_F₀ : Fr g L s.heap m₀) (F : Value → Value → Prop)
    (hsw : swapsWith (.ListComp elt [⟨.Name x px, iter, [], 0⟩] scope pos) (some (.Name y py)) spos.line env = pure true)
    (hclos : closureFor scope env = pure cl) (hcell : ∀ y ∈ scope.names, y.2 ≠ .cell) (hkind : scope.kind = .function)
    (hnames : ∀ y ∈ scope.names, y.2 = .local → scope.names.lookup y.1 = some .local) (hx : scope.names.lookup x = some .local) (hh : A.handled = none)
    (hy : env.kindOf y = some .local) (hp : (env.scope.kind == .class || (env.scope.kind == .module && env.locals != env.globals)) = false) (hL : env.locals = L)
    (h : wpAny (model prog w) A (eval iter env) (fun xv s₁ => ∃ l items m, xv = .ref l ∧ Fr g L s₁.heap m ∧ s₁.heap.IsList l items ∧ items.size ≤ sizeLine ∧
      (∀ C v s₃ m₃ E', v ∈ items.toList → s₃.heap.Ns C m₃ → m₃ x = some v → (∀ b o, s₁.heap.get? b = some o → s₃.heap.get? b = some o) →
        wpAny (model prog w) A (eval elt (compEnvC scope cl C env)) (fun y s₄ => F v y ∧ Keeps s₃ s₄) E' s₃) ∧
      (∀ D h' tk ys, s₁.heap.get? D = none → h'.PlainList D ys → Paired F items.toList ys.toList → Fr g L h' (fun z => if z = y then some (.ref D) else m z) → (∀ b o, b ≠ L → s₁.heap.get? b = some o → h'.get? b = some o) → Q .next { s₁ with heap := h', toks := tk })) E s)
    (hs : ∀ x, foldedSetIterable iter env x = pure x := by intro _; rfl) :
    wpAny (model prog w) A (exec (.Assign [.Name y py] (.ListComp elt [⟨.Name x px, iter, [], 0⟩] scope pos) spos) env) Q E s := by
  subst hL
  refine wpAny_Assign_ListComp_free (fun _ => true) F hsw hclos hcell hkind hnames hx hy hp (wpAny_mono h (fun xv s₁ h₁ => ?_) fun _ _ e => e) hs
  obtain ⟨l, items, m, rfl, Fm, hl, hsz, helt, hQ⟩ := h₁
  have hlt : l < s₁.heap.objs.size := by obtain ⟨_, e, _⟩ := hl; exact Heap.lt_size e
  refine wpAny_pyIter_list hl ?_
  refine ⟨s₁.heap.objs.size, [s₁.heap.objs.size, l], [s₁.heap.objs.size], items.size, _, _, m, rfl, Walks.list hh _ l (Nat.ne_of_lt hlt) items, hsz,
    ⟨⟨_, Heap.get?_push_size _ rfl, rfl, rfl⟩, hl.at fun o e => Heap.get?_push_of_some _ e⟩, ?_, ?_, ?_, ⟨?_, ?_⟩, ?_⟩
  · intro b hb
    show b < (s₁.heap.push _).objs.size
    rw [Heap.size_push]
    rcases List.mem_cons.mp hb with rfl | hb
    · exact Nat.lt_succ_self _
    · rw [List.mem_singleton.mp hb]; exact Nat.lt_succ_of_lt hlt
  · intro hm
    have := Fm.ns.lt
    rw [List.mem_singleton.mp hm] at this
    exact Nat.lt_irrefl _ this
  · exact Fm.ns.at' fun o e => Heap.get?_push_of_some _ e
  · intro C i v s₃ m₃ E' _ _ _ _ _ _
    exact wpAny_pure ⟨rfl, s₃.heap, s₃.toks, rfl, fun _ _ e => e⟩
  · intro C i v s₃ m₃ E' _ hP _ hn hm hk _
    exact helt C v s₃ m₃ E' (by obtain ⟨h1, rfl⟩ := Array.getElem?_eq_some_iff.mp hP; simp) hn hm fun b o e => hk b o (not_new_of_old e) (Heap.get?_push_of_some _ e)
  · intro D h' tk ys vs hnew _ hplD hlen hP hF hn hk
    have e' : vs = items.toList := walked_is hlen hP
    subst e'
    have kp : ∀ b o, b ≠ env.locals → s₁.heap.get? b = some o → h'.get? b = some o := fun b o hb e => hk b o hb (not_new_of_old e) (Heap.get?_push_of_some _ e)
    refine hQ D h' tk ys ?_ hplD (by rw [List.filter_eq_self.mpr (fun _ _ => rfl)] at hF; exact hF) ⟨hn, fun b o e => kp b o (Nat.ne_of_lt (Nat.lt_of_lt_of_le (Heap.lt_size e) Fm.above)) (Fm.keep b o e), Fm.above⟩ kp
    cases e : s₁.heap.get? D with
    | none => rfl
    | some o' => rw [Heap.get?_push_of_some _ e] at hnew; cases hnew
end
end Mine
end

section
open PySem.Calls
namespace Mine
set_option maxRecDepth 100000
local macro_rules | `(tactic| walk_at "m1") => `(tactic| first
  | with_reducible refine wpAny_execs_cons ?_
  | with_reducible refine wpAny_execs_nil ?_
  | with_reducible refine wpAny_Return_some ?_
  | with_reducible refine wpAny_If ?_
  | with_reducible refine wpAny_isTrue_Compare1 ?_ (by k_dflt rfl)
  | with_reducible refine wpAny_Compare1 ?_ (by k_dflt rfl)
  | with_reducible refine wpAny_BinOp ?_
  | with_reducible refine wpAny_IfExp ?_
  | with_reducible refine wpAny_Constant_int ?_
  | with_reducible refine Calls.Constant_str ?_
  | with_reducible refine wpAny_Constant_bool ?_
  | with_reducible refine wpAny_Constant_none ?_
  | with_reducible refine wpAny_truthy_bool ?_
  | with_reducible refine Subscript_ ?_
  | with_reducible refine wpAny_Slice ?_
  | with_reducible refine evalPart_none_step ?_
  | with_reducible refine evalPart_some_step ?_
  | with_reducible refine spliced_none ?_
  | with_reducible refine spliced_more ?_ (by k_dflt rfl)
  | with_reducible refine wpAny_Call_NameR ?_
  | with_reducible refine callWith_builtin1 ?_ (by k_dflt rfl) (by k_dflt rfl)
  | with_reducible refine callWith_type1 ?_ (by k_dflt rfl) (by k_dflt rfl)
  | with_reducible refine callWith_method0 ?_
  | with_reducible refine callWith_method1 ?_ (by k_dflt rfl) (by k_dflt rfl)
  | with_reducible refine P.ne_int ?_
  | with_reducible refine P.eq_int ?_
  | with_reducible refine P.lt_int ?_
  | with_reducible refine P.gt_int ?_
  | with_reducible refine wpAny_Assign_Name ?_ (by k_dflt rfl)
  | with_reducible refine wpAny_AugAssign_Name ?_
  | walk_at "mname")
local macro_rules | `(tactic| walk_at "mname") => `(tactic| first
  | with_reducible refine ld (by assumption) (by k_dflt rfl) ?_ (by k_dflt rfl) (by k_dflt rfl) (by decide)
  | with_reducible refine ldLoc (by assumption) (by k_dflt rfl) ?_ (by k_dflt rfl) (by k_dflt rfl) (by decide)
  | with_reducible refine ldC (by assumption) (by k_dflt rfl) (by k_dflt rfl) ?_ (by k_dflt rfl) (by k_dflt rfl) (by decide)
  | with_reducible refine ldVarK (by k_dflt assumption) (by assumption) ?_ (by k_dflt rfl) (by k_dflt rfl) (by decide)
  | with_reducible refine nmB (by assumption) (by assumption) (by first | assumption | exact Fr.keep (by assumption)) (by kernel_rfl) (by boot_by_name) (by decide) ?_ (by k_dflt rfl) (by k_dflt rfl) (by k_dflt rfl) (by k_dflt rfl) (by decide)
  | with_reducible refine nmG (by assumption) (by assumption) (by first | assumption | exact Fr.keep (by assumption)) (by kernel_rfl) ?_ (by k_dflt rfl) (by k_dflt rfl) (by k_dflt rfl) (by decide))

noncomputable abbrev K1 (w : World) : Frag := hd01.heap_39 w.params
abbrev P1 : Program := PySem.Challenge.rw_gb5018_01.row.prog
def mt (c d : Nat) : Str := if Txt.isupper ⟨#[c]⟩ = true then Txt.upper ⟨#[d]⟩ else Txt.lower ⟨#[d]⟩
def matchS (a b : Str) : Str := cat (List.zipWith mt a.cps.toList b.cps.toList)
theorem len_mt (c d : Nat) : (mt c d).length ≤ 3 := by
  unfold mt
  split
  · exact len_upper _
  · exact len_lower _
theorem len_zip_mt (a b : List Nat) : ∀ y ∈ List.zipWith mt a b, y.length ≤ 3 := fun y hy => by
  obtain ⟨i, h1, rfl⟩ := List.mem_iff_getElem.mp hy
  rw [List.getElem_zipWith]; exact len_mt _ _

theorem matching_spec {w : World} {A : Around} {R : Result → Shared → Prop} {s : Shared} {mg mb : Str → Option Value} {p : Program} {loose : List Str} {a b : Str} {ta tb : Tok}
    (X : (K1 w).In s.heap) (T : TopRead p loose mg mb s.heap) (hroom : A.depth < 900) (hh : A.handled = none) (hlen : a.length = b.length) (hsz : a.length ≤ 100)
    (h : ∀ t h' k, (∀ b o, s.heap.get? b = some o → h'.get? b = some o) → R (.ok (.ret (.str (matchS a b) t))) { s with heap := h', toks := k })
    : codeAny (model P1 w) A (.call (.ref 19) ⟨[.str a ta, .str b tb], []⟩) R s := by
  refine enter_def (K := K1 w) [("cased_text", .str a ta), ("uncased_text", .str b tb)] X T.nolimit (by rfl) (by kernel_rfl) (Nat.lt_of_lt_of_le hroom (by decide)) (BindsTo.of_eq rfl) (by exact locs rfl) (by decide) rfl rfl rfl ?_
  intro L h₁ hL F
  repeat walk_at "m1"
  refine len_s ?_ fun t k => ?_
  · omega
  repeat walk_at "m1"
  refine len_s ?_ fun t k => ?_
  · omega
  repeat walk_at "m1"
  refine ite_neg (by simp [hlen]) ?_
  walk_at "m1"
  dsimp only
  walk_at "m1"
  walk_at "m1"
  refine call_join rfl fun t => ?_
  refine comp_zip (a := a) (b := b) mt rfl (by decide) rfl (by decide) rfl rfl (by decide) hh (by show a.length ≤ _; omega) ?_
  repeat walk_at "m1"
  refine call_zip_strs fun h' n hn hz hTI hTO hi1 hi2 hsz' hk => ?_
  refine ⟨n, ta, tb, hn, rfl, hz, hTI, hTO, hi1, hi2, hsz', hk, ?_, ?_⟩
  · intro C c d t u s₃ m₃ E' hn3 hm1 hm2 hk3
    refine wpAny_IfExp (isTrue_call (call_isupper rfl ?_))
    walk_at "m1"
    refine ⟨_, _, rfl, _, rfl, ?_⟩
    by_cases hc : Txt.isupper ⟨#[c]⟩ = true
    · refine ite_pos hc (call_upper rfl ?_)
      walk_at "m1"
      refine ⟨_, _, rfl, by show 1 ≤ _; decide, fun t' k => ⟨⟨t', ?_⟩, _, _, rfl, fun _ _ e => e⟩⟩
      rw [mt, if_pos hc]
    · refine ite_neg hc (call_lower rfl ?_)
      walk_at "m1"
      refine ⟨_, _, rfl, by show 1 ≤ _; decide, fun t' k => ⟨⟨t', ?_⟩, _, _, rfl, fun _ _ e => e⟩⟩
      rw [mt, if_neg hc]
  · intro D h'' tk ys hD hl hP hk2
    refine ⟨D, ys, _, rfl, hl.isList, hP, fun y hy => Nat.le_trans (len_zip_mt _ _ y hy) (by decide), ?_, fun t' k => ?_⟩
    · rw [List.length_zipWith]; have : a.cps.toList.length = a.length := by simp [Str.length]
      omega
    · exact h t' h'' k fun b o e => hk2 b o (F.keep b o e)
end Mine
end

section
open PySem.Calls
namespace Mine
set_option maxRecDepth 100000
local macro_rules | `(tactic| walk_at "m1") => `(tactic| first
  | with_reducible refine wpAny_execs_cons ?_
  | with_reducible refine wpAny_execs_nil ?_
  | with_reducible refine wpAny_Return_some ?_
  | with_reducible refine wpAny_If ?_
  | ((with_reducible show wpAny _ _ (PySem.isTrue (Expr.Compare _ _ _ _) _ _) _ _ _); with_reducible refine wpAny_isTrue_Compare1 ?_ (by k_dflt rfl))
  | with_reducible refine wpAny_isTrue_Not ?_
  | with_reducible refine wpAny_isTrue_BoolOp ?_
  | with_reducible refine wpAny_allTrue_Or_cons ?_
  | with_reducible refine wpAny_allTrue_Or_nil ?_
  | with_reducible refine wpAny_allTrue_And_cons ?_
  | with_reducible refine wpAny_allTrue_And_nil ?_
  | with_reducible refine wpAny_UnaryOp ?_
  | with_reducible refine c_neg fun _ _ => ?_
  | with_reducible refine isTrue_nm ?_
  | with_reducible refine wpAny_Continue ?_
  | with_reducible refine assignInOrder_cons ?_
  | with_reducible refine assignInOrder_nil ?_
  | with_reducible refine wpAny_assign_Name ?_
  | ((with_reducible show wpAny _ _ (eval (Expr.Compare _ _ _ _) _) _ _ _); with_reducible refine wpAny_Compare1 ?_ (by k_dflt rfl))
  | with_reducible refine wpAny_BinOp ?_
  | with_reducible refine wpAny_IfExp ?_
  | with_reducible refine c_int fun _ _ => ?_
  | with_reducible refine c_str fun _ _ => ?_
  | with_reducible refine wpAny_Constant_bool ?_
  | with_reducible refine wpAny_Constant_none ?_
  | with_reducible refine wpAny_truthy_bool ?_
  | with_reducible refine Subscript_ ?_
  | with_reducible refine c_slice ?_
  | ((with_reducible show ∀ (_ : Heap) (_ : Array GenState) (_ : Drawn) (_ : Nat) (_ : OsState), Shared.mk _ _ _ _ _ = _ → _); intro _ _ _ _ _ e; cases e)
  | with_reducible refine evalPart_none_step ?_
  | with_reducible refine evalPart_some_step ?_
  | with_reducible refine spliced_none ?_
  | ((with_reducible show wpAny _ _ (spliced _) _ _ _); with_reducible refine spliced_more ?_ (by k_dflt rfl))
  | with_reducible refine wpAny_Call_NameR ?_
  | ((with_reducible show wpAny _ _ (callWith _ _ _ _ _) _ _ _); with_reducible refine callWith_builtin1 ?_ (by k_dflt rfl) (by k_dflt rfl))
  | ((with_reducible show wpAny _ _ (callWith _ _ _ _ _) _ _ _); with_reducible refine callWith_type1 ?_ (by k_dflt rfl) (by k_dflt rfl))
  | ((with_reducible show wpAny _ _ (callWith _ _ _ _ _) _ _ _); with_reducible refine callWith_method0 ?_)
  | ((with_reducible show wpAny _ _ (callWith _ _ _ _ _) _ _ _); with_reducible refine callWith_method1 ?_ (by k_dflt rfl) (by k_dflt rfl))
  | with_reducible refine P.ne_int ?_
  | with_reducible refine P.eq_int ?_
  | with_reducible refine P.lt_int ?_
  | with_reducible refine P.gt_int ?_
  | with_reducible refine c_sub fun _ _ => ?_
  | with_reducible refine c_add fun _ _ => ?_
  | ((with_reducible show wpAny _ _ (exec (Stmt.Assign _ _ _) _) _ _ _); with_reducible refine wpAny_Assign_Name ?_ (by k_dflt rfl))
  | with_reducible refine wpAny_AugAssign_Name ?_
  | walk_at "mname")
local macro_rules | `(tactic| walk_at "mname") => `(tactic| first
  | ((with_reducible show wpAny _ _ (eval (Expr.Name _ _) _) _ _ _); with_reducible refine ld (by assumption) (by first | k_dflt rfl | k_dflt assumption) ?_ (by k_dflt rfl) (by k_dflt rfl) (by decide))
  | ((with_reducible show wpAny _ _ (eval (Expr.Name _ _) _) _ _ _); with_reducible refine ldLoc (by assumption) (by first | k_dflt rfl | k_dflt assumption) ?_ (by k_dflt rfl) (by k_dflt rfl) (by decide))
  | ((with_reducible show wpAny _ _ (eval (Expr.Name _ _) _) _ _ _); with_reducible refine ldC (by assumption) (by k_dflt rfl) (by k_dflt rfl) ?_ (by k_dflt rfl) (by k_dflt rfl) (by decide))
  | ((with_reducible show wpAny _ _ (eval (Expr.Name _ _) _) _ _ _); with_reducible refine ldVarK (by k_dflt assumption) (by assumption) ?_ (by k_dflt rfl) (by k_dflt rfl) (by decide))
  | ((with_reducible show wpAny _ _ (eval (Expr.Name _ _) _) _ _ _); with_reducible refine nmB (by assumption) (by assumption) (by first | assumption | exact Fr.keep (by assumption)) (by kernel_rfl) (by boot_by_name) (by decide) ?_ (by k_dflt rfl) (by k_dflt rfl) (by k_dflt rfl) (by k_dflt rfl) (by decide))
  | ((with_reducible show wpAny _ _ (eval (Expr.Name _ _) _) _ _ _); with_reducible refine nmG (by assumption) (by assumption) (by first | assumption | exact Fr.keep (by assumption)) (by kernel_rfl) ?_ (by k_dflt rfl) (by k_dflt rfl) (by k_dflt rfl) (by decide)))

structure Piece where
  tag : Str
  i1 : Nat
  i2 : Nat
  j1 : Nat
  j2 : Nat
def nearS (a : Str) (i : Nat) : Nat := if i = 0 ∨ a.cps.toList[i - 1]? = some 32 then i else i - 1
def sgn (a : Str) (i : Nat) : Str := ⟨#[a.cps.toList.getD i 0]⟩
def one (up : Bool) (d : Nat) : Str := if up = true then Txt.upper ⟨#[d]⟩ else Txt.lower ⟨#[d]⟩
def pieceS (a b : Str) (p : Piece) : Str :=
  if p.tag = Str.ofString "delete" then ⟨#[]⟩
  else if p.tag = Str.ofString "insert" then (if Txt.isupper (sgn a (nearS a p.i1)) = true then Txt.upper (sub b p.j1 p.j2) else Txt.lower (sub b p.j1 p.j2))
  else if p.tag = Str.ofString "equal" then sub a p.i1 p.i2
  else matchS (sub a p.i1 p.i2) (sub b p.j1 p.j2) ++ (if (sub a p.i1 p.i2).length < (sub b p.j1 p.j2).length then
      cat (((sub b p.j1 p.j2).cps.toList.drop (sub a p.i1 p.i2).length).map (one (Txt.isupper (sgn (sub a p.i1 p.i2) ((sub a p.i1 p.i2).length - 1))))) else ⟨#[]⟩)
structure PieceOk (a b : Str) (p : Piece) : Prop where
  hi : p.i1 ≤ p.i2
  ha : p.i2 ≤ a.length
  hj : p.j1 ≤ p.j2
  hb : p.j2 ≤ b.length
  ins : p.tag = Str.ofString "insert" → nearS a p.i1 < a.length
  rep : p.tag ≠ Str.ofString "delete" → p.tag ≠ Str.ofString "insert" → p.tag ≠ Str.ofString "equal" → p.i1 < p.i2
def TupP (h : Heap) (v : Value) (p : Piece) : Prop := ∃ T t1 t2 t3 t4 t5, v = .ref T ∧ IsTup h T #[.str p.tag t1, .int (p.i1 : Nat) t2, .int (p.i2 : Nat) t3, .int (p.j1 : Nat) t4, .int (p.j2 : Nat) t5]

theorem len_upper3 (x : Str) : (Txt.upper x).length ≤ 3 * x.length := len_upper x
theorem len_app (x y : Str) : (x ++ y).length = x.length + y.length := by
  show (x.cps ++ y.cps).size = _
  simp [Str.length]
theorem len_matchS (a b : Str) : (matchS a b).length ≤ 3 * b.length := by
  refine Nat.le_trans (len_cat_le (len_zip_mt _ _)) (Nat.mul_le_mul_left _ ?_)
  rw [List.length_zipWith]
  refine Nat.le_trans (Nat.min_le_right _ _) ?_
  simp [Str.length]
theorem len_one (u : Bool) (d : Nat) : (one u d).length ≤ 3 := by
  unfold one
  split
  · exact len_upper _
  · exact len_lower _
theorem len_sub_le (x : Str) (i j : Nat) : (sub x i j).length ≤ x.length := by
  show (((x.cps.toList.drop i).take (j - i)).toArray).size ≤ _
  have : x.cps.toList.length = x.length := by simp [Str.length]
  rw [List.size_toArray, List.length_take, List.length_drop, this]
  omega
theorem len_piece {a b : Str} (p : Piece) (ha : a.length ≤ 100) (hb : b.length ≤ 100) : (pieceS a b p).length ≤ 1000 := by
  have h1 := len_sub_le a p.i1 p.i2
  have h2 := len_sub_le b p.j1 p.j2
  unfold pieceS
  split
  · exact Nat.zero_le _
  · split
    · split
      · have := len_upper (sub b p.j1 p.j2); omega
      · have := len_lower (sub b p.j1 p.j2); omega
    · split
      · omega
      · rw [len_app]
        have h3 := len_matchS (sub a p.i1 p.i2) (sub b p.j1 p.j2)
        split
        · have h4 := len_cat_le (B := 3) (l := ((sub b p.j1 p.j2).cps.toList.drop (sub a p.i1 p.i2).length).map (one (Txt.isupper (sgn (sub a p.i1 p.i2) ((sub a p.i1 p.i2).length - 1))))) (fun y hy => by
            obtain ⟨d, _, rfl⟩ := List.mem_map.mp hy
            exact len_one _ _)
          have h5 : (((sub b p.j1 p.j2).cps.toList.drop (sub a p.i1 p.i2).length).map (one (Txt.isupper (sgn (sub a p.i1 p.i2) ((sub a p.i1 p.i2).length - 1))))).length ≤ (sub b p.j1 p.j2).length := by
            rw [List.length_map, List.length_drop]; simp [Str.length]
          omega
        · show _ + 0 ≤ _; omega

set_option maxHeartbeats 8000000 in
theorem similar_spec {w : World} {A : Around} {R : Result → Shared → Prop} {s : Shared} {mg mb : Str → Option Value} {p : Program} {loose : List Str} {a b : Str} {ta tb : Tok} {f : Addr} {of : Obj} {fd : FuncData} {ps : List Piece} {g : Heap} (Ex : Addr → Prop)
    (X : (K1 w).In g) (TR : TopRead p loose mg mb g) (hg : ∀ b o, g.get? b = some o → s.heap.get? b = some o) (hgs : g.objs.size ≤ s.heap.objs.size) (hgx : ∀ b o, g.get? b = some o → ¬ Ex b)
    (hEx : ∀ b, Ex b → b < s.heap.objs.size)
    (hroom : A.depth < 800) (hh : A.handled = none) (ha0 : 0 < a.length) (hb0 : 0 < b.length) (ha : a.length ≤ 100) (hb : b.length ≤ 100)
    (hps : ∀ q ∈ ps, PieceOk a b q) (hn : ps.length ≤ 100)
    (hfo : s.heap.get? f = some of) (hfd : of.data = .func fd)
    (hf : ∀ (A' : Around) (h' : Heap) (k' t1 t2 : Tok) (Q : Value → Shared → Prop), A'.handled = none → A'.depth ≤ A.depth + 10 → (∀ b o, s.heap.get? b = some o → h'.get? b = some o) →
      (∀ l items h'' k'', ¬ Ex l → h''.IsList l items → Paired (TupP h'') items.toList ps → (∀ b o, ¬ Ex b → h'.get? b = some o → h''.get? b = some o) → Q (.ref l) { s with heap := h'', toks := k'' }) →
      wpAny (model P1 w) A' (call (.ref f) [.str (Txt.lower a) t1, .str b t2]) Q (fun _ _ => False) { s with heap := h', toks := k' })
    (hR : ∀ t h' k, (∀ b o, ¬ Ex b → s.heap.get? b = some o → h'.get? b = some o) → R (.ok (.ret (.str (cat (ps.map (pieceS a b))) t))) { s with heap := h', toks := k })
    : codeAny (model P1 w) A (.call (.ref 24) ⟨[.str a ta, .str b tb, .ref f], []⟩) R s := by
  refine enter_defC (K := K1 w) [("cased_text", .str a ta), ("uncased_text", .str b tb), ("get_opcodes", .ref f)] (X.keeps hg) (TR.nolimit.keeps hg) (by rfl) (by kernel_rfl) (Nat.lt_of_lt_of_le hroom (by decide)) (BindsTo.of_eq rfl) (by exact rfl) rfl rfl rfl ?_
  intro L h₁ tk hL F₀ C
  have F : Fr g L h₁ _ := ⟨F₀.ns, fun b o e => F₀.keep b o (hg b o e), by rw [hL]; exact hgs⟩
  repeat walk_at "m1"
  refine truthy_s ?_ fun k => ?_
  · omega
  refine ite_neg (by simp; omega) ?_
  walk_at "m1"
  dsimp only
  repeat walk_at "m1"
  refine truthy_s ?_ fun k => ?_
  · omega
  refine ite_neg (by simp; omega) ?_
  walk_at "m1"
  dsimp only
  repeat walk_at "m1"
  refine st_any F rfl (by k_dflt rfl) rfl fun h₂ k₂ F₂ hs₂ => ?_
  have C₂ := C.sameBut hs₂ (Nat.le_refl _)
  dsimp only
  have U₂ : h₂.IsCell (L + 1) none := C₂.cell (Str.ofString "upper") (L + 1) (by k_dflt rfl)
  clear C C₂
  have kp₂ : ∀ b o, s.heap.get? b = some o → h₂.get? b = some o := fun b o e => hs₂.extBut b o (Nat.ne_of_lt (hL ▸ Heap.lt_size e)) (F₀.keep b o e)
  walk_at "m1"
  have hLx : ¬ Ex L := fun e => by have := hEx L e; rw [hL] at this; exact Nat.lt_irrefl _ this
  have hUx : ¬ Ex (L + 1) := fun e => by have := hEx _ e; rw [hL] at this; exact Nat.not_succ_lt_self this
  refine for_list_tup hh ?_
  refine wpAny_Call_NameR ?_
  walk_at "m1"
  refine callWith_def hfd ?_ rfl
  refine spliced_more ?_ rfl
  refine call_lower rfl ?_
  walk_at "m1"
  refine ⟨a, ta, rfl, by omega, fun t' k' => ?_⟩
  repeat walk_at "m1"
  refine ⟨kp₂ _ _ hfo, ?_⟩
  refine hf _ _ _ _ _ _ hh (by show A.depth + 1 ≤ _; omega) kp₂ fun l items h₃ k₃ hlx hl hP hk₃ => ?_
  have F₃ : Fr g L h₃ _ := ⟨F₂.ns.at' fun o e => hk₃ L o hLx e, fun b o e => hk₃ b o (hgx b o e) (F₂.keep b o e), F₂.above⟩
  have U₃ : h₃.IsCell (L + 1) none := by obtain ⟨o, ho, hd⟩ := U₂; exact ⟨o, hk₃ _ _ hUx ho, hd⟩
  have hlL : l ≠ L := by
    rintro rfl
    obtain ⟨o, ho, hc, n, hd⟩ := hl
    obtain ⟨o', es, ep, ho', hd', _⟩ := F₃.ns
    have e := Option.some.inj (ho.symm.trans ho')
    subst e
    rw [hd] at hd'; cases hd'
  have hlU : l ≠ L + 1 := by
    intro e
    obtain ⟨o, ho, hc, n, hd⟩ := hl
    obtain ⟨o', ho', hd'⟩ := U₃
    have e := Option.some.inj (ho.symm.trans (e ▸ ho'))
    subst e
    rw [hd] at hd'; cases hd'
  have hI0 : ∃ m t ov, Fr g L h₃ m ∧ m (Str.ofString "cased_text") = some (.str a ta) ∧ m (Str.ofString "uncased_text") = some (.str b tb) ∧ m (Str.ofString "result") = some (.str (cat ((ps.take 0).map (pieceS a b))) t) ∧ h₃.IsCell (L + 1) ov ∧
    (∀ b o, b ≠ L → b ≠ L + 1 → h₃.get? b = some o → h₃.get? b = some o) := by
    have e : Str.ofString "" = cat ((ps.take 0).map (pieceS a b)) := by rw [List.take_zero, List.map_nil, cat_nil]; decide
    rw [← e]
    refine ⟨_, ?t, none, F₃, ?_, ?_, ?_, U₃, fun b o _ _ e => e⟩
    rotate_left
    · k_dflt rfl
    · k_dflt rfl
    · k_dflt rfl
  refine ⟨l, items, fun i h => ∃ m t ov, Fr g L h m ∧ m (Str.ofString "cased_text") = some (.str a ta) ∧ m (Str.ofString "uncased_text") = some (.str b tb) ∧ m (Str.ofString "result") = some (.str (cat ((ps.take i).map (pieceS a b))) t) ∧ h.IsCell (L + 1) ov ∧
    (∀ b o, b ≠ L → b ≠ L + 1 → h₃.get? b = some o → h.get? b = some o), rfl, hI0, ?_, ?_, ?_, ?_, ?_⟩
  · rintro i h ⟨m, t, ov, Fm, _, _, _, _, kp⟩
    obtain ⟨o, ho, r⟩ := hl
    exact ⟨o, kp _ _ hlL hlU ho, r⟩
  · intro i v hv
    obtain ⟨q, _, T, _, _, _, _, _, e, _⟩ := paired_get' hP i v (by simpa using hv)
    exact ⟨T, e⟩
  · rintro i h h' ⟨m, t, ov, Fm, e1, e2, e3, U, kp⟩ hk
    have hLs : L ≠ h₃.objs.size := Nat.ne_of_lt F₃.ns.lt
    have hUs : L + 1 ≠ h₃.objs.size := by obtain ⟨o, ho, _⟩ := U₃; exact Nat.ne_of_lt (Heap.lt_size ho)
    refine ⟨m, t, ov, ⟨Fm.ns.at' fun o e => hk L o hLs e, fun b o e => hk b o (fun q => ?_) (Fm.keep b o e), Fm.above⟩, e1, e2, e3, ?_, fun b o n1 n2 e => hk b o (Nat.ne_of_lt (Heap.lt_size e)) (kp b o n1 n2 e)⟩
    · have := Heap.lt_size e
      have h2 := Nat.lt_of_lt_of_le this Fm.above
      have h3 := F₃.ns.lt
      rw [q] at h2; exact Nat.lt_irrefl _ (Nat.lt_trans h2 h3)
    · obtain ⟨o, ho, hd⟩ := U; exact ⟨o, hk _ _ hUs ho, hd⟩
  · rintro i v h tk hv ⟨m, t, ov, Fm, e1, e2, e3, U, kp⟩ ⟨oI, hoI⟩
    obtain ⟨q, hq, T, t1, t2, t3, t4, t5, rfl, hT⟩ := paired_get' hP i v (by simpa using hv)
    have qok : PieceOk a b q := hps q (List.mem_of_getElem? hq)
    have htake : cat ((ps.take (i + 1)).map (pieceS a b)) = cat ((ps.take i).map (pieceS a b)) ++ pieceS a b q := by
      rw [List.take_add_one, hq, List.map_append, cat_append]
      show _ ++ cat [pieceS a b q] = _
      rw [cat_one]
    have hres : (cat ((ps.take i).map (pieceS a b))).length ≤ 100000 := by
      refine Nat.le_trans (len_cat_le (B := 1000) fun y hy => ?_) ?_
      · obtain ⟨q', _, rfl⟩ := List.mem_map.mp hy; exact len_piece q' ha hb
      · rw [List.length_map, List.length_take]; omega
    generalize cat ((ps.take i).map (pieceS a b)) = res at e3 htake hres
    have hTL : T ≠ L := by
      rintro rfl
      obtain ⟨o, ho, hc, n, hd⟩ := hT
      obtain ⟨o', es, ep, ho', hd', _⟩ := F₃.ns
      have e := Option.some.inj (ho.symm.trans ho')
      subst e
      rw [hd] at hd'; cases hd'
    have hTU : T ≠ L + 1 := by
      intro e
      obtain ⟨o, ho, hc, n, hd⟩ := hT
      obtain ⟨o', ho', hd'⟩ := U₃
      have e := Option.some.inj (ho.symm.trans (e ▸ ho'))
      subst e
      rw [hd] at hd'; cases hd'
    have hT' : IsTup h T #[.str q.tag t1, .int (q.i1 : Nat) t2, .int (q.i2 : Nat) t3, .int (q.j1 : Nat) t4, .int (q.j2 : Nat) t5] := by obtain ⟨o, ho, r⟩ := hT; exact ⟨o, kp _ _ hTL hTU ho, r⟩
    refine assign_Tuple_tuple hh hT' rfl rfl fun h₄ he => ?_
    have he' : ∀ b o, h.get? b = some o → h₄.get? b = some o := fun b o e => he b o (Nat.ne_of_lt (Heap.lt_size e)) e
    have F₄ : Fr g L h₄ m := Fm.keeps he'
    refine assignInOrder_cons (wpAny_assign_Name (st_any F₄ rfl (by k_dflt rfl) rfl fun h₅ k₅ F₅ hs₅ => ?_))
    refine assignInOrder_cons (wpAny_assign_Name (st_any F₅ rfl (by k_dflt rfl) rfl fun h₆ k₆ F₆ hs₆ => ?_))
    refine assignInOrder_cons (wpAny_assign_Name (st_any F₆ rfl (by k_dflt rfl) rfl fun h₇ k₇ F₇ hs₇ => ?_))
    refine assignInOrder_cons (wpAny_assign_Name (st_any F₇ rfl (by k_dflt rfl) rfl fun h₈ k₈ F₈ hs₈ => ?_))
    refine assignInOrder_cons (wpAny_assign_Name (st_any F₈ rfl (by k_dflt rfl) rfl fun h₉ k₉ F₉ hs₉ => ?_))
    refine assignInOrder_nil ?_
    have up9 : ∀ b o, b ≠ L → h.get? b = some o → h₉.get? b = some o := fun b o hb e => hs₉.extBut b o hb (hs₈.extBut b o hb (hs₇.extBut b o hb (hs₆.extBut b o hb (hs₅.extBut b o hb (he' b o e)))))
    obtain ⟨M, FM, M1, M2, M3, Mt, Mi1, Mi2, Mj1, Mj2⟩ : ∃ M, Fr g L h₉ M ∧ M (Str.ofString "cased_text") = some (.str a ta) ∧ M (Str.ofString "uncased_text") = some (.str b tb) ∧ M (Str.ofString "result") = some (.str res t) ∧
        M (Str.ofString "tag") = some (.str q.tag t1) ∧ M (Str.ofString "i1") = some (.int (q.i1 : Nat) t2) ∧ M (Str.ofString "i2") = some (.int (q.i2 : Nat) t3) ∧ M (Str.ofString "j1") = some (.int (q.j1 : Nat) t4) ∧ M (Str.ofString "j2") = some (.int (q.j2 : Nat) t5) :=
      ⟨_, F₉, by k_dflt exact e1, by k_dflt exact e2, by k_dflt exact e3, by k_dflt rfl, by k_dflt rfl, by k_dflt rfl, by k_dflt rfl, by k_dflt rfl⟩
    have UM : h₉.IsCell (L + 1) ov := by obtain ⟨o, ho, hd⟩ := U; exact ⟨o, up9 _ _ (Nat.succ_ne_self L) ho, hd⟩
    have kpM : ∀ b o, b ≠ L → b ≠ L + 1 → h₃.get? b = some o → h₉.get? b = some o := fun b o n1 n2 e => up9 b o n1 (kp b o n1 n2 e)
    have hIM : h₉.get? h₃.objs.size = some oI := up9 _ _ (Nat.ne_of_gt F₃.ns.lt) hoI
    have hUs : L + 1 ≠ h₃.objs.size := by obtain ⟨o, ho, _⟩ := U₃; exact Nat.ne_of_lt (Heap.lt_size ho)
    have hLs : L ≠ h₃.objs.size := Nat.ne_of_lt F₃.ns.lt
    have fin : ∀ (h' : Heap) (m' : Str → Option Value) (t' k' : Tok) (ov' : Option Value), Fr g L h' m' → m' (Str.ofString "cased_text") = some (.str a ta) → m' (Str.ofString "uncased_text") = some (.str b tb) → m' (Str.ofString "result") = some (.str (res ++ pieceS a b q) t') →
        h'.IsCell (L + 1) ov' → (∀ b o, b ≠ L → b ≠ L + 1 → h₉.get? b = some o → h'.get? b = some o) →
        ∃ h'' tk', ({ s with heap := h', toks := k' } : Shared) = { s with heap := h'', toks := tk' } ∧
          (∃ m t ov, Fr g L h'' m ∧ m (Str.ofString "cased_text") = some (.str a ta) ∧ m (Str.ofString "uncased_text") = some (.str b tb) ∧ m (Str.ofString "result") = some (.str (cat ((ps.take (i + 1)).map (pieceS a b))) t) ∧ h''.IsCell (L + 1) ov ∧
            (∀ b o, b ≠ L → b ≠ L + 1 → h₃.get? b = some o → h''.get? b = some o)) ∧ (∀ o, h.get? h₃.objs.size = some o → h''.get? h₃.objs.size = some o) := by
      intro h' m' t' k' ov' F' a1 a2 a3 U' k'
      refine ⟨h', _, rfl, ⟨m', t', ov', F', a1, a2, by rw [htake]; exact a3, U', fun b o n1 n2 e => k' b o n1 n2 (kpM b o n1 n2 e)⟩, fun o e => k' _ _ (Ne.symm hLs) (Ne.symm hUs) (up9 _ _ (Ne.symm hLs) e)⟩
    clear hT hT' hTL hTU F₄ F₅ F₆ F₇ F₈ F₉ hs₅ hs₆ hs₇ hs₈ hs₉ e1 e2 e3 Fm hv
    repeat walk_at "m1"
    refine eq_s ?_
    repeat walk_at "m1"
    by_cases hd : q.tag = Str.ofString "delete"
    · refine ite_pos (by simp [hd]) ?_
      walk_at "m1"
      refine wpAny_Continue ?_
      dsimp only
      exact ⟨.inr rfl, fin h₉ M t _ ov FM M1 M2 (by rw [pieceS, if_pos hd, app_nil]; exact M3) UM fun b o _ _ e => e⟩
    refine ite_neg (by simp [hd]) ?_
    walk_at "m1"
    dsimp only
    repeat walk_at "m1"
    refine eq_s ?_
    repeat walk_at "m1"
    by_cases hi : q.tag = Str.ofString "insert"
    · refine ite_pos (by simp [hi]) ?_
      walk_at "m1"
      walk_at "m1"
      have hnear := qok.ins hi
      have haL : a.cps.toList.length = a.length := by simp [Str.length]
      refine wpAny_mono (Q := fun v s' => ∃ t k, v = Value.int (nearS a q.i1 : Nat) t ∧ s' = { s with heap := h₉, toks := k }) ?_ (fun v s' hv => ?_) (fun _ _ x => x)
      · repeat walk_at "m1"
        by_cases h0 : q.i1 = 0
        · refine ite_pos (by simp [h0]) ?_
          refine ite_pos rfl ?_
          walk_at "m1"
          exact ⟨_, _, by rw [nearS, if_pos (.inl h0)], rfl⟩
        refine ite_neg (by simp; omega) ?_
        repeat walk_at "m1"
        have hlt : q.i1 - 1 < a.cps.toList.length := by have := qok.hi; have := qok.ha; omega
        have hc : a.cps.toList[q.i1 - 1]? = some (a.cps.toList[q.i1 - 1]) := List.getElem?_eq_getElem hlt
        generalize a.cps.toList[q.i1 - 1] = c at hc
        refine c_item_s (c := c) (by omega) (by omega) (by rw [show ((q.i1 : Int) - 1).toNat = q.i1 - 1 by omega]; exact hc) rfl fun t' k' => ?_
        repeat walk_at "m1"
        refine eq_s ?_
        repeat walk_at "m1"
        by_cases h32 : c = 32
        · refine ite_pos (decide_eq_true ((is_blank c).mpr h32)) ?_
          refine ite_pos rfl ?_
          walk_at "m1"
          exact ⟨_, _, by rw [nearS, if_pos (.inr (by rw [hc, h32]))], rfl⟩
        · refine ite_neg (fun e => h32 ((is_blank c).mp (of_decide_eq_true e))) ?_
          walk_at "m1"
          refine ite_neg (by decide) ?_
          repeat walk_at "m1"
          have e : ((q.i1 : Int) - 1) = (nearS a q.i1 : Nat) := by
            rw [nearS, if_neg (by rintro (h | h); exact h0 h; rw [hc] at h; exact h32 (Option.some.inj h))]
            omega
          rw [e]
          exact ⟨_, _, rfl, rfl⟩
      · obtain ⟨t6, k10, rfl, rfl⟩ := hv
        refine st_any FM rfl (by k_dflt rfl) rfl fun h₁₀ k₁₁ F₁₀ hs₁₀ => ?_
        dsimp only
        have up10 : ∀ b o, b ≠ L → h₉.get? b = some o → h₁₀.get? b = some o := fun b o hb e => hs₁₀.extBut b o hb e
        have U10 : h₁₀.IsCell (L + 1) ov := by obtain ⟨o, ho, hd⟩ := UM; exact ⟨o, up10 _ _ (Nat.succ_ne_self L) ho, hd⟩
        obtain ⟨N, FN, N1, N2, N3, Ni, Nj1, Nj2⟩ : ∃ N, Fr g L h₁₀ N ∧ N (Str.ofString "cased_text") = some (.str a ta) ∧ N (Str.ofString "uncased_text") = some (.str b tb) ∧ N (Str.ofString "result") = some (.str res t) ∧
            N (Str.ofString "ia_ref") = some (.int (nearS a q.i1 : Nat) t6) ∧ N (Str.ofString "j1") = some (.int (q.j1 : Nat) t4) ∧ N (Str.ofString "j2") = some (.int (q.j2 : Nat) t5) :=
          ⟨_, F₁₀, by k_dflt exact M1, by k_dflt exact M2, by k_dflt exact M3, by k_dflt rfl, by k_dflt exact Mj1, by k_dflt exact Mj2⟩
        clear F₁₀ M1 M2 M3 Mt Mi1 Mi2 Mj1 Mj2 FM
        walk_at "m1"
        walk_at "m1"
        refine isTrue_call (call_isupperX rfl ?_)
        have hc : a.cps.toList[nearS a q.i1]? = some (a.cps.toList.getD (nearS a q.i1) 0) := by
          rw [List.getD_eq_getElem?_getD, List.getElem?_eq_getElem (by omega)]; rfl
        repeat walk_at "m1"
        refine c_item_s (c := a.cps.toList.getD (nearS a q.i1) 0) (by omega) (by omega) (by rw [Int.toNat_natCast]; exact hc) rfl fun t7 k12 => ?_
        refine ⟨_, _, rfl, _, rfl, ?_⟩
        have hsub := len_sub b (i := q.j1) qok.hb
        by_cases hup : Txt.isupper (sgn a (nearS a q.i1)) = true
        · refine ite_pos hup ?_
          walk_at "m1"
          refine wpAny_AugAssign_Name ?_
          refine ldnLoc FN N3 ?_
          refine c_upperX rfl ?_
          repeat walk_at "m1"
          refine c_cut_ss (by omega) (by have := qok.hj; omega) (by have := qok.hb; omega) (by omega) fun h₁₁ t8 k13 kp11 => ?_
          refine ⟨_, _, rfl, by rw [Int.toNat_natCast, Int.toNat_natCast, hsub]; have := qok.hb; omega, ?_⟩
          intro _ _ _ _ _ e t9 k14
          cases e
          refine c_iadds (by omega) ?_ fun t10 k15 => ?_
          · have := len_upper (sub b (q.j1 : Int).toNat (q.j2 : Int).toNat)
            have h2 := len_sub_le b (q.j1 : Int).toNat (q.j2 : Int).toNat
            omega
          have he : Txt.upper (sub b (q.j1 : Int).toNat (q.j2 : Int).toNat) = pieceS a b q := by rw [Int.toNat_natCast, Int.toNat_natCast, pieceS, if_neg hd, if_pos hi, if_pos hup]
          rw [he]
          refine c_st (FN.keeps kp11) rfl (by k_dflt rfl) rfl fun h₁₂ k16 F₁₂ hs₁₂ => ?_
          repeat (first | walk_at "m1" | dsimp only)
          refine ⟨.inl rfl, fin h₁₂ _ t10 _ ov F₁₂ (by k_dflt exact N1) (by k_dflt exact N2) (by k_dflt rfl) ?_ fun b o n1 n2 e => hs₁₂.extBut b o n1 (kp11 b o (up10 b o n1 e))⟩
          obtain ⟨o, ho, hdd⟩ := U10
          exact ⟨o, hs₁₂.extBut _ _ (Nat.succ_ne_self L) (kp11 _ _ ho), hdd⟩
        · refine ite_neg hup ?_
          walk_at "m1"
          refine wpAny_AugAssign_Name ?_
          refine ldnLoc FN N3 ?_
          refine c_lowerX rfl ?_
          repeat walk_at "m1"
          refine c_cut_ss (by omega) (by have := qok.hj; omega) (by have := qok.hb; omega) (by omega) fun h₁₁ t8 k13 kp11 => ?_
          refine ⟨_, _, rfl, by rw [Int.toNat_natCast, Int.toNat_natCast, hsub]; have := qok.hb; omega, ?_⟩
          intro _ _ _ _ _ e t9 k14
          cases e
          refine c_iadds (by omega) ?_ fun t10 k15 => ?_
          · have := len_lower (sub b (q.j1 : Int).toNat (q.j2 : Int).toNat)
            have h2 := len_sub_le b (q.j1 : Int).toNat (q.j2 : Int).toNat
            omega
          have he : Txt.lower (sub b (q.j1 : Int).toNat (q.j2 : Int).toNat) = pieceS a b q := by rw [Int.toNat_natCast, Int.toNat_natCast, pieceS, if_neg hd, if_pos hi, if_neg hup]
          rw [he]
          refine c_st (FN.keeps kp11) rfl (by k_dflt rfl) rfl fun h₁₂ k16 F₁₂ hs₁₂ => ?_
          repeat (first | walk_at "m1" | dsimp only)
          refine ⟨.inl rfl, fin h₁₂ _ t10 _ ov F₁₂ (by k_dflt exact N1) (by k_dflt exact N2) (by k_dflt rfl) ?_ fun b o n1 n2 e => hs₁₂.extBut b o n1 (kp11 b o (up10 b o n1 e))⟩
          obtain ⟨o, ho, hdd⟩ := U10
          exact ⟨o, hs₁₂.extBut _ _ (Nat.succ_ne_self L) (kp11 _ _ ho), hdd⟩
    refine ite_neg (by simp [hi]) ?_
    repeat walk_at "m1"
    refine eq_s ?_
    repeat walk_at "m1"
    by_cases hq : q.tag = Str.ofString "equal"
    · refine ite_pos (by simp [hq]) ?_
      walk_at "m1"
      refine wpAny_AugAssign_Name ?_
      refine ldnLoc FM M3 ?_
      repeat walk_at "m1"
      refine c_cut_ss (by omega) (by have := qok.hi; omega) (by have := qok.ha; omega) (by omega) fun h₁₁ t8 k13 kp11 => ?_
      refine c_iadds (by omega) ?_ fun t10 k15 => ?_
      · have h2 := len_sub_le a (q.i1 : Int).toNat (q.i2 : Int).toNat
        omega
      have he : sub a (q.i1 : Int).toNat (q.i2 : Int).toNat = pieceS a b q := by rw [Int.toNat_natCast, Int.toNat_natCast, pieceS, if_neg hd, if_neg hi, if_pos hq]
      rw [he]
      refine c_st (FM.keeps kp11) rfl (by k_dflt rfl) rfl fun h₁₂ k16 F₁₂ hs₁₂ => ?_
      repeat (first | walk_at "m1" | dsimp only)
      refine ⟨.inl rfl, fin h₁₂ _ t10 _ ov F₁₂ (by k_dflt exact M1) (by k_dflt exact M2) (by k_dflt rfl) ?_ fun b o n1 n2 e => hs₁₂.extBut b o n1 (kp11 b o e)⟩
      obtain ⟨o, ho, hdd⟩ := UM
      exact ⟨o, hs₁₂.extBut _ _ (Nat.succ_ne_self L) (kp11 _ _ ho), hdd⟩
    refine ite_neg (by simp [hq]) ?_
    walk_at "m1"
    walk_at "m1"
    repeat walk_at "m1"
    refine c_cut_ss (by omega) (by have := qok.hi; omega) (by have := qok.ha; omega) (by omega) fun h₁₁ t8 k13 kp11 => ?_
    refine c_st (FM.keeps kp11) rfl (by k_dflt rfl) rfl fun h₁₂ k16 F₁₂ hs₁₂ => ?_
    dsimp only
    walk_at "m1"
    walk_at "m1"
    repeat walk_at "m1"
    refine c_cut_ss (by omega) (by have := qok.hj; omega) (by have := qok.hb; omega) (by omega) fun h₁₃ t9 k17 kp13 => ?_
    refine c_st (F₁₂.keeps kp13) rfl (by k_dflt rfl) rfl fun h₁₄ k18 F₁₄ hs₁₄ => ?_
    dsimp only
    have U14 : h₁₄.IsCell (L + 1) ov := by obtain ⟨o, ho, hdd⟩ := UM; exact ⟨o, hs₁₄.extBut _ _ (Nat.succ_ne_self L) (kp13 _ _ (hs₁₂.extBut _ _ (Nat.succ_ne_self L) (kp11 _ _ ho))), hdd⟩
    have up14 : ∀ b o, b ≠ L → h₉.get? b = some o → h₁₄.get? b = some o := fun b o n1 e => hs₁₄.extBut b o n1 (kp13 b o (hs₁₂.extBut b o n1 (kp11 b o e)))
    have hcl := len_sub a (i := q.i1) qok.ha
    have hul := len_sub b (i := q.j1) qok.hb
    have hc0 := qok.rep hd hi hq
    have hpc : pieceS a b q = matchS (sub a q.i1 q.i2) (sub b q.j1 q.j2) ++ (if (sub a q.i1 q.i2).length < (sub b q.j1 q.j2).length then
      cat (((sub b q.j1 q.j2).cps.toList.drop (sub a q.i1 q.i2).length).map (one (Txt.isupper (sgn (sub a q.i1 q.i2) ((sub a q.i1 q.i2).length - 1))))) else ⟨#[]⟩) := by rw [pieceS, if_neg hd, if_neg hi, if_neg hq]
    obtain ⟨N, FN, N1, N2, N3, Nc, Nu⟩ : ∃ N, Fr g L h₁₄ N ∧ N (Str.ofString "cased_text") = some (.str a ta) ∧ N (Str.ofString "uncased_text") = some (.str b tb) ∧ N (Str.ofString "result") = some (.str res t) ∧
        N (Str.ofString "cased_seq") = some (.str (sub a q.i1 q.i2) t8) ∧ N (Str.ofString "uncased_seq") = some (.str (sub b q.j1 q.j2) t9) :=
      ⟨_, F₁₄, by k_dflt exact M1, by k_dflt exact M2, by k_dflt exact M3, by k_dflt rfl, by k_dflt rfl⟩
    have hcl1 : (sub a q.i1 q.i2).length ≤ 100 := by have := qok.ha; omega
    have hul1 : (sub b q.j1 q.j2).length ≤ 100 := by have := qok.hb; omega
    have hcl0 : 0 < (sub a q.i1 q.i2).length := by omega
    generalize sub a q.i1 q.i2 = c at hpc Nc hcl1 hcl0
    generalize sub b q.j1 q.j2 = u at hpc Nu hul1
    clear hcl hul F₁₄ F₁₂ hs₁₂ hs₁₄ FM Mt Mi1 Mi2 Mj1 Mj2 M1 M2 M3
    repeat walk_at "m1"
    refine c_len ?_ fun t10 k19 => ?_
    · omega
    repeat walk_at "m1"
    refine c_len ?_ fun t11 k20 => ?_
    · omega
    repeat walk_at "m1"
    by_cases hlen : c.length = u.length
    · refine ite_pos (by simp [hlen]) ?_
      repeat walk_at "m1"
      refine ldnLoc FN N3 ?_
      repeat walk_at "m1"
      refine nmG (v := .ref 19) X TR FN.keep (by kernel_rfl) ?_ rfl rfl rfl (by decide)
      with_reducible refine callWith_K (K := K1 w) X (by kernel_rfl) ?_ (by k_dflt rfl) (by k_dflt rfl)
      repeat walk_at "m1"
      refine ⟨X.keeps FN.keep, ?_⟩
      refine wpAny_call (matching_spec (X.keeps FN.keep) (TR.keeps FN.keep) ?_ hh hlen hcl1 ?_)
      · show A.depth + 1 < 900; omega
      intro t12 h₁₅ k21 kp15
      refine c_iadds (by omega) ?_ fun t13 k22 => ?_
      · have := len_matchS c u; omega
      have he : matchS c u = pieceS a b q := by rw [hpc, if_neg (by omega), app_nil]
      rw [he]
      refine c_st (FN.keeps kp15) rfl (by k_dflt rfl) rfl fun h₁₆ k23 F₁₆ hs₁₆ => ?_
      repeat (first | walk_at "m1" | dsimp only)
      refine ⟨.inl rfl, fin h₁₆ _ t13 _ ov F₁₆ (by k_dflt exact N1) (by k_dflt exact N2) (by k_dflt rfl) ?_ fun b o n1 n2 e => hs₁₆.extBut b o n1 (kp15 b o (up14 b o n1 e))⟩
      obtain ⟨o, ho, hdd⟩ := U14
      exact ⟨o, hs₁₆.extBut _ _ (Nat.succ_ne_self L) (kp15 _ _ ho), hdd⟩
    refine ite_neg (by simp; omega) ?_
    walk_at "m1"
    refine for_zip (a := c) (b := u) hh ?_
    repeat walk_at "m1"
    refine call_zip_strs fun h₁₅ n hn hz hTI hTO hi1 hi2 hsz' hk15 => ?_
    have hLn : @LT.lt Nat _ (L + 1) n := by obtain ⟨o, ho, _⟩ := U14; rw [hn]; exact Heap.lt_size ho
    refine ⟨n, _, _, fun j h => ∃ m t, Fr g L h m ∧ m (Str.ofString "cased_text") = some (.str a ta) ∧ m (Str.ofString "uncased_text") = some (.str b tb) ∧ m (Str.ofString "cased_seq") = some (.str c t8) ∧ m (Str.ofString "uncased_seq") = some (.str u t9) ∧
      m (Str.ofString "result") = some (.str (res ++ cat ((List.zipWith mt c.cps.toList u.cps.toList).take j)) t) ∧ h.IsCell (L + 1) ov ∧ (∀ b o, b ≠ L → h₁₄.get? b = some o → h.get? b = some o), rfl, hz, hTI, hTO, hi1, hi2,
      ⟨N, t, FN.keeps hk15, N1, N2, Nc, Nu, ?_, ?_, fun b o _ e => hk15 b o e⟩, ?_, ?_, ?_⟩
    · rw [List.take_zero, cat_nil, app_nil]; exact N3
    · obtain ⟨o, ho, hdd⟩ := U14; exact ⟨o, hk15 _ _ ho, hdd⟩
    · rintro j h h' ⟨m, t, Fm, e1, e2, e3, e4, e5, ⟨oc, hoc, hdc⟩, kp⟩ hk
      have low : ∀ b o, (h₁₄.get? b = some o ∨ b ≤ L + 1) → h.get? b = some o → h'.get? b = some o := fun b o hb e => hk b o (.inl (by
        rcases hb with hb | hb
        · rw [hn]; exact Heap.lt_size hb
        · exact Nat.lt_of_le_of_lt hb hLn)) e
      refine ⟨m, t, ⟨Fm.ns.at' fun o e => low _ o (.inr (Nat.le_succ _)) e, fun b o e => low b o (.inr ?_) (Fm.keep b o e), Fm.above⟩, e1, e2, e3, e4, e5, ⟨oc, low _ _ (.inr (Nat.le_refl _)) hoc, hdc⟩, fun b o hb e => low b o (.inl e) (kp b o hb e)⟩
      exact Nat.le_trans (Nat.le_of_lt (Nat.lt_of_lt_of_le (Heap.lt_size e) Fm.above)) (Nat.le_succ _)
    · rintro j x y tx ty T h tk hx hy ⟨m, t, Fm, e1, e2, e3, e4, e5, ⟨oc, hoc, hdc⟩, kp⟩ hT
      refine assign_Tuple_tuple hh hT rfl rfl fun h₄ he => ?_
      dsimp only
      have he' : ∀ b o, h.get? b = some o → h₄.get? b = some o := fun b o e => he b o (Nat.ne_of_lt (Heap.lt_size e)) e
      refine assignInOrder_cons (wpAny_assign_Name (c_st (Fm.keeps he') rfl (by k_dflt rfl) rfl fun h₅ k₅ F₅ hs₅ => ?_))
      refine assignInOrder_cons (wpAny_assign_Name (c_st F₅ rfl (by k_dflt rfl) rfl fun h₆ k₆ F₆ hs₆ => ?_))
      refine assignInOrder_nil ?_
      have up6 : ∀ b o, b ≠ L → h.get? b = some o → h₆.get? b = some o := fun b o hb e => hs₆.extBut b o hb (hs₅.extBut b o hb (he' b o e))
      obtain ⟨O, FO, O1, O2, O3, O4, O5, O6, O7⟩ : ∃ O, Fr g L h₆ O ∧ O (Str.ofString "cased_text") = some (.str a ta) ∧ O (Str.ofString "uncased_text") = some (.str b tb) ∧ O (Str.ofString "cased_seq") = some (.str c t8) ∧ O (Str.ofString "uncased_seq") = some (.str u t9) ∧
        O (Str.ofString "result") = some (.str (res ++ cat ((List.zipWith mt c.cps.toList u.cps.toList).take j)) t) ∧ O (Str.ofString "cased") = some (.str ⟨#[x]⟩ tx) ∧ O (Str.ofString "uncased") = some (.str ⟨#[y]⟩ ty) :=
        ⟨_, F₆, by k_dflt exact e1, by k_dflt exact e2, by k_dflt exact e3, by k_dflt exact e4, by k_dflt exact e5, by k_dflt rfl, by k_dflt rfl⟩
      have hz0 : (List.zipWith mt c.cps.toList u.cps.toList)[j]? = some (mt x y) := by rw [List.getElem?_zipWith, hx, hy]
      have hnxt : res ++ cat ((List.zipWith mt c.cps.toList u.cps.toList).take (j + 1)) = res ++ cat ((List.zipWith mt c.cps.toList u.cps.toList).take j) ++ mt x y := by
        rw [List.take_add_one, hz0, cat_append, app_assoc]
        show _ = res ++ (_ ++ _)
        congr 2
        exact cat_one _
      have hres2 : (res ++ cat ((List.zipWith mt c.cps.toList u.cps.toList).take j)).length ≤ 200000 := by
        rw [len_app]
        have h1 : (cat ((List.zipWith mt c.cps.toList u.cps.toList).take j)).length ≤ 3 * 100 := by
          refine Nat.le_trans (len_cat_le fun y hy => len_zip_mt _ _ y (List.mem_of_mem_take hy)) (Nat.mul_le_mul_left _ ?_)
          rw [List.length_take, List.length_zipWith]
          have : c.cps.toList.length = c.length := by simp [Str.length]
          omega
        omega
      generalize res ++ cat ((List.zipWith mt c.cps.toList u.cps.toList).take j) = res2 at e5 O5 hnxt hres2
      have hmt := len_mt x y
      repeat walk_at "m1"
      refine ldnLoc FO O5 ?_
      refine wpAny_mono (Q := fun v s' => ∃ t' k', v = Value.str (mt x y) t' ∧ s' = ⟨h₆, s.gens, s.drawn, k', s.os⟩) ?_ (fun v s' hv => ?_) (fun _ _ x => x)
      · repeat walk_at "m1"
        refine isTrue_call (call_isupper rfl ?_)
        repeat walk_at "m1"
        refine ⟨_, _, rfl, _, rfl, ?_⟩
        by_cases hc : Txt.isupper ⟨#[x]⟩ = true
        · refine ite_pos hc (c_upper rfl ?_)
          repeat walk_at "m1"
          refine ⟨_, _, rfl, by show 1 ≤ _; decide, ?_⟩
          intro _ _ _ _ _ e t9 k14
          cases e
          exact ⟨t9, k14, by rw [mt, if_pos hc], rfl⟩
        · refine ite_neg hc (c_lower rfl ?_)
          repeat walk_at "m1"
          refine ⟨_, _, rfl, by show 1 ≤ _; decide, ?_⟩
          intro _ _ _ _ _ e t9 k14
          cases e
          exact ⟨t9, k14, by rw [mt, if_neg hc], rfl⟩
      · obtain ⟨t10, k10, rfl, rfl⟩ := hv
        refine c_iadds (by omega) (by omega) fun t11 k11 => ?_
        refine c_st FO rfl (by k_dflt rfl) rfl fun h₇ k₇ F₇ hs₇ => ?_
        repeat (first | walk_at "m1" | dsimp only)
        refine ⟨.inl rfl, h₇, _, rfl, ⟨_, t11, F₇, by k_dflt exact O1, by k_dflt exact O2, by k_dflt exact O3, by k_dflt exact O4, ?_, ⟨oc, hs₇.extBut _ _ (Nat.succ_ne_self L) (up6 _ _ (Nat.succ_ne_self L) hoc), hdc⟩, fun b o n1 e => hs₇.extBut b o n1 (up6 b o n1 (kp b o n1 e))⟩, ?_⟩
        · rw [hnxt]; k_dflt rfl
        · intro b o h1 h2 e
          have : b ≠ L := fun q => by rw [q] at h1; exact absurd (Nat.lt_of_lt_of_le (Nat.lt_of_succ_lt hLn) h1) (Nat.lt_irrefl _)
          exact hs₇.extBut b o this (up6 b o this e)
    · rintro h tk ⟨m, t, Fm, e1, e2, e3, e4, e5, Uc, kp⟩
      have hzl : (List.zipWith mt c.cps.toList u.cps.toList).take (min c.cps.size u.cps.size) = List.zipWith mt c.cps.toList u.cps.toList := List.take_of_length_le (by rw [List.length_zipWith]; simp)
      rw [hzl] at e5
      change m (Str.ofString "result") = some (.str (res ++ matchS c u) t) at e5
      have hms := len_matchS c u
      have kp' : ∀ b o, b ≠ L → h₉.get? b = some o → h.get? b = some o := fun b o n1 e => kp b o n1 (up14 b o n1 e)
      dsimp only
      repeat walk_at "m1"
      refine c_len ?_ fun t10 k19 => ?_
      · omega
      repeat walk_at "m1"
      refine c_len ?_ fun t11 k20 => ?_
      · omega
      repeat walk_at "m1"
      by_cases hlt : c.length < u.length
      · rw [if_pos hlt] at hpc
        refine ite_pos (by simp [hlt]) ?_
        walk_at "m1"
        walk_at "m1"
        refine call_isupperX rfl ?_
        repeat walk_at "m1"
        have hlc : c.cps.toList[c.length - 1]? = some (c.cps.toList.getD (c.length - 1) 0) := by
          have : c.cps.toList.length = c.length := by simp [Str.length]
          rw [List.getD_eq_getElem?_getD, List.getElem?_eq_getElem (by omega)]; rfl
        refine c_item_s1 (by omega) hlc rfl fun t12 k21 => ?_
        refine ⟨_, _, rfl, ?_⟩
        refine wpAny_storeName_cell rfl rfl rfl Uc fun h₁₆ U16 hs16 => ?_
        have F16 : Fr g L h₁₆ m := ⟨Fm.ns.sameBut hs16 (Nat.ne_of_lt (Nat.lt_succ_self L)), fun b o e => hs16.extBut b o (Nat.ne_of_lt (Nat.lt_succ_of_lt (Nat.lt_of_lt_of_le (Heap.lt_size e) Fm.above))) (Fm.keep b o e), Fm.above⟩
        change h₁₆.IsCell (L + 1) (some (.bool (Txt.isupper (sgn c (c.length - 1))))) at U16
        generalize Txt.isupper (sgn c (c.length - 1)) = up at U16 hpc
        dsimp only
        walk_at "m1"
        repeat walk_at "m1"
        refine c_len ?_ fun t13 k22 => ?_
        · omega
        refine c_st F16 rfl (by k_dflt rfl) rfl fun h₁₇ k23 F17 hs17 => ?_
        have U17 : h₁₇.IsCell (L + 1) (some (.bool up)) := by obtain ⟨o, ho, hdd⟩ := U16; exact ⟨o, hs17.extBut _ _ (Nat.succ_ne_self L) ho, hdd⟩
        dsimp only
        walk_at "m1"
        walk_at "m1"
        refine ldnLoc (v := .str (res ++ matchS c u) t) F17 (by k_dflt exact e5) ?_
        refine c_join rfl fun t14 => ?_
        refine comp_str (one up) (cl := [(Str.ofString "upper", L + 1)]) (by rfl) (by decide) rfl (by decide) rfl hh ?_
        repeat walk_at "m1"
        refine c_cut_sn (by omega) (by omega) (by omega) fun h₁₈ t15 k24 kp18 => ?_
        have U18 : h₁₈.IsCell (L + 1) (some (.bool up)) := by obtain ⟨o, ho, hdd⟩ := U17; exact ⟨o, kp18 _ _ ho, hdd⟩
        have hsl := len_sub_le u (c.length : Int).toNat u.length
        have hsub : (sub u (c.length : Int).toNat u.length).cps.toList = u.cps.toList.drop c.length := by
          rw [Int.toNat_natCast]
          show ((u.cps.toList.drop c.length).take (u.length - c.length)).toArray.toList = _
          rw [List.take_of_length_le (by rw [List.length_drop]; simp [Str.length])]
        refine ⟨_, _, rfl, ?_, ?_, ?_⟩
        · show (sub u (c.length : Int).toNat u.length).length ≤ _
          exact Nat.le_trans hsl (Nat.le_trans hul1 (by decide))
        · intro C d td s₃ m₃ E' hd hn3 hm1 hk3
          have Us : s₃.heap.IsCell (L + 1) (some (.bool up)) := by obtain ⟨o, ho, hdd⟩ := U18; exact ⟨o, hk3 _ _ ho, hdd⟩
          refine wpAny_IfExp (isTrue_nm ?_)
          refine ldCellK rfl Us ?_ (by k_dflt rfl) (by k_dflt rfl) (by decide)
          refine wpAny_truthy_bool ?_
          cases up
          · refine ite_neg (by decide) (call_lower rfl ?_)
            walk_at "m1"
            refine ⟨_, _, rfl, by show 1 ≤ _; decide, fun t' k => ⟨⟨t', ?_⟩, _, _, rfl, fun _ _ e => e⟩⟩
            rw [one, if_neg (by decide)]
          · refine ite_pos rfl (call_upper rfl ?_)
            walk_at "m1"
            refine ⟨_, _, rfl, by show 1 ≤ _; decide, fun t' k => ⟨⟨t', ?_⟩, _, _, rfl, fun _ _ e => e⟩⟩
            rw [one, if_pos rfl]
        · intro D h19 tk ys hD hl hP hk19
          rw [hsub] at hP
          have hlen3 : ∀ y ∈ (u.cps.toList.drop c.length).map (one up), y.length ≤ 3 := fun y hy => by
            obtain ⟨d, _, rfl⟩ := List.mem_map.mp hy
            exact len_one _ _
          have hcnt : ((u.cps.toList.drop c.length).map (one up)).length ≤ 100 := by
            rw [List.length_map, List.length_drop]
            have : u.cps.toList.length = u.length := by simp [Str.length]
            omega
          refine ⟨D, ys, _, rfl, hl.isList, hP, fun y hy => Nat.le_trans (hlen3 y hy) (by decide), Nat.le_trans hcnt (by decide), ?_⟩
          intro _ _ _ _ _ e t16 k25
          cases e
          have hcat := len_cat_le hlen3
          have hap := len_app res (matchS c u)
          refine c_iadds (by omega) (by omega) fun t17 k26 => ?_
          rw [app_assoc, ← hpc]
          refine c_st ((F17.keeps kp18).keeps hk19) rfl (by k_dflt rfl) rfl fun h₂₀ k27 F20 hs20 => ?_
          repeat (first | walk_at "m1" | dsimp only)
          refine ⟨.inl rfl, fin h₂₀ _ t17 _ (some (.bool up)) F20 (by k_dflt exact e1) (by k_dflt exact e2) (by k_dflt rfl) ?_ fun b o n1 n2 e => hs20.extBut b o n1 (hk19 b o (kp18 b o (hs17.extBut b o n1 (hs16.extBut b o n2 (kp' b o n1 e)))))⟩
          obtain ⟨o, ho, hdd⟩ := U18
          exact ⟨o, hs20.extBut _ _ (Nat.succ_ne_self L) (hk19 _ _ ho), hdd⟩
      · rw [if_neg hlt, app_nil] at hpc
        refine ite_neg (by simp; omega) ?_
        repeat (first | walk_at "m1" | dsimp only)
        exact ⟨.inl rfl, fin h m t _ ov Fm e1 e2 (by rw [hpc]; exact e5) Uc fun b o n1 n2 e => kp' b o n1 e⟩
  · rintro h tk ⟨m, t, ov, Fm, e1, e2, e3, U, kp⟩
    have hps' : ps.take items.size = ps := List.take_of_length_le (by have := paired_len hP; simp at this; omega)
    rw [hps'] at e3
    dsimp only
    repeat (first | walk_at "m1" | dsimp only)
    refine hR t h _ fun b o hb e => ?_
    have hbs : b < L := hL ▸ Heap.lt_size e
    exact kp b o (Nat.ne_of_lt hbs) (Nat.ne_of_lt (Nat.lt_succ_of_lt hbs)) (hk₃ b o hb (kp₂ b o e))
end Mine
end

section
open PySem.Calls
namespace Mine
set_option maxRecDepth 100000
local macro_rules | `(tactic| walk_at "m1") => `(tactic| first
  | with_reducible refine wpAny_execs_cons ?_
  | with_reducible refine wpAny_execs_nil ?_
  | with_reducible refine wpAny_Return_some ?_
  | with_reducible refine wpAny_If ?_
  | ((with_reducible show wpAny _ _ (PySem.isTrue (Expr.Compare _ _ _ _) _ _) _ _ _); with_reducible refine wpAny_isTrue_Compare1 ?_ (by k_dflt rfl))
  | with_reducible refine wpAny_isTrue_Not ?_
  | with_reducible refine wpAny_isTrue_BoolOp ?_
  | with_reducible refine wpAny_allTrue_Or_cons ?_
  | with_reducible refine wpAny_allTrue_Or_nil ?_
  | with_reducible refine wpAny_allTrue_And_cons ?_
  | with_reducible refine wpAny_allTrue_And_nil ?_
  | with_reducible refine wpAny_UnaryOp ?_
  | with_reducible refine c_neg fun _ _ => ?_
  | with_reducible refine isTrue_nm ?_
  | with_reducible refine wpAny_Continue ?_
  | with_reducible refine assignInOrder_cons ?_
  | with_reducible refine assignInOrder_nil ?_
  | with_reducible refine wpAny_assign_Name ?_
  | ((with_reducible show wpAny _ _ (eval (Expr.Compare _ _ _ _) _) _ _ _); with_reducible refine wpAny_Compare1 ?_ (by k_dflt rfl))
  | with_reducible refine wpAny_BinOp ?_
  | with_reducible refine wpAny_IfExp ?_
  | with_reducible refine c_int fun _ _ => ?_
  | with_reducible refine c_str fun _ _ => ?_
  | with_reducible refine wpAny_Constant_bool ?_
  | with_reducible refine wpAny_Constant_none ?_
  | with_reducible refine wpAny_truthy_bool ?_
  | with_reducible refine Subscript_ ?_
  | with_reducible refine c_slice ?_
  | ((with_reducible show ∀ (_ : Heap) (_ : Array GenState) (_ : Drawn) (_ : Nat) (_ : OsState), Shared.mk _ _ _ _ _ = _ → _); intro _ _ _ _ _ e; cases e)
  | with_reducible refine evalPart_none_step ?_
  | with_reducible refine evalPart_some_step ?_
  | with_reducible refine spliced_none ?_
  | ((with_reducible show wpAny _ _ (spliced _) _ _ _); with_reducible refine spliced_more ?_ (by k_dflt rfl))
  | with_reducible refine wpAny_Call_NameR ?_
  | ((with_reducible show wpAny _ _ (callWith _ _ _ _ _) _ _ _); with_reducible refine callWith_builtin1 ?_ (by k_dflt rfl) (by k_dflt rfl))
  | ((with_reducible show wpAny _ _ (callWith _ _ _ _ _) _ _ _); with_reducible refine callWith_type1 ?_ (by k_dflt rfl) (by k_dflt rfl))
  | ((with_reducible show wpAny _ _ (callWith _ _ _ _ _) _ _ _); with_reducible refine callWith_method0 ?_)
  | ((with_reducible show wpAny _ _ (callWith _ _ _ _ _) _ _ _); with_reducible refine callWith_method1 ?_ (by k_dflt rfl) (by k_dflt rfl))
  | with_reducible refine P.ne_int ?_
  | with_reducible refine P.eq_int ?_
  | with_reducible refine P.lt_int ?_
  | with_reducible refine P.gt_int ?_
  | with_reducible refine c_sub fun _ _ => ?_
  | with_reducible refine c_add fun _ _ => ?_
  | ((with_reducible show wpAny _ _ (exec (Stmt.Assign _ _ _) _) _ _ _); with_reducible refine wpAny_Assign_Name ?_ (by k_dflt rfl))
  | with_reducible refine wpAny_AugAssign_Name ?_
  | walk_at "mname")
local macro_rules | `(tactic| walk_at "mname") => `(tactic| first
  | ((with_reducible show wpAny _ _ (eval (Expr.Name _ _) _) _ _ _); with_reducible refine ld (by assumption) (by first | k_dflt rfl | k_dflt assumption) ?_ (by k_dflt rfl) (by k_dflt rfl) (by decide))
  | ((with_reducible show wpAny _ _ (eval (Expr.Name _ _) _) _ _ _); with_reducible refine ldLoc (by assumption) (by first | k_dflt rfl | k_dflt assumption) ?_ (by k_dflt rfl) (by k_dflt rfl) (by decide))
  | ((with_reducible show wpAny _ _ (eval (Expr.Name _ _) _) _ _ _); with_reducible refine ldC (by assumption) (by k_dflt rfl) (by k_dflt rfl) ?_ (by k_dflt rfl) (by k_dflt rfl) (by decide))
  | ((with_reducible show wpAny _ _ (eval (Expr.Name _ _) _) _ _ _); with_reducible refine ldVarK (by k_dflt assumption) (by assumption) ?_ (by k_dflt rfl) (by k_dflt rfl) (by decide))
  | ((with_reducible show wpAny _ _ (eval (Expr.Name _ _) _) _ _ _); with_reducible refine nmB (by assumption) (by assumption) (by first | assumption | exact Fr.keep (by assumption)) (by kernel_rfl) (by boot_by_name) (by decide) ?_ (by k_dflt rfl) (by k_dflt rfl) (by k_dflt rfl) (by k_dflt rfl) (by decide))
  | ((with_reducible show wpAny _ _ (eval (Expr.Name _ _) _) _ _ _); with_reducible refine nmG (by assumption) (by assumption) (by first | assumption | exact Fr.keep (by assumption)) (by kernel_rfl) ?_ (by k_dflt rfl) (by k_dflt rfl) (by k_dflt rfl) (by decide)))


theorem enter_defE {prog : Program} {w : World} {A : Around} {s : Shared} {K : Frag} {R : Result → Shared → Prop} {name qual : Str} {params : Arguments} {body : List Stmt} {scope : Scope} {dV kV doc pm cdv ct oc : Value} {an od : Option Addr} {osl : Array (Option Value)} {f : Addr} {args : Args} (binds : List (Str × Value))
    (X : K.In s.heap) (hlim : s.heap.NoLimit) (ho : K.lookup f = some ⟨oc, od, .func (fnOf name qual params body scope dV kV doc pm an cdv ct), osl⟩) (hcd : codeIn K cdv qual = true) (hroom : A.depth < recursionLimit)
    (hbind : BindsTo s (fnOf name qual params body scope dV kV doc pm an cdv ct) args binds) (hloc : ∀ y ∈ binds, scope.names.lookup y.1 = some .local) (hcell : ∀ x ∈ scope.names, x.2 ≠ .cell)
    (hco : scope.isCoroutine = false) (hgen : scope.isGenerator = false) (hk : scope.kind = .function)
    (h : ∀ (L : Nat) (h₁ : Heap), L = s.heap.objs.size → Fr s.heap L h₁ (fun y => binds.reverse.lookup y) →
      wpAny (model prog w) (A.deeper (envOf qual scope L f cdv)) (execs body (envOf qual scope L f cdv))
        (fun fl s' => R (.ok (.ret (match fl with | .ret v => v | _ => .none))) s') (fun e s' => wpAny (model prog w) (A.deeper (envOf qual scope L f cdv)) (leaving (envOf qual scope L f cdv) e) (fun _ s'' => R (.error e) s'') (fun e' s'' => R (.error e') s'') s')
        { s with heap := h₁, toks := s.toks + binds.length }) :
    codeAny (model prog w) A (.call (.ref f) args) R s := by
  refine codeAny_call_def (fd := fnOf name qual params body scope dV kV doc pm an cdv ct) (body := body) (binds := binds) hroom (X _ _ ho) rfl hlim (codeRec_of X hcd) rfl hbind hcell hloc (fun h₁ hns hk₁ => ?_) hco hgen hk
  exact h _ h₁ rfl ⟨hns, hk₁, Nat.le_refl _⟩

theorem matching_raises {w : World} {A : Around} {R : Result → Shared → Prop} {s : Shared} {mg mb : Str → Option Value} {p : Program} {loose : List Str} {a b : Str} {ta tb : Tok} {env₀ : Env} {L₀ : Addr} {o₀ : Obj}
    (X : (K1 w).In s.heap) (T : TopRead p loose mg mb s.heap) (hroom : A.depth < 900) (hh : A.handled = none) (hA : A.frames = some [env₀]) (hf₀ : env₀.frame = some L₀) (hk₀ : env₀.scope.kind ≠ .module)
    (hL₀ : s.heap.get? L₀ = some o₀) (hd₀ : ∀ vs, o₀.data ≠ .fields vs) (hlen : a.length ≠ b.length) (hsz : a.length ≤ 100) (hsz2 : b.length ≤ 100)
    (h : ∀ h' k e a0, Heap.FlyingW (s.heap.hide L₀) [env₀] e (.type "ValueError") a0 h' → s.heap.UpToSlots h' → R (.error (.ref e)) { s with heap := h', toks := k })
    : codeAny (model P1 w) A (.call (.ref 19) ⟨[.str a ta, .str b tb], []⟩) R s := by
  refine enter_defE (K := K1 w) [("cased_text", .str a ta), ("uncased_text", .str b tb)] X T.nolimit (by rfl) (by kernel_rfl) (Nat.lt_of_lt_of_le hroom (by decide)) (BindsTo.of_eq rfl) (by exact locs rfl) (by decide) rfl rfl rfl ?_
  intro L h₁ hL F
  repeat walk_at "m1"
  refine c_len ?_ fun t k => ?_
  · omega
  repeat walk_at "m1"
  refine c_len ?_ fun t k => ?_
  · omega
  repeat walk_at "m1"
  refine ite_pos (by simp; omega) ?_
  repeat walk_at "m1"
  refine Raise_madeB PySem.F.excCall_ValueError PySem.F.excRaise_ValueError hh ?_
  refine nmB (v := .type "ValueError") X T F.keep (by kernel_rfl) PyProof.Rows.Boot.«ValueError» (by decide) ⟨rfl, ?_⟩ rfl rfl rfl rfl (by decide)
  repeat walk_at "m1"
  refine ⟨by simp only [List.length_cons, List.length_nil]; decide, fun h' e hm => ?_⟩
  obtain ⟨oL, es, ep, hoL, hdL, _⟩ := F.ns
  have hLL : L₀ ≠ L := Nat.ne_of_lt (hL ▸ Heap.lt_size hL₀)
  refine wpAny_leaves_madeW (base := s.heap.hide L₀) (outer := [env₀]) (L := L) (Around.frames_deeper hA) rfl ?_ ?_ hm.of fun h'' t f1 f2 f3 f4 => ?_
  · intro b o e
    exact F.keep b o (Heap.of_hide e)
  · refine ⟨(by decide : ScopeKind.function ≠ ScopeKind.module), ⟨L, oL, rfl, ?_, hoL, fun vs q => by rw [hdL] at q; cases q⟩, hk₀, ⟨L₀, o₀, hf₀, Heap.hide_self _ _, F.keep _ _ hL₀, hd₀⟩, trivial⟩
    exact Heap.get?_none_of_le (by rw [Heap.hide_size, hL]; exact Nat.le_refl _)
  · exact h h'' _ e _ f1 (((Heap.UpToSlots.of_keeps F.keep).trans (Heap.UpToSlots.of_keeps hm.keeps)).trans f4)

theorem caughtV {w : World} {A : Around} {s' : Shared} {g h : Heap} {L e : Addr} {a0 : Value} {m : Str → Option Value} {env : Env} {Q : Flow → Shared → Prop} {E : Value → Shared → Prop} {np pos : Pos} {b₀ : Stmt} {suite : List Stmt} {rest : List ExceptHandler}
    (hA : A.frames = some [env]) (hf : env.frame = some L) (F : Fr g L h m) (hfl : Heap.FlyingW (h.hide L) [env] e (.type "ValueError") a0 s'.heap) (hsm : h.UpToSlots s'.heap)
    (hld : ∀ (A' : Around) (s₂ : Shared) (Q : Value → Shared → Prop) (E : Value → Shared → Prop), Fr g L s₂.heap m → Q (.type "ValueError") s₂ → wpAny (model P1 w) A' (eval (.Name (Str.ofString "ValueError") np) env) Q E s₂)
    (k : ∀ h', Fr g L h' m → (∀ b o, b ≠ L → h.get? b = some o → h'.get? b = some o) → wpAny (model P1 w) (A.mark (some (.ref e))) (execs (b₀ :: suite) env) Q (fun _ _ => False) { s' with heap := h' }) :
    wpAny (model P1 w) A (noteFrame (.ref e) env) (fun _ s₂ => wpAny (model P1 w) A (setFlight (.ref e) none) (fun _ s₃ =>
        wpAny (model P1 w) A (handleBy (.ref e) env (.ExceptHandler (some (.Name (Str.ofString "ValueError") np)) none (b₀ :: suite) pos :: rest)) Q E s₃) E s₂) E s' := by
  have up : ∀ {h' : Heap}, (h.hide L).StaysIn h' → ∀ b o, b ≠ L → h.get? b = some o → h'.get? b = some o := fun st b o hb e => st b o ((Heap.hide_ne h hb).trans e)
  have gst : ∀ {h' : Heap}, (h.hide L).StaysIn h' → g.StaysIn h' := fun st b o e => up st b o (Nat.ne_of_lt (Nat.lt_of_lt_of_le (Heap.lt_size e) F.above)) (F.keep b o e)
  refine wpAny_looks_onW hA hf hfl fun h₄ hheld₄ hsm₄ => ?_
  refine wpAny_landsW hheld₄ fun h₅ hheld hsm₅' => ?_
  have hsm₅ := hsm₄.trans hsm₅'
  have F₅ : Fr g L h₅ m := F.of_stays (gst hheld.1) (hsm.trans hsm₅)
  obtain ⟨ob, hob, hobc⟩ := hheld.there
  refine wpAny_handleBy_builtin (X := "ValueError") (T := "ValueError") (b := true) PySem.F.isExc_ValueError PySem.F.notTuple_ValueError (by rw [isSubtype_type]; kernel_rfl) (hld _ _ _ _ F₅ ⟨rfl, ⟨ob, hob, hobc⟩, ?_⟩)
  refine lands_againW hheld fun h₆ hfl₆ hsm₆ => ?_
  exact wpAny_mono (k h₆ (F.of_stays (gst hfl₆.1) ((hsm.trans hsm₅).trans hsm₆)) (up hfl₆.1)) (fun _ _ x => x) fun _ _ x => x.elim
end Mine
end

section
open PySem.Calls
namespace Mine
set_option maxRecDepth 100000
local macro_rules | `(tactic| walk_at "m1") => `(tactic| first
  | with_reducible refine wpAny_execs_cons ?_
  | with_reducible refine wpAny_execs_nil ?_
  | with_reducible refine wpAny_Return_some ?_
  | with_reducible refine wpAny_If ?_
  | with_reducible refine wpAny_isTrue_Compare1 ?_ (by k_dflt rfl)
  | with_reducible refine wpAny_isTrue_Not ?_
  | with_reducible refine wpAny_isTrue_BoolOp ?_
  | with_reducible refine wpAny_allTrue_Or_cons ?_
  | with_reducible refine wpAny_allTrue_Or_nil ?_
  | with_reducible refine wpAny_allTrue_And_cons ?_
  | with_reducible refine wpAny_allTrue_And_nil ?_
  | with_reducible refine wpAny_UnaryOp ?_
  | with_reducible refine c_neg fun _ _ => ?_
  | with_reducible refine isTrue_nm ?_
  | with_reducible refine wpAny_Continue ?_
  | with_reducible refine assignInOrder_cons ?_
  | with_reducible refine assignInOrder_nil ?_
  | with_reducible refine wpAny_assign_Name ?_
  | with_reducible refine wpAny_Compare1 ?_ (by k_dflt rfl)
  | with_reducible refine wpAny_BinOp ?_
  | with_reducible refine wpAny_IfExp ?_
  | with_reducible refine c_int fun _ _ => ?_
  | with_reducible refine c_str fun _ _ => ?_
  | with_reducible refine wpAny_Constant_bool ?_
  | with_reducible refine wpAny_Constant_none ?_
  | with_reducible refine wpAny_truthy_bool ?_
  | with_reducible refine Subscript_ ?_
  | with_reducible refine c_slice ?_
  | ((with_reducible show ∀ (_ : Heap) (_ : Array GenState) (_ : Drawn) (_ : Nat) (_ : OsState), Shared.mk _ _ _ _ _ = _ → _); intro _ _ _ _ _ e; cases e)
  | with_reducible refine evalPart_none_step ?_
  | with_reducible refine evalPart_some_step ?_
  | with_reducible refine spliced_none ?_
  | with_reducible refine spliced_more ?_ (by k_dflt rfl)
  | with_reducible refine wpAny_Call_NameR ?_
  | with_reducible refine callWith_builtin1 ?_ (by k_dflt rfl) (by k_dflt rfl)
  | with_reducible refine callWith_type1 ?_ (by k_dflt rfl) (by k_dflt rfl)
  | with_reducible refine callWith_method0 ?_
  | with_reducible refine callWith_method1 ?_ (by k_dflt rfl) (by k_dflt rfl)
  | with_reducible refine P.ne_int ?_
  | with_reducible refine P.eq_int ?_
  | with_reducible refine P.lt_int ?_
  | with_reducible refine P.gt_int ?_
  | with_reducible refine c_sub fun _ _ => ?_
  | with_reducible refine c_add fun _ _ => ?_
  | with_reducible refine wpAny_Assign_Name ?_ (by k_dflt rfl)
  | with_reducible refine wpAny_AugAssign_Name ?_
  | walk_at "mname")
local macro_rules | `(tactic| walk_at "mname") => `(tactic| first
  | with_reducible refine ld (by assumption) (by first | k_dflt rfl | k_dflt assumption) ?_ (by k_dflt rfl) (by k_dflt rfl) (by decide)
  | with_reducible refine ldLoc (by assumption) (by first | k_dflt rfl | k_dflt assumption) ?_ (by k_dflt rfl) (by k_dflt rfl) (by decide)
  | with_reducible refine ldC (by assumption) (by k_dflt rfl) (by k_dflt rfl) ?_ (by k_dflt rfl) (by k_dflt rfl) (by decide)
  | with_reducible refine ldVarK (by k_dflt assumption) (by assumption) ?_ (by k_dflt rfl) (by k_dflt rfl) (by decide)
  | with_reducible refine nmB (by assumption) (by assumption) (by first | assumption | exact Fr.keep (by assumption)) (by kernel_rfl) (by boot_by_name) (by decide) ?_ (by k_dflt rfl) (by k_dflt rfl) (by k_dflt rfl) (by k_dflt rfl) (by decide)
  | with_reducible refine nmG (by assumption) (by assumption) (by first | assumption | exact Fr.keep (by assumption)) (by kernel_rfl) ?_ (by k_dflt rfl) (by k_dflt rfl) (by k_dflt rfl) (by decide))

def CT : List (Nat × Bool) := [(65, true), (98, false), (1071, true), (1076, false), (916, true), (453, false), (8551, true), (55, false), (32, false), (39, false)]
def PT : List (Nat × Str × Str) := [(97, ⟨#[65]⟩, ⟨#[97]⟩), (223, ⟨#[83, 83]⟩, ⟨#[223]⟩), (1103, ⟨#[1071]⟩, ⟨#[1103]⟩), (64257, ⟨#[70, 73]⟩, ⟨#[64257]⟩), (305, ⟨#[73]⟩, ⟨#[305]⟩), (81, ⟨#[81]⟩, ⟨#[113]⟩), (55, ⟨#[55]⟩, ⟨#[55]⟩), (45, ⟨#[45]⟩, ⟨#[45]⟩)]
def CasR (v : Value) (r : Nat × Bool) : Prop := ∃ k, v = .ref (25 + k) ∧ CT[k]? = some r
def PlaR (v : Value) (r : Nat × Str × Str) : Prop := ∃ k, v = .ref (36 + k) ∧ PT[k]? = some r
def pick (c : Nat × Bool) (p : Nat × Str × Str) : Str := if c.2 = true then p.2.1 else p.2.2
def carry (cs : List (Nat × Bool)) (ps : List (Nat × Str × Str)) : List Str := List.zipWith pick cs ps
theorem cas_row {w : World} {h : Heap} (X : (K1 w).In h) : ∀ {k : Nat} {r : Nat × Bool}, CT[k]? = some r → ∃ t, IsTup h (25 + k) #[.str ⟨#[r.1]⟩ t, .bool r.2]
  | 0, _, e => by cases Option.some.inj e; exact ⟨_, _, X 25 _ (by rfl), rfl, _, by rfl⟩
  | 1, _, e => by cases Option.some.inj e; exact ⟨_, _, X 26 _ (by rfl), rfl, _, by rfl⟩
  | 2, _, e => by cases Option.some.inj e; exact ⟨_, _, X 27 _ (by rfl), rfl, _, by rfl⟩
  | 3, _, e => by cases Option.some.inj e; exact ⟨_, _, X 28 _ (by rfl), rfl, _, by rfl⟩
  | 4, _, e => by cases Option.some.inj e; exact ⟨_, _, X 29 _ (by rfl), rfl, _, by rfl⟩
  | 5, _, e => by cases Option.some.inj e; exact ⟨_, _, X 30 _ (by rfl), rfl, _, by rfl⟩
  | 6, _, e => by cases Option.some.inj e; exact ⟨_, _, X 31 _ (by rfl), rfl, _, by rfl⟩
  | 7, _, e => by cases Option.some.inj e; exact ⟨_, _, X 32 _ (by rfl), rfl, _, by rfl⟩
  | 8, _, e => by cases Option.some.inj e; exact ⟨_, _, X 33 _ (by rfl), rfl, _, by rfl⟩
  | 9, _, e => by cases Option.some.inj e; exact ⟨_, _, X 34 _ (by rfl), rfl, _, by rfl⟩
  | k + 10, _, e => by simp [CT] at e
theorem pla_row {w : World} {h : Heap} (X : (K1 w).In h) : ∀ {k : Nat} {r : Nat × Str × Str}, PT[k]? = some r → ∃ t u v, IsTup h (36 + k) #[.str ⟨#[r.1]⟩ t, .str r.2.1 u, .str r.2.2 v]
  | 0, _, e => by cases Option.some.inj e; exact ⟨_, _, _, _, X 36 _ (by rfl), rfl, _, by rfl⟩
  | 1, _, e => by cases Option.some.inj e; exact ⟨_, _, _, _, X 37 _ (by rfl), rfl, _, by rfl⟩
  | 2, _, e => by cases Option.some.inj e; exact ⟨_, _, _, _, X 38 _ (by rfl), rfl, _, by rfl⟩
  | 3, _, e => by cases Option.some.inj e; exact ⟨_, _, _, _, X 39 _ (by rfl), rfl, _, by rfl⟩
  | 4, _, e => by cases Option.some.inj e; exact ⟨_, _, _, _, X 40 _ (by rfl), rfl, _, by rfl⟩
  | 5, _, e => by cases Option.some.inj e; exact ⟨_, _, _, _, X 41 _ (by rfl), rfl, _, by rfl⟩
  | 6, _, e => by cases Option.some.inj e; exact ⟨_, _, _, _, X 42 _ (by rfl), rfl, _, by rfl⟩
  | 7, _, e => by cases Option.some.inj e; exact ⟨_, _, _, _, X 43 _ (by rfl), rfl, _, by rfl⟩
  | k + 8, _, e => by simp [PT] at e

theorem isTup_up {h h' : Heap} {D : Addr} {v : Array Value} (x : IsTup h D v) (k : ∀ b o, h.get? b = some o → h'.get? b = some o) : IsTup h' D v := by obtain ⟨o, ho, r⟩ := x; exact ⟨o, k _ _ ho, r⟩
theorem isList_up {h h' : Heap} {D : Addr} {v : Array Value} (x : h.IsList D v) (k : ∀ b o, h.get? b = some o → h'.get? b = some o) : h'.IsList D v := by obtain ⟨o, ho, r⟩ := x; exact ⟨o, k _ _ ho, r⟩
theorem paired_of_get {α : Type} {R : Value → α → Prop} : ∀ {vs : List Value} {as : List α}, vs.length = as.length → (∀ (i : Nat) (v : Value), vs[i]? = some v → ∃ a, as[i]? = some a ∧ R v a) → Paired R vs as
  | [], [], _, _ => .nil
  | v :: vs, a :: as, hl, h => by
    obtain ⟨a', e, r⟩ := h 0 v rfl
    injection e with e; subst e
    exact .cons r (paired_of_get (by simpa using hl) fun i v e => by simpa using h (i + 1) v (by simpa using e))
  | [], _ :: _, hl, _ => by cases hl
  | _ :: _, [], hl, _ => by cases hl
set_option maxHeartbeats 4000000 in
theorem one_piece_spec {w : World} {A : Around} {s : Shared} {mg mb : Str → Option Value} {p : Program} {loose : List Str} {x b : Str} {t1 t2 : Tok} {Q : Value → Shared → Prop}
    (X : (K1 w).In s.heap) (T : TopRead p loose mg mb s.heap) (hroom : A.depth < 900) (hx : x.length ≤ 1000) (hb : b.length ≤ 1000)
    (h : ∀ l items h'' k'', s.heap.get? l = none → h''.IsList l items → Paired (TupP h'') items.toList [⟨Str.ofString "replace", 0, x.length, 0, b.length⟩] → (∀ b o, s.heap.get? b = some o → h''.get? b = some o) → Q (.ref l) { s with heap := h'', toks := k'' }) :
    wpAny (model P1 w) A (call (.ref 51) [.str x t1, .str b t2]) Q (fun _ _ => False) s := by
  refine wpAny_call (enter_def (K := K1 w) [("one", .str x t1), ("two", .str b t2)] X T.nolimit (by rfl) (by kernel_rfl) (Nat.lt_of_lt_of_le hroom (by decide)) (BindsTo.of_eq rfl) (by exact locs rfl) (by decide) rfl rfl rfl ?_)
  intro L h₁ hL F
  repeat walk_at "m1"
  refine c_list ?_
  repeat walk_at "m1"
  refine c_tuple ?_
  repeat walk_at "m1"
  refine c_len ?_ fun t k => ?_
  · omega
  repeat walk_at "m1"
  refine c_len ?_ fun t k => ?_
  · omega
  repeat walk_at "m1"
  refine ⟨by simp, ?_⟩
  intro _ _ _ _ _ e D h₂ hD hT k2
  cases e
  repeat walk_at "m1"
  refine ⟨by simp, ?_⟩
  intro _ _ _ _ _ e D₂ h₃ hD₂ hl k3
  cases e
  repeat (first | walk_at "m1" | dsimp only)
  have hT3 := isTup_up hT k3
  refine h D₂ _ h₃ _ ?_ hl.isList (.cons ⟨D, _, _, _, _, _, rfl, hT3⟩ .nil) fun b o e => k3 b o (k2 b o (F.keep b o e))
  · cases q : s.heap.get? D₂ with
    | none => rfl
    | some o => have := k2 _ _ (F.keep _ _ q); rw [hD₂] at this; cases this

set_option maxHeartbeats 4000000 in
theorem carry_spec {w : World} {A : Around} {s : Shared} {mg mb : Str → Option Value} {p : Program} {loose : List Str} {lc lp : Addr} {ci pi : Array Value} {cs : List (Nat × Bool)} {ps : List (Nat × Str × Str)} {Q : Value → Shared → Prop}
    (X : (K1 w).In s.heap) (T : TopRead p loose mg mb s.heap) (hroom : A.depth < 900) (hh : A.handled = none) (hc : s.heap.IsList lc ci) (hp : s.heap.IsList lp pi) (hcr : Paired CasR ci.toList cs) (hpr : Paired PlaR pi.toList ps) (hcn : cs.length ≤ 100) (hpn : ps.length ≤ 100) (hB : ∀ y ∈ carry cs ps, y.length ≤ 1000)
    (h : ∀ t h'' k'', (∀ b o, s.heap.get? b = some o → h''.get? b = some o) → Q (.str (cat (carry cs ps)) t) { s with heap := h'', toks := k'' }) :
    wpAny (model P1 w) A (call (.ref 56) [.ref lc, .ref lp]) Q (fun _ _ => False) s := by
  refine wpAny_call (enter_defC (K := K1 w) [("cased", .ref lc), ("plain", .ref lp)] X T.nolimit (by rfl) (by kernel_rfl) (Nat.lt_of_lt_of_le hroom (by decide)) (BindsTo.of_eq rfl) (by exact rfl) rfl rfl rfl ?_)
  intro L h₁ tk hL F C
  have hcl : ci.size = cs.length := by have := paired_len hcr; simpa using this
  have hpl : pi.size = ps.length := by have := paired_len hpr; simpa using this
  have hc1 : h₁.IsList lc ci := by obtain ⟨o, ho, r⟩ := hc; exact ⟨o, F.keep _ _ ho, r⟩
  have hp1 : h₁.IsList lp pi := by obtain ⟨o, ho, r⟩ := hp; exact ⟨o, F.keep _ _ ho, r⟩
  repeat walk_at "m1"
  refine c_join rfl fun t => ?_
  refine comp_range (cl := [(Str.ofString "plain", L + 2), (Str.ofString "cased", L + 1)]) (fun i y => ∃ c q, cs[i]? = some c ∧ ps[i]? = some q ∧ IsS y (pick c q)) (by rfl) (by decide) rfl (by decide) rfl hh ?_
  repeat walk_at "m1"
  refine c_lenl hc1 (by omega) fun t k => ?_
  repeat walk_at "m1"
  refine c_lenl hp1 (by omega) fun t k => ?_
  repeat walk_at "m1"
  have Uc : h₁.IsCell (L + 1) (some (.ref lc)) := C.cell (Str.ofString "cased") (L + 1) (by k_dflt rfl)
  have Up : h₁.IsCell (L + 2) (some (.ref lp)) := C.cell (Str.ofString "plain") (L + 2) (by k_dflt rfl)
  refine c_min hh fun h₂ k₂ t₂ kp2 => ?_
  repeat walk_at "m1"
  refine c_range1 fun r h₃ k₃ t3 u3 v3 hr kp3 => ?_
  have e0 : min (ci.size : Int) (pi.size : Int) = ((min cs.length ps.length : Nat) : Int) := by rw [hcl, hpl]; omega
  rw [e0] at hr
  have kp13 : ∀ b o, h₁.get? b = some o → h₃.get? b = some o := fun b o e => kp3 b o (kp2 b o e)
  refine ⟨r, min cs.length ps.length, t3, u3, v3, rfl, hr, by omega, ?_, ?_⟩
  · intro D i ti s₃ m₃ E' hi hn hm hk
    have hup : ∀ b o, h₁.get? b = some o → s₃.heap.get? b = some o := fun b o e => hk b o (kp13 b o e)
    have Xs : (K1 w).In s₃.heap := X.keeps fun b o e => hup b o (F.keep b o e)
    have Uc3 : s₃.heap.IsCell (L + 1) (some (.ref lc)) := Uc.keeps hup
    have Up3 : s₃.heap.IsCell (L + 2) (some (.ref lp)) := Up.keeps hup
    have hlc := isList_up hc1 hup
    have hlp := isList_up hp1 hup
    have hci : cs[i]? = some (cs[i]'(by omega)) := List.getElem?_eq_getElem (by omega)
    have hpi : ps[i]? = some (ps[i]'(by omega)) := List.getElem?_eq_getElem (by omega)
    generalize cs[i]'(by omega) = c at hci
    generalize ps[i]'(by omega) = q at hpi
    obtain ⟨vc, hvc, kc, rfl, hkc⟩ := paired_get hcr i c hci
    obtain ⟨vp, hvp, kq, rfl, hkq⟩ := paired_get hpr i q hpi
    obtain ⟨tc, hTc⟩ := cas_row Xs hkc
    obtain ⟨tp1, tp2, tp3, hTp⟩ := pla_row Xs hkq
    have hvc' : ci[((i : Nat) : Int).toNat]? = some (.ref (25 + kc)) := by rw [Int.toNat_natCast]; simpa using hvc
    have hvp' : pi[((i : Nat) : Int).toNat]? = some (.ref (36 + kq)) := by rw [Int.toNat_natCast]; simpa using hvp
    obtain ⟨hp3, ge, dr, k3, os⟩ := s₃
    refine wpAny_IfExp (wpAny_isTrue_value ?_ rfl)
    repeat walk_at "m1"
    refine ldCellK rfl Uc3 ?_ (by k_dflt rfl) (by k_dflt rfl) (by decide)
    repeat walk_at "m1"
    refine item_l hlc (by omega) (by omega) hvc' rfl ?_
    repeat walk_at "m1"
    refine item_t hTc (by decide) (by decide) rfl rfl ?_
    refine wpAny_truthy_bool ?_
    cases hb : c.2
    · refine ite_neg (by decide) ?_
      repeat walk_at "m1"
      refine ldCellK rfl Up3 ?_ (by k_dflt rfl) (by k_dflt rfl) (by decide)
      repeat walk_at "m1"
      refine item_l hlp (by omega) (by omega) hvp' rfl ?_
      repeat walk_at "m1"
      refine item_t hTp (by decide) (by decide) rfl rfl ?_
      exact ⟨⟨c, q, hci, hpi, tp3, by rw [pick, hb, if_neg (by decide)]; rfl⟩, _, _, rfl, fun _ _ e => e⟩
    · refine ite_pos rfl ?_
      repeat walk_at "m1"
      refine ldCellK rfl Up3 ?_ (by k_dflt rfl) (by k_dflt rfl) (by decide)
      repeat walk_at "m1"
      refine item_l hlp (by omega) (by omega) hvp' rfl ?_
      repeat walk_at "m1"
      refine item_t hTp (by decide) (by decide) rfl rfl ?_
      exact ⟨⟨c, q, hci, hpi, tp2, by rw [pick, hb, if_pos rfl]; rfl⟩, _, _, rfl, fun _ _ e => e⟩
  · intro D h₄ tk ys hD hl hP hk
    have hP' : Paired IsS ys.toList (carry cs ps) := by
      have hlen : ys.toList.length = (carry cs ps).length := by
        have := paired_len hP
        rw [List.length_range] at this
        rw [← this, carry, List.length_zipWith]
      refine paired_of_get hlen fun i y hy => ?_
      have hi : i < (List.range (min cs.length ps.length)).length := by rw [paired_len hP]; exact (List.getElem?_eq_some_iff.mp hy).1
      rw [List.length_range] at hi
      obtain ⟨j, hj, c, q, h1, h2, h3⟩ := paired_get hP i y hy
      have : j = i := by rw [List.getElem?_range hi] at hj; exact (Option.some.inj hj).symm
      subst this
      exact ⟨_, by rw [carry, List.getElem?_zipWith, h1, h2], h3⟩
    have hle : ∀ y ∈ carry cs ps, y.length ≤ 1000 := hB
    refine ⟨D, ys, _, rfl, hl.isList, hP', hle, by rw [carry, List.length_zipWith]; omega, ?_⟩
    intro _ _ _ _ _ e t' k'
    cases e
    repeat (first | walk_at "m1" | dsimp only)
    exact h t' h₄ k' fun b o e => hk b o (kp13 b o (F.keep b o e))
end Mine
end

section
open PySem.Calls
namespace Mine
set_option maxRecDepth 100000
theorem good_true {M : Model} {A : Around} {t : Sem Flow} {s s₁ : Shared} {c : ClaimW} {cl : Str → Option Addr} {mean : ExcName → Option Value} {args : List WData} {E : Value → Shared → Prop}
    (hr : ∀ cls, c.raises args cls = false) (hp : c.post args (.bool true) args = true) (hg : s₁.gens = #[])
    (h : wpAny M A t (fun f s' => f = .ret (.bool true) ∧ (∀ b o, s₁.heap.get? b = some o → s'.heap.get? b = some o) ∧ s'.gens = s₁.gens ∧ s'.os = s₁.os) (fun _ _ => False) s) :
    wpAny M A t (fun f s' => GoodW c cl mean args s₁ (.ok (.ret (match f with | .ret v => v | _ => .none))) s') E s := by
  refine wpAny_mono h (fun f s' h' => ?_) fun _ _ x => x.elim
  obtain ⟨rfl, kp, hge, hos⟩ := h'
  exact ⟨.inl ⟨_, _, [], rfl, hr, ReadsW.bool true, hp, fun _ => ⟨List.nodup_nil, fun _ h => by simp at h⟩⟩, kp, hos, hge.trans hg⟩
theorem cell_none {h : Heap} {c c' : Addr} {v : Option Value} (x : h.IsCell c v) (hc : c = c') (e : v = none) : h.IsCell c' none := hc ▸ e ▸ x

def lit : List Int := [3, 1, 5, 2, 7, 4, 9, 0, 6, 8, 2, 5]
def DD (ns : List Int) : List Int := (ns ++ lit.drop ns.length).take 24
theorem DD_len (ns : List Int) : 12 ≤ (DD ns).length ∧ (DD ns).length ≤ 24 := by
  have h : (DD ns).length = min 24 (ns.length + (12 - ns.length)) := by
    show ((ns ++ lit.drop ns.length).take 24).length = _
    rw [List.length_take, List.length_append, List.length_drop]; rfl
  rw [h]; omega
def seg (ns : List Int) (a n : Nat) : List Int := ((DD ns ++ DD ns).drop a).take n
theorem seg_len {ns : List Int} {a n : Nat} (h : a + n ≤ 24) : (seg ns a n).length = n := by
  have := DD_len ns
  rw [seg, List.length_take, List.length_drop, List.length_append]; omega
def crow (n : Int) : Nat × Bool := CT.getD (Int.fmod n 10).toNat (65, true)
def prow (k : Int) : Nat × Str × Str := PT.getD (Int.fmod k 8).toNat (97, ⟨#[65]⟩, ⟨#[97]⟩)
def prow1 (n : Int) : Nat × Str × Str := if 9 < n then prow (Int.fdiv n 10) else prow (n + 1)
def prow2 (n : Int) : Nat × Str × Str := prow (n + 1)
theorem fmod_lt (n : Int) {b : Int} (hb : 0 < b) : 0 ≤ Int.fmod n b ∧ Int.fmod n b < b := ⟨Int.fmod_nonneg_of_pos n hb, Int.fmod_lt_of_pos n hb⟩
theorem crow_at (n : Int) : CT[(Int.fmod n 10).toNat]? = some (crow n) := by
  have h := fmod_lt n (b := 10) (by decide)
  have hl : CT.length = 10 := rfl
  rw [crow, List.getD_eq_getElem?_getD, List.getElem?_eq_getElem (by omega)]; rfl
theorem prow_at (n : Int) : PT[(Int.fmod n 8).toNat]? = some (prow n) := by
  have h := fmod_lt n (b := 8) (by decide)
  have hl : PT.length = 8 := rfl
  rw [prow, List.getD_eq_getElem?_getD, List.getElem?_eq_getElem (by omega)]; rfl
theorem crow_mem (n : Int) : crow n ∈ CT := List.mem_of_getElem? (crow_at n)
theorem prow_mem (n : Int) : prow n ∈ PT := List.mem_of_getElem? (prow_at n)
theorem prow1_mem (n : Int) : prow1 n ∈ PT := by unfold prow1; split <;> exact prow_mem _
theorem casR_uniq {v : Value} {r r' : Nat × Bool} (h : CasR v r) (h' : CasR v r') : r = r' := by
  obtain ⟨k, rfl, e⟩ := h
  obtain ⟨k', e', e''⟩ := h'
  have : 25 + k = 25 + k' := by injection e'
  obtain rfl : k = k' := Nat.add_left_cancel this
  exact Option.some.inj (e.symm.trans e'')
theorem plaR_uniq {v : Value} {r r' : Nat × Str × Str} (h : PlaR v r) (h' : PlaR v r') : r = r' := by
  obtain ⟨k, rfl, e⟩ := h
  obtain ⟨k', e', e''⟩ := h'
  have : 36 + k = 36 + k' := by injection e'
  obtain rfl : k = k' := Nat.add_left_cancel this
  exact Option.some.inj (e.symm.trans e'')
def cAddrs : List Value := (List.range 10).map fun k => .ref (25 + k)
def pAddrs : List Value := (List.range 8).map fun k => .ref (36 + k)
theorem cas_list {w : World} {h : Heap} (X : (K1 w).In h) : h.IsList 35 cAddrs.toArray := ⟨_, X 35 _ (by rfl), rfl, _, by rfl⟩
theorem pla_list {w : World} {h : Heap} (X : (K1 w).In h) : h.IsList 44 pAddrs.toArray := ⟨_, X 44 _ (by rfl), rfl, _, by rfl⟩
theorem cAddrs_at {k : Nat} (h : k < 10) : cAddrs.toArray[k]? = some (.ref (25 + k)) := by
  rw [List.getElem?_toArray, cAddrs, List.getElem?_map, List.getElem?_range h]; rfl
theorem pAddrs_at {k : Nat} (h : k < 8) : pAddrs.toArray[k]? = some (.ref (36 + k)) := by
  rw [List.getElem?_toArray, pAddrs, List.getElem?_map, List.getElem?_range h]; rfl

/-! texts of rows -/
def ctxt (cs : List (Nat × Bool)) : Str := ⟨(cs.map (·.1)).toArray⟩
def ptxt (ps : List (Nat × Str × Str)) : Str := ⟨(ps.map (·.1)).toArray⟩
theorem cat_signs {α : Type} (f : α → Nat) (l : List α) : cat (l.map fun r => (⟨#[f r]⟩ : Str)) = ⟨(l.map f).toArray⟩ := by
  unfold cat
  congr 2
  induction l with
  | nil => rfl
  | cons a l ih => simp only [List.map_cons, List.flatMap_cons, ih]; rfl
theorem ctxt_len (cs : List (Nat × Bool)) : (ctxt cs).length = cs.length := by show ((cs.map (·.1)).toArray).size = _; simp
theorem ptxt_len (ps : List (Nat × Str × Str)) : (ptxt ps).length = ps.length := by show ((ps.map (·.1)).toArray).size = _; simp
theorem ptxt_app (ps qs : List (Nat × Str × Str)) : ptxt (ps ++ qs) = ptxt ps ++ ptxt qs := by
  apply Str.ext'
  show ((ps ++ qs).map (·.1)).toArray = (ps.map (·.1)).toArray ++ (qs.map (·.1)).toArray
  simp
theorem ptxt_take (ps : List (Nat × Str × Str)) (k : Nat) : sub (ptxt ps) 0 k = ptxt (ps.take k) := by
  apply Str.ext'
  show ((((ps.map (·.1)).toArray.toList).drop 0).take (k - 0)).toArray = ((ps.take k).map (·.1)).toArray
  simp
theorem sub_all (x : Str) : sub x 0 x.length = x := by
  apply Str.ext'
  show (((x.cps.toList.drop 0).take (x.length - 0)).toArray) = x.cps
  rw [List.drop_zero, List.take_of_length_le (by simp [Str.length])]
theorem CT_up : ∀ r ∈ CT, Txt.isupper ⟨#[r.1]⟩ = r.2 := by decide +kernel
theorem PT_up : ∀ r ∈ PT, Txt.upper ⟨#[r.1]⟩ = r.2.1 := by decide +kernel
theorem PT_lo : ∀ r ∈ PT, Txt.lower ⟨#[r.1]⟩ = r.2.2 := by decide +kernel
theorem PT_len : ∀ r ∈ PT, r.2.1.length ≤ 3 ∧ r.2.2.length ≤ 3 := by decide +kernel
theorem CT_lo : ∀ r ∈ CT, (r.1 == 0x3A3) = false ∧ Unicode.lowerOf r.1 = [(Unicode.lowerOf r.1).headD 0] := by decide +kernel
theorem mt_pick {r : Nat × Bool} {q : Nat × Str × Str} (hr : r ∈ CT) (hq : q ∈ PT) : mt r.1 q.1 = pick r q := by
  unfold mt pick
  rw [CT_up r hr, PT_up q hq, PT_lo q hq]
theorem one_pick {r : Nat × Bool} {q : Nat × Str × Str} (hq : q ∈ PT) : one r.2 q.1 = pick r q := by
  unfold one pick
  rw [PT_up q hq, PT_lo q hq]
theorem zip_pick : ∀ {cs : List (Nat × Bool)} {ps : List (Nat × Str × Str)}, (∀ r ∈ cs, r ∈ CT) → (∀ q ∈ ps, q ∈ PT) → List.zipWith mt (cs.map (·.1)) (ps.map (·.1)) = carry cs ps
  | [], _, _, _ => by simp [carry]
  | _ :: _, [], _, _ => by simp [carry]
  | r :: cs, q :: ps, hc, hp => by
    have := zip_pick (fun r h => hc r (List.mem_cons_of_mem _ h)) fun q h => hp q (List.mem_cons_of_mem _ h)
    show mt r.1 q.1 :: _ = pick r q :: _
    rw [mt_pick (hc r (.head _)) (hp q (.head _))]
    exact congrArg _ this
theorem match_carry {cs : List (Nat × Bool)} {ps : List (Nat × Str × Str)} (hc : ∀ r ∈ cs, r ∈ CT) (hp : ∀ q ∈ ps, q ∈ PT) : matchS (ctxt cs) (ptxt ps) = cat (carry cs ps) := by
  unfold matchS
  rw [← zip_pick hc hp]
  rfl
theorem carry_len {cs : List (Nat × Bool)} {ps : List (Nat × Str × Str)} (hp : ∀ q ∈ ps, q ∈ PT) : ∀ y ∈ carry cs ps, y.length ≤ 3 := fun y hy => by
  change y ∈ List.zipWith pick cs ps at hy
  obtain ⟨i, h1, rfl⟩ := List.mem_iff_getElem.mp hy
  rw [List.getElem_zipWith]
  have := PT_len _ (hp _ (List.getElem_mem (l := ps) (Nat.lt_of_lt_of_le h1 (by rw [List.length_zipWith]; exact Nat.min_le_right _ _))))
  unfold pick
  split
  · exact this.1
  · exact this.2
theorem lower_len {cs : List (Nat × Bool)} (hc : ∀ r ∈ cs, r ∈ CT) : (Txt.lower (ctxt cs)).length = (ctxt cs).length := by
  have : Txt.lower (ctxt cs) = ⟨(ctxt cs).cps.map fun c => (Unicode.lowerOf c).headD 0⟩ := by
    unfold Txt.lower
    rw [placed_single (ctxt cs) _ (fun c => (Unicode.lowerOf c).headD 0) fun i c hc' => by
      have hc2 : (ctxt cs).cps[i]? = some c := by simpa using hc'
      have hm : c ∈ cs.map (·.1) := by
        have := List.mem_of_getElem? hc'
        simpa [ctxt] using this
      obtain ⟨r, hr, rfl⟩ := List.mem_map.mp hm
      have h2 := CT_lo r (hc r hr)
      unfold Unicode.lowerAt
      rw [hc2]
      simp only [h2.1, Bool.false_and, Bool.false_eq_true, if_false]
      exact h2.2]
  rw [this]
  show ((ctxt cs).cps.map _).size = (ctxt cs).cps.size
  simp
/-- one replaced piece over both texts whole -/
theorem piece_whole {a b : Str} : pieceS a b ⟨Str.ofString "replace", 0, a.length, 0, b.length⟩ = matchS a b ++ (if a.length < b.length then cat ((b.cps.toList.drop a.length).map (one (Txt.isupper (sgn a (a.length - 1))))) else ⟨#[]⟩) := by
  show pieceS a b _ = _
  unfold pieceS
  rw [if_neg (by show ¬ Str.ofString "replace" = Str.ofString "delete"; decide), if_neg (by show ¬ Str.ofString "replace" = Str.ofString "insert"; decide), if_neg (by show ¬ Str.ofString "replace" = Str.ofString "equal"; decide), sub_all, sub_all]
theorem piece_le {cs : List (Nat × Bool)} {ps : List (Nat × Str × Str)} (hc : ∀ r ∈ cs, r ∈ CT) (hp : ∀ q ∈ ps, q ∈ PT) (h : ps.length ≤ cs.length) :
    pieceS (ctxt cs) (ptxt ps) ⟨Str.ofString "replace", 0, (ctxt cs).length, 0, (ptxt ps).length⟩ = cat (carry cs ps) := by
  rw [piece_whole, if_neg (by rw [ctxt_len, ptxt_len]; omega), app_nil, match_carry hc hp]
theorem carry_more : ∀ {cs : List (Nat × Bool)} {ps qs : List (Nat × Str × Str)}, cs.length ≤ ps.length → carry cs (ps ++ qs) = carry cs ps
  | [], _, _, _ => by simp [carry]
  | _ :: _, [], _, h => by simp at h
  | r :: cs, q :: ps, qs, h => by
    have := carry_more (cs := cs) (ps := ps) (qs := qs) (by simpa using h)
    show pick r q :: _ = pick r q :: _
    exact congrArg _ this
theorem piece_gt {cs : List (Nat × Bool)} {ps qs : List (Nat × Str × Str)} {r : Nat × Bool} (hc : ∀ r ∈ cs, r ∈ CT) (hp : ∀ q ∈ ps, q ∈ PT) (hq : ∀ q ∈ qs, q ∈ PT) (h : ps.length = cs.length) (hl : cs[cs.length - 1]? = some r) (hne : 0 < qs.length) :
    pieceS (ctxt cs) (ptxt ps ++ ptxt qs) ⟨Str.ofString "replace", 0, (ctxt cs).length, 0, (ptxt ps ++ ptxt qs).length⟩ = cat (carry cs ps) ++ cat (qs.map (pick r)) := by
  rw [← ptxt_app, piece_whole, if_pos (by rw [ctxt_len, ptxt_len, List.length_append]; omega), match_carry hc (fun q h => (List.mem_append.mp h).elim (hp q) (hq q)), carry_more (by omega)]
  congr 2
  have e1 : (ptxt (ps ++ qs)).cps.toList.drop (ctxt cs).length = qs.map (·.1) := by
    rw [ctxt_len]
    show ((ps ++ qs).map (·.1)).toArray.toList.drop _ = _
    rw [List.toList_toArray, List.map_append, List.drop_left' (by rw [List.length_map, h])]
  have e2 : Txt.isupper (sgn (ctxt cs) ((ctxt cs).length - 1)) = r.2 := by
    rw [← CT_up r (hc r (List.mem_of_getElem? hl))]
    congr 1
    show (⟨#[(cs.map (·.1)).toArray.toList.getD _ 0]⟩ : Str) = _
    rw [ctxt_len, List.toList_toArray, List.getD_eq_getElem?_getD, List.getElem?_map, hl]; rfl
  rw [e1, e2, List.map_map]
  exact List.map_congr_left fun q hm => one_pick (r := r) (hq q hm)
theorem ldCe {M : Model} {A : Around} {E : Value → Shared → Prop} {s : Shared} {env : Env} {x : Str} {pos : Pos} {c : Addr} {v : Value} {Q : Value → Shared → Prop} (hv : s.heap.IsCell c (some v)) (h : Q v s) (hk : env.scope.kind = .function) (hl : env.kindOf x = some .cell) (hc : env.cells.lookup x = some c) (hd : (x == ("__debug__" : Str)) = false) :
    wpAny M A (eval (.Name x pos) env) Q E s := wpAny_Name (wpAny_loadName_cell hk hl hc hv h) hd
theorem paired_app {α β : Type} {F : α → β → Prop} {c : List α} {d : List β} (h2 : Paired F c d) : ∀ {a : List α} {b : List β}, Paired F a b → Paired F (a ++ c) (b ++ d)
  | _, _, .nil => h2
  | _, _, .cons h t => .cons h (paired_app h2 t)
theorem draws_paired {vs : List Value} {ns : List Int} {lits : Array Value} (hI : IntsAre vs ns) (hl : Paired IsI lits.toList lit) : Paired IsI (slicePick (vs.toArray ++ slicePick lits (some (vs.toArray.size : Nat)) none none) none (some 24) none).toList (DD ns) := by
  refine (congrArg (fun x : Array Value => Paired IsI x.toList (DD ns)) (slicePick_upto' (vs.toArray ++ slicePick lits (some (vs.toArray.size : Nat)) none none) 24)).mpr ?_
  rw [slicePick_from', List.toList_toArray]
  have hp := ints_paired hI
  have hv := paired_len hp
  refine paired_take ?_ 24
  rw [Array.toList_append, List.toList_toArray, List.size_toArray, List.toList_toArray, hv]
  exact paired_app (paired_drop hl _) hp
theorem seg_paired {dv : Array Value} {ns : List Int} {lo up : Int} (a n : Nat) (hd : Paired IsI dv.toList (DD ns)) (h : a + n ≤ 24) (hlo : lo = (a : Nat)) (hup : up = ((a + n : Nat) : Int)) : Paired IsI (slicePick (dv ++ dv) (some lo) (some up) none).toList (seg ns a n) := by
  subst hlo hup
  have hv := paired_len hd
  have hD := DD_len ns
  have hs : (dv ++ dv).size = dv.toList.length + dv.toList.length := by simp
  rw [slicePick_run _ _ _ (by rw [hs]; omega) (Nat.le_add_right a n), List.toList_toArray, Array.toList_append, Nat.add_sub_cancel_left]
  exact paired_take (paired_drop (paired_app hd hd) a) n
theorem ne_list {g h : Heap} {L D : Addr} {m : Str → Option Value} {v : Array Value} (F : Fr g L h m) (x : h.IsList D v) : D ≠ L := by
  rintro rfl
  obtain ⟨o, ho, hc, n, hd⟩ := x
  obtain ⟨o', es, ep, ho', hd', _⟩ := F.ns
  have e := Option.some.inj (ho.symm.trans ho')
  subst e
  rw [hd] at hd'; cases hd'
theorem ne_cell {h : Heap} {c D : Addr} {w : Option Value} {v : Array Value} (U : h.IsCell c w) (x : h.IsList D v) : D ≠ c := by
  rintro rfl
  obtain ⟨o, ho, hc, n, hd⟩ := x
  obtain ⟨o', ho', hd'⟩ := U
  have e := Option.some.inj (ho.symm.trans ho')
  subst e
  rw [hd] at hd'; cases hd'
theorem cell_but {h h' : Heap} {c : Addr} {b : Addr} {v : Option Value} (U : h.IsCell c v) (hs : Heap.SameBut b h h') (hb : c ≠ b) : h'.IsCell c v := by
  obtain ⟨o, ho, hd⟩ := U; exact ⟨o, hs.extBut _ _ hb ho, hd⟩
theorem cell_ne {h h' : Heap} {c : Addr} {b : Addr} {v : Option Value} (U : h.IsCell c v) (k : ∀ a o, a ≠ b → h.get? a = some o → h'.get? a = some o) (hb : c ≠ b) : h'.IsCell c v := by
  obtain ⟨o, ho, hd⟩ := U; exact ⟨o, k _ _ hb ho, hd⟩
theorem pl_ne {h h' : Heap} {c : Addr} {b : Addr} {v : Array Value} (U : h.PlainList c v) (k : ∀ a o, a ≠ b → h.get? a = some o → h'.get? a = some o) (hb : c ≠ b) : h'.PlainList c v := U.at fun o e => k _ _ hb e
theorem room (e : Env) : (callerA.deeper e).depth = 302 := rfl
theorem one_fn {w : World} : ∃ o fd, (K1 w).lookup 51 = some o ∧ o.data = .func fd := ⟨_, _, by rfl, by rfl⟩
theorem similar_one {w : World} {A : Around} {R : Result → Shared → Prop} {s : Shared} {mg mb : Str → Option Value} {p : Program} {loose : List Str} {a b : Str} {ta tb : Tok} {g : Heap}
    (X : (K1 w).In g) (TR : TopRead p loose mg mb g) (hg : ∀ b o, g.get? b = some o → s.heap.get? b = some o) (hgs : g.objs.size ≤ s.heap.objs.size)
    (hroom : A.depth < 800) (hh : A.handled = none) (ha0 : 0 < a.length) (hb0 : 0 < b.length) (ha : a.length ≤ 100) (hb : b.length ≤ 100) (hlow : (Txt.lower a).length = a.length)
    (hR : ∀ t h' k, (∀ b o, s.heap.get? b = some o → h'.get? b = some o) → R (.ok (.ret (.str (pieceS a b ⟨Str.ofString "replace", 0, a.length, 0, b.length⟩) t))) { s with heap := h', toks := k })
    : codeAny (model P1 w) A (.call (.ref 24) ⟨[.str a ta, .str b tb, .ref 51], []⟩) R s := by
  obtain ⟨of, fd, hfo, hfd⟩ := one_fn (w := w)
  refine similar_spec (ps := [⟨Str.ofString "replace", 0, a.length, 0, b.length⟩]) (fun _ => False) X TR hg hgs (fun _ _ _ h => h) (fun _ h => h.elim) hroom hh ha0 hb0 ha hb ?_ (by show 1 ≤ 100; decide) (hg _ _ (X _ _ hfo)) hfd ?_ ?_
  · intro q hq
    rw [List.mem_singleton] at hq
    subst hq
    exact ⟨Nat.zero_le _, Nat.le_refl _, Nat.zero_le _, Nat.le_refl _, fun e => by exact absurd e (by show ¬ Str.ofString "replace" = Str.ofString "insert"; decide), fun _ _ _ => ha0⟩
  · intro A' h' k' t1 t2 Q hA' hd' hk' cont
    refine one_piece_spec (s := { s with heap := h', toks := k' }) (X.keeps fun b o e => hk' b o (hg b o e)) (TR.keeps fun b o e => hk' b o (hg b o e)) (by omega) (by omega) (by omega) fun l items h'' k'' hn hl hP hk'' => ?_
    refine cont l items h'' k'' (fun h => h) hl ?_ fun b o _ e => hk'' b o e
    rw [hlow] at hP
    exact hP
  · intro t h' k kp
    have e : cat (([⟨Str.ofString "replace", 0, a.length, 0, b.length⟩] : List Piece).map (pieceS a b)) = pieceS a b ⟨Str.ofString "replace", 0, a.length, 0, b.length⟩ := cat_one _
    rw [e]
    exact hR t h' k fun b o e => kp b o (fun h => h) e
end Mine
end

section
open PySem.Calls
namespace Mine
set_option maxRecDepth 100000
local macro_rules | `(tactic| walk_at "m1") => `(tactic| first
  | with_reducible refine wpAny_execs_cons ?_
  | with_reducible refine wpAny_execs_nil ?_
  | with_reducible refine wpAny_Return_some ?_
  | with_reducible refine wpAny_If ?_
  | ((with_reducible show wpAny _ _ (PySem.isTrue (Expr.Compare _ _ _ _) _ _) _ _ _); with_reducible refine wpAny_isTrue_Compare1 ?_ (by k_dflt rfl))
  | with_reducible refine wpAny_isTrue_Not ?_
  | with_reducible refine wpAny_isTrue_BoolOp ?_
  | with_reducible refine wpAny_allTrue_Or_cons ?_
  | with_reducible refine wpAny_allTrue_Or_nil ?_
  | with_reducible refine wpAny_allTrue_And_cons ?_
  | with_reducible refine wpAny_allTrue_And_nil ?_
  | with_reducible refine wpAny_UnaryOp ?_
  | with_reducible refine c_neg fun _ _ => ?_
  | with_reducible refine isTrue_nm ?_
  | with_reducible refine wpAny_Continue ?_
  | with_reducible refine assignInOrder_cons ?_
  | with_reducible refine assignInOrder_nil ?_
  | with_reducible refine wpAny_assign_Name ?_
  | ((with_reducible show wpAny _ _ (eval (Expr.Compare _ _ _ _) _) _ _ _); with_reducible refine wpAny_Compare1 ?_ (by k_dflt rfl))
  | with_reducible refine wpAny_BinOp ?_
  | with_reducible refine wpAny_IfExp ?_
  | with_reducible refine c_int fun _ _ => ?_
  | with_reducible refine c_str fun _ _ => ?_
  | with_reducible refine wpAny_Constant_bool ?_
  | with_reducible refine wpAny_Constant_none ?_
  | with_reducible refine wpAny_truthy_bool ?_
  | with_reducible refine Subscript_ ?_
  | with_reducible refine c_slice ?_
  | ((with_reducible show ∀ (_ : Heap) (_ : Array GenState) (_ : Drawn) (_ : Nat) (_ : OsState), Shared.mk _ _ _ _ _ = _ → _); intro _ _ _ _ _ e; cases e)
  | with_reducible refine evalPart_none_step ?_
  | with_reducible refine evalPart_some_step ?_
  | with_reducible refine spliced_none ?_
  | ((with_reducible show wpAny _ _ (spliced _) _ _ _); with_reducible refine spliced_more ?_ (by k_dflt rfl))
  | with_reducible refine wpAny_Call_NameR ?_
  | ((with_reducible show wpAny _ _ (callWith _ _ _ _ _) _ _ _); with_reducible refine callWith_builtin1 ?_ (by k_dflt rfl) (by k_dflt rfl))
  | ((with_reducible show wpAny _ _ (callWith _ _ _ _ _) _ _ _); with_reducible refine callWith_type1 ?_ (by k_dflt rfl) (by k_dflt rfl))
  | ((with_reducible show wpAny _ _ (callWith _ _ _ _ _) _ _ _); with_reducible refine callWith_method0 ?_)
  | ((with_reducible show wpAny _ _ (callWith _ _ _ _ _) _ _ _); with_reducible refine callWith_method1 ?_ (by k_dflt rfl) (by k_dflt rfl))
  | with_reducible refine P.ne_int ?_
  | with_reducible refine P.eq_int ?_
  | with_reducible refine P.lt_int ?_
  | with_reducible refine P.gt_int ?_
  | with_reducible refine c_sub fun _ _ => ?_
  | with_reducible refine c_add fun _ _ => ?_
  | ((with_reducible show wpAny _ _ (exec (Stmt.Assign _ _ _) _) _ _ _); with_reducible refine wpAny_Assign_Name ?_ (by k_dflt rfl))
  | with_reducible refine wpAny_AugAssign_Name ?_
  | walk_at "mname")
local macro_rules | `(tactic| walk_at "mname") => `(tactic| first
  | ((with_reducible show wpAny _ _ (eval (Expr.Name _ _) _) _ _ _); with_reducible refine ld (by assumption) (by first | k_dflt rfl | k_dflt assumption) ?_ (by k_dflt rfl) (by k_dflt rfl) (by decide))
  | ((with_reducible show wpAny _ _ (eval (Expr.Name _ _) _) _ _ _); with_reducible refine ldLoc (by assumption) (by first | k_dflt rfl | k_dflt assumption) ?_ (by k_dflt rfl) (by k_dflt rfl) (by decide))
  | ((with_reducible show wpAny _ _ (eval (Expr.Name _ _) _) _ _ _); with_reducible refine ldC (by assumption) (by k_dflt rfl) (by k_dflt rfl) ?_ (by k_dflt rfl) (by k_dflt rfl) (by decide))
  | ((with_reducible show wpAny _ _ (eval (Expr.Name _ _) _) _ _ _); with_reducible refine ldVarK (by k_dflt assumption) (by assumption) ?_ (by k_dflt rfl) (by k_dflt rfl) (by decide))
  | ((with_reducible show wpAny _ _ (eval (Expr.Name _ _) _) _ _ _); with_reducible refine nmB (by assumption) (by assumption) (by first | assumption | exact Fr.keep (by assumption)) (by kernel_rfl) (by boot_by_name) (by decide) ?_ (by k_dflt rfl) (by k_dflt rfl) (by k_dflt rfl) (by k_dflt rfl) (by decide))
  | ((with_reducible show wpAny _ _ (eval (Expr.Name _ _) _) _ _ _); with_reducible refine nmG (by assumption) (by assumption) (by first | assumption | exact Fr.keep (by assumption)) (by kernel_rfl) ?_ (by k_dflt rfl) (by k_dflt rfl) (by k_dflt rfl) (by decide)))
set_option maxHeartbeats 8000000 in
theorem fin01 : PySem.Challenge.rw_gb5018_01.Holds := Mine.hd01 (by
  k_go0
  rename Shared => S1
  rename Fr _ _ _ _ => F
  rename Top _ _ _ _ _ _ => T
  rename News _ _ _ _ => N0
  rename Heap.IsList _ _ _ => hl
  rename IntsAre _ _ => hI
  rename ¬ _ => hn63
  rename Frag.In _ _ => X
  have TR := topRead_of T
  have U : Heap.IsCell _ _ _ := ⟨_, (N0 _ (.head _)).1, by assumption⟩
  have FF : ∃ M, Fr _ _ _ M ∧ M (Str.ofString "script") = some _ := ⟨_, F, by k_dflt rfl⟩
  have hl1 := isList_up hl F.keep
  clear F N0 hl
  obtain ⟨M, F, M1⟩ := FF
  refine good_true ?_ ?_ ?_ ?_
  · exact raisesW_false (by wrow_none_raised)
  · first | wrow_post | kc_post
  · assumption
  replace U := cell_none U (by exact rfl) (by k_dflt rfl)
  first | (rename Ground _ _ _ _ _ _ _ _ _ => z; clear z) | skip
  first | (rename Hook.says _ _ _ => z; clear z) | skip
  first | (rename PySem.Heap.get? _ _ = some _ => z; clear z) | skip
  first | (rename Flt.MathXP _ _ _ => z; clear z) | skip
  first | (rename LooseAre _ _ _ => z; clear z) | skip
  first | (rename Glob _ _ _ _ _ _ _ _ => z; clear z) | skip
  first | (rename BMod _ _ _ _ _ => z; clear z) | skip
  first | (rename Tables _ _ _ _ => z; clear z) | skip
  first | (rename TopE _ _ _ _ => z; clear z) | skip
  first | (rename TopW _ _ _ => z; clear z) | skip
  first | (rename Heap.CodeRec _ _ _ => z; clear z) | skip
  first | (rename ReadsAll _ _ _ _ => z; clear z) | skip
  first | (rename Well _ _ _ _ => z; clear z) | skip
  first | (rename Reads _ _ _ _ => z; clear z) | skip
  first | (rename ReadsAllW _ _ _ _ _ _ => z; clear z) | skip
  first | (rename Below _ _ _ _ => z; clear z) | skip
  first | (rename Dflts _ _ _ => z; clear z) | skip
  first | (rename CellsAre _ _ _ => z; clear z) | skip
  first | (rename Obj.data _ = _ => z; clear z) | skip
  clear T
  dsimp only
  obtain ⟨vs, ns, l, hl1, hI, hnl, M1⟩ : ∃ (vs : List Value) (ns : List Int) (l : Addr), Heap.IsList _ l vs.toArray ∧ IntsAre vs ns ∧ ns.length ≤ 63 ∧ M (Str.ofString "script") = some (.ref l) := ⟨_, _, _, hl1, hI, Int.ofNat_le.mp (Int.not_lt.mp hn63), M1⟩
  have hvl := hI.length
  repeat walk_at "m1"
  refine c_list ?_
  repeat walk_at "m1"
  refine ⟨by simp, ?_⟩
  intro _ _ _ _ _ e D1 h2 hD1 hP1 kp2
  cases e
  have F2 := F.keeps kp2
  have hl2 := isList_up hl1 kp2
  have U2 := U.keeps kp2
  repeat walk_at "m1"
  refine c_lenl hl2 (by simp; omega) fun t1 k1 => ?_
  repeat walk_at "m1"
  refine c_cut_l hP1.isList (.int _ _) .none (by simp) fun D2 h3 hD2 hP2 kp3 => ?_
  have hsz2 := slicePick_size_le (List.toArray [Value.int 3 0]) (none) none none
  refine c_addl (isList_up hl2 kp3) hP2.isList ?_ fun D3 h4 hD3 hP3 kp4 => ?_
  · refine Nat.le_trans (Nat.add_le_add_left (slicePick_size_le _ _ _ _) _) ?_
    simp; omega
  repeat walk_at "m1"
  refine c_cut_l hP3.isList .none (.int _ _) ?_ fun D4 h5 hD4 hP4 kp5 => ?_
  · rw [Array.size_append]
    refine Nat.le_trans (Nat.add_le_add_left (slicePick_size_le _ _ _ _) _) ?_
    simp; omega
  have F5 := ((F2.keeps kp3).keeps kp4).keeps kp5
  have U5 := ((U2.keeps kp3).keeps kp4).keeps kp5
  obtain ⟨dv, hdv, hd⟩ : ∃ dv : Array Value, h5.PlainList D4 dv ∧ Paired IsI dv.toList (DD ns) := ⟨_, hP4, draws_paired hI (by repeat (first | exact .nil | refine .cons ⟨_, rfl⟩ ?_))⟩
  have hdl := paired_len hd
  have hDl := DD_len ns
  have hdz : dv.toList.length = dv.size := by simp
  have hD4L := ne_list F5 hdv.isList
  clear hl1 hl2 hI F U F2 U2 hP1 hP2 hP3 hP4 kp2 kp3 kp4 kp5
  refine c_st F5 rfl (by k_dflt rfl) rfl fun h6 k6 F6 hs6 => ?_
  repeat (first | walk_at "m1" | dsimp only)
  have hdv6 : h6.PlainList D4 dv := hdv.at fun o e => hs6.extBut _ _ hD4L e
  have U6 := cell_but U5 hs6 (Nat.succ_ne_self _)
  obtain ⟨d0, hd0⟩ : ∃ d0, (DD ns)[0]? = some d0 := ⟨_, List.getElem?_eq_getElem (by omega)⟩
  obtain ⟨d1, hd1⟩ : ∃ d1, (DD ns)[1]? = some d1 := ⟨_, List.getElem?_eq_getElem (by omega)⟩
  obtain ⟨_, hv0, t0, rfl⟩ := paired_get hd 0 d0 hd0
  obtain ⟨_, hv1, t1, rfl⟩ := paired_get hd 1 d1 hd1
  refine item_l hdv6.isList (by decide) (by decide) (by simpa using hv0) rfl ?_
  repeat walk_at "m1"
  refine c_mod (by decide) fun t7 k7 => ?_
  obtain ⟨sz, hsz, hsz8⟩ : ∃ sz : Nat, Int.fmod d0 9 = (sz : Int) ∧ sz ≤ 8 := ⟨(Int.fmod d0 9).toNat, by have := fmod_lt d0 (b := 9) (by decide); omega, by have := fmod_lt d0 (b := 9) (by decide); omega⟩
  obtain ⟨mz, hmz, hmz2⟩ : ∃ mz : Nat, Int.fmod d1 3 = (mz : Int) ∧ mz ≤ 2 := ⟨(Int.fmod d1 3).toNat, by have := fmod_lt d1 (b := 3) (by decide); omega, by have := fmod_lt d1 (b := 3) (by decide); omega⟩
  rw [hsz]
  refine c_st F6 rfl (by k_dflt rfl) rfl fun h7 k8 F7 hs7 => ?_
  have hdv7 : h7.PlainList D4 dv := hdv6.at fun o e => hs7.extBut _ _ hD4L e
  have U7 := cell_but U6 hs7 (Nat.succ_ne_self _)
  obtain ⟨N, FN, Nd, Ns⟩ : ∃ N, Fr _ _ h7 N ∧ N (Str.ofString "draws") = some (.ref D4) ∧ N (Str.ofString "size") = some (.int (sz : Int) t7) := ⟨_, F7, by k_dflt rfl, by k_dflt rfl⟩
  clear hdv6 hdv U5 U6 F5 F6 F7 hs6 hs7
  repeat (first | walk_at "m1" | dsimp only)
  -- cased
  refine comp_list (cl := []) (fun v y => ∀ n, IsI v n → CasR y (crow n)) (by rfl) (by decide) rfl (by decide) rfl rfl ?_
  repeat walk_at "m1"
  refine c_mull hdv7 (by omega) (by omega) fun D5 h8 hD5 hP5 kp8 => ?_
  have F8 := FN.keeps kp8
  repeat walk_at "m1"
  refine c_cut_l hP5.isList (.int _ _) (.int _ _) (by rw [Array.size_append]; omega) fun D6 h9 hD6 hP6 kp9 => ?_
  have F9 := F8.keeps kp9
  have U9 := (U7.keeps kp8).keeps kp9
  have hdv9 := (hdv7.at (kp8 _)).at (kp9 _)
  have hseg := seg_paired 1 sz hd (by omega) (lo := 1) (up := (sz : Int) + 1) rfl (by omega)
  refine ⟨D6, _, rfl, hP6.isList, ?_, ?_, ?_⟩
  · refine Nat.le_trans (slicePick_size_le _ _ _ _) (Nat.le_trans (?_ : _ ≤ 100) (by decide)); rw [Array.size_append]; omega
  · intro C v s₃ m₃ E' hv hn hm hk
    obtain ⟨n, _, tn, rfl⟩ := paired_mem hseg v hv
    obtain ⟨hp3, ge, dr, k3, os⟩ := s₃
    have kk : ∀ b o, Heap.get? _ b = some o → hp3.get? b = some o := fun b o e => hk b o (F9.keep b o e)
    repeat walk_at "m1"
    refine nmG (v := .ref 35) X TR kk (by kernel_rfl) ?_ rfl rfl rfl (by decide)
    repeat walk_at "m1"
    refine c_mod (by decide) fun t' k' => ?_
    have hn10 := fmod_lt n (b := 10) (by decide)
    refine item_l (cas_list (X.keeps kk)) hn10.1 (by omega) (cAddrs_at (by omega)) rfl ?_
    refine ⟨?_, _, _, rfl, fun _ _ e => e⟩
    rintro n' ⟨t'', e⟩
    injection e with e1 e2
    subst e1
    exact ⟨_, rfl, crow_at n⟩
  intro D7 h10 k10 yc hD7 hPc hFc kp10
  have hcs : Paired CasR yc.toList ((seg ns 1 sz).map crow) := paired_map crow (fun v a y r f => f a r) hseg hFc
  have F10 := F9.keeps kp10
  have U10 := U9.keeps kp10
  have hdv10 := hdv9.at (kp10 _)
  have hD4L1 := ne_cell U10 hdv10.isList
  have hD7L := ne_list F10 hPc.isList
  have hD7L1 := ne_cell U10 hPc.isList
  refine c_stc F10 rfl rfl rfl U10 (Nat.lt_succ_self _) fun h11 F11 U11 hs11 => ?_
  have hdv11 := hdv10.at fun o e => hs11.extBut _ _ hD4L1 e
  have hPc11 := hPc.at fun o e => hs11.extBut _ _ hD7L1 e
  clear U10 U9 U7 F10 F9 F8 FN hs11 kp10 kp9 kp8 hFc hP6 hP5 hdv7 hdv9 hdv10
  repeat (first | walk_at "m1" | dsimp only)
  -- plain
  refine asg_comp_list F11 (cl := []) (fun v y => ∀ n, IsI v n → PlaR y (prow1 n)) (by k_dflt rfl) (by rfl) (by decide) rfl (by decide) rfl rfl (by k_dflt rfl) rfl rfl ?_
  repeat walk_at "m1"
  refine c_mull hdv11 (by omega) (by omega) fun D8 h12 hD8 hP8 kp12 => ?_
  have F12 := F11.keeps kp12
  repeat walk_at "m1"
  refine c_cut_l hP8.isList (.int _ _) (.int _ _) (by rw [Array.size_append]; omega) fun D9 h13 hD9 hP9 kp13 => ?_
  have F13 := F12.keeps kp13
  have U13 := (U11.keeps kp12).keeps kp13
  have hdv13 := (hdv11.at (kp12 _)).at (kp13 _)
  have hPc13 := (hPc11.at (kp12 _)).at (kp13 _)
  have hseg2 := seg_paired 2 sz hd (by omega) (lo := 2) (up := (sz : Int) + 2) rfl (by omega)
  refine ⟨D9, _, _, rfl, F13, hP9.isList, ?_, ?_, ?_⟩
  · refine Nat.le_trans (slicePick_size_le _ _ _ _) (Nat.le_trans (?_ : _ ≤ 100) (by decide)); rw [Array.size_append]; omega
  · intro C v s₃ m₃ E' hv hn hm hk
    obtain ⟨n, _, tn, rfl⟩ := paired_mem hseg2 v hv
    obtain ⟨hp3, ge, dr, k3, os⟩ := s₃
    have kk : ∀ b o, Heap.get? _ b = some o → hp3.get? b = some o := fun b o e => hk b o (F13.keep b o e)
    repeat walk_at "m1"
    refine nmG (v := .ref 44) X TR kk (by kernel_rfl) ?_ rfl rfl rfl (by decide)
    repeat walk_at "m1"
    by_cases hgt : 9 < n
    · refine ite_pos (by simpa using hgt) ?_
      repeat walk_at "m1"
      refine c_fdiv (by decide) (PyProof.noPylong_small (by omega)) fun t' k' => ?_
      repeat walk_at "m1"
      refine c_mod (by decide) fun t' k' => ?_
      have hn8 := fmod_lt (Int.fdiv n 10) (b := 8) (by decide)
      refine item_l (pla_list (X.keeps kk)) hn8.1 (by omega) (pAddrs_at (by omega)) rfl ?_
      refine ⟨?_, _, _, rfl, fun _ _ e => e⟩
      rintro n' ⟨t'', e⟩
      injection e with e1 e2
      subst e1
      rw [prow1, if_pos hgt]
      exact ⟨_, rfl, prow_at _⟩
    · refine ite_neg (by simpa using hgt) ?_
      repeat walk_at "m1"
      refine c_mod (by decide) fun t' k' => ?_
      have hn8 := fmod_lt (n + 1) (b := 8) (by decide)
      refine item_l (pla_list (X.keeps kk)) hn8.1 (by omega) (pAddrs_at (by omega)) rfl ?_
      refine ⟨?_, _, _, rfl, fun _ _ e => e⟩
      rintro n' ⟨t'', e⟩
      injection e with e1 e2
      subst e1
      rw [prow1, if_neg hgt]
      exact ⟨_, rfl, prow_at _⟩
  intro D10 h14 k14 yp hD10 hPp hFp F14 kp14
  have hps : Paired PlaR yp.toList ((seg ns 2 sz).map prow1) := paired_map prow1 (fun v a y r f => f a r) hseg2 hFp
  have hdv14 := pl_ne hdv13 kp14 hD4L
  have hPc14 := pl_ne hPc13 kp14 hD7L
  have U14 := cell_ne U13 kp14 (Nat.succ_ne_self _)
  obtain ⟨N14, FN14, Nd14, Ns14, Np14⟩ : ∃ N, Fr _ _ h14 N ∧ N (Str.ofString "draws") = some (.ref D4) ∧ N (Str.ofString "size") = some (.int (sz : Int) t7) ∧ N (Str.ofString "plain") = some (.ref D10) := ⟨_, F14, by k_dflt exact Nd, by k_dflt exact Ns, by k_dflt rfl⟩
  clear F14 F13 F12 F11 U13 U11 hdv13 hdv11 hPc13 hPc11 hP8 hP9 kp12 kp13 kp14 Nd Ns hFp
  repeat (first | walk_at "m1" | dsimp only)
  -- more
  refine asg_comp_list FN14 (cl := []) (fun v y => ∀ n, IsI v n → PlaR y (prow2 n)) (by k_dflt rfl) (by rfl) (by decide) rfl (by decide) rfl rfl (by k_dflt rfl) rfl rfl ?_
  repeat walk_at "m1"
  refine c_mull hdv14 (by omega) (by omega) fun D11 h15 hD11 hP11 kp15 => ?_
  have F15 := FN14.keeps kp15
  have hdv15 := hdv14.at (kp15 _)
  repeat walk_at "m1"
  refine item_l hdv15.isList (by decide) (by decide) (by simpa using hv1) rfl ?_
  repeat walk_at "m1"
  refine c_mod (by decide) fun t' k' => ?_
  rw [hmz]
  repeat walk_at "m1"
  refine c_cut_l hP11.isList (.int _ _) (.int _ _) (by rw [Array.size_append]; omega) fun D12 h16 hD12 hP12 kp16 => ?_
  have F16 := F15.keeps kp16
  have U16 := (U14.keeps kp15).keeps kp16
  have hPc16 := (hPc14.at (kp15 _)).at (kp16 _)
  have hPp16 := (hPp.at (kp15 _)).at (kp16 _)
  have hseg3 := seg_paired 3 (mz + 1) hd (by omega) (lo := 3) (up := (3 + 1 + (mz : Int))) rfl (by omega)
  have hD10L := ne_list FN14 hPp.isList
  refine ⟨D12, _, _, rfl, F16, hP12.isList, ?_, ?_, ?_⟩
  · refine Nat.le_trans (slicePick_size_le _ _ _ _) (Nat.le_trans (?_ : _ ≤ 100) (by decide)); rw [Array.size_append]; omega
  · intro C v s₃ m₃ E' hv hn hm hk
    obtain ⟨n, _, tn, rfl⟩ := paired_mem hseg3 v hv
    obtain ⟨hp3, ge, dr, k3, os⟩ := s₃
    have kk : ∀ b o, Heap.get? _ b = some o → hp3.get? b = some o := fun b o e => hk b o (F16.keep b o e)
    repeat walk_at "m1"
    refine nmG (v := .ref 44) X TR kk (by kernel_rfl) ?_ rfl rfl rfl (by decide)
    repeat walk_at "m1"
    refine c_mod (by decide) fun t' k' => ?_
    have hn8 := fmod_lt (n + 1) (b := 8) (by decide)
    refine item_l (pla_list (X.keeps kk)) hn8.1 (by omega) (pAddrs_at (by omega)) rfl ?_
    refine ⟨?_, _, _, rfl, fun _ _ e => e⟩
    rintro n' ⟨t'', e⟩
    injection e with e1 e2
    subst e1
    exact ⟨_, rfl, prow_at _⟩
  intro D13 h17 k17 ym hD13 hPm hFm F17 kp17
  have hms : Paired PlaR ym.toList ((seg ns 3 (mz + 1)).map prow2) := paired_map prow2 (fun v a y r f => f a r) hseg3 hFm
  have hPc17 := pl_ne hPc16 kp17 hD7L
  have hPp17 := pl_ne hPp16 kp17 hD10L
  have U17 := cell_ne U16 kp17 (Nat.succ_ne_self _)
  obtain ⟨N17, FN17, Ns17, Np17, Nm17⟩ : ∃ N, Fr _ _ h17 N ∧ N (Str.ofString "size") = some (.int (sz : Int) t7) ∧ N (Str.ofString "plain") = some (.ref D10) ∧ N (Str.ofString "more") = some (.ref D13) := ⟨_, F17, by k_dflt exact Ns14, by k_dflt exact Np14, by k_dflt rfl⟩
  have hD13L := ne_list FN17 hPm.isList
  -- the rows are known now; the draws are done
  obtain ⟨cs, hcs, hcm, hcl⟩ : ∃ cs, Paired CasR yc.toList cs ∧ (∀ r ∈ cs, r ∈ CT) ∧ cs.length = sz := ⟨_, hcs, fun r hr => by obtain ⟨n, _, rfl⟩ := List.mem_map.mp hr; exact crow_mem n, by rw [List.length_map, seg_len (by omega)]⟩
  obtain ⟨ps, hps, hpm, hpl⟩ : ∃ ps, Paired PlaR yp.toList ps ∧ (∀ r ∈ ps, r ∈ PT) ∧ ps.length = sz := ⟨_, hps, fun r hr => by obtain ⟨n, _, rfl⟩ := List.mem_map.mp hr; exact prow1_mem n, by rw [List.length_map, seg_len (by omega)]⟩
  obtain ⟨ms, hms, hmm, hml, hml2⟩ : ∃ ms, Paired PlaR ym.toList ms ∧ (∀ r ∈ ms, r ∈ PT) ∧ 0 < ms.length ∧ ms.length ≤ 3 := ⟨_, hms, fun r hr => by obtain ⟨n, _, rfl⟩ := List.mem_map.mp hr; exact prow_mem _, by rw [List.length_map, seg_len (by omega)]; omega, by rw [List.length_map, seg_len (by omega)]; omega⟩
  clear F17 F16 F15 FN14 U16 U14 hdv15 hdv14 hPc16 hPc14 hPp16 hPp hP11 hP12 kp15 kp16 kp17 Nd14 Ns14 Np14 hFm hseg hseg2 hseg3 hv0 hv1 hd0 hd1 hd hdl hDl hdz hmz hsz
  repeat (first | walk_at "m1" | dsimp only)
  -- cased_text
  refine c_join rfl fun t20 => ?_
  refine comp_list (cl := []) (fun v y => ∀ r, CasR v r → IsS y ⟨#[r.1]⟩) (by rfl) (by decide) rfl (by decide) rfl rfl ?_
  refine ldCe U17 ?_ rfl (by k_dflt rfl) (by k_dflt rfl) (by decide)
  have hycl : yc.size = cs.length := by have := paired_len hcs; simpa using this
  have hypl : yp.size = ps.length := by have := paired_len hps; simpa using this
  have hyml : ym.size = ms.length := by have := paired_len hms; simpa using this
  refine ⟨D7, _, rfl, hPc17.isList, Nat.le_trans (by omega : yc.size ≤ 100) (by decide), ?_, ?_⟩
  · intro C v s₃ m₃ E' hv hn hm hk
    obtain ⟨r, hr, hvr⟩ := paired_mem hcs v hv
    obtain ⟨kr, rfl, hkr⟩ := id hvr
    obtain ⟨hp3, ge, dr, k3, os⟩ := s₃
    have kk : ∀ b o, Heap.get? _ b = some o → hp3.get? b = some o := fun b o e => hk b o (FN17.keep b o e)
    obtain ⟨tr, hT⟩ := cas_row (X.keeps kk) hkr
    repeat walk_at "m1"
    refine item_t hT (by decide) (by decide) rfl rfl ?_
    refine ⟨fun r' h' => ?_, _, _, rfl, fun _ _ e => e⟩
    rw [← casR_uniq hvr h']; exact ⟨_, rfl⟩
  intro D14 h18 k18 y1 hD14 hl14 hF14 kp18
  have hj1 := paired_map (fun r : Nat × Bool => (⟨#[r.1]⟩ : Str)) (fun v a y r f => f a r) hcs hF14
  refine ⟨D14, _, _, rfl, hl14.isList, hj1, (fun y hy => by obtain ⟨r, _, rfl⟩ := List.mem_map.mp hy; show 1 ≤ 1000; decide), by rw [List.length_map]; omega, ?_⟩
  intro _ _ _ _ _ e t21 k21
  cases e
  rw [show cat (cs.map fun r => (⟨#[r.1]⟩ : Str)) = ctxt cs from cat_signs _ _]
  refine c_st (FN17.keeps kp18) rfl (by k_dflt rfl) rfl fun h19 k19 F19 hs19 => ?_
  have U19 := cell_but (U17.keeps kp18) hs19 (Nat.succ_ne_self _)
  have hPc19 := pl_ne (hPc17.at (kp18 _)) hs19.extBut hD7L
  have hPp19 := pl_ne (hPp17.at (kp18 _)) hs19.extBut hD10L
  have hPm19 := pl_ne (hPm.at (kp18 _)) hs19.extBut hD13L
  clear U17 hPc17 hPp17 hPm kp18 hs19 hl14 hF14 hj1
  repeat (first | walk_at "m1" | dsimp only)
  -- plain_text
  refine c_join rfl fun t22 => ?_
  refine comp_list (cl := []) (fun v y => ∀ r, PlaR v r → IsS y ⟨#[r.1]⟩) (by rfl) (by decide) rfl (by decide) rfl rfl ?_
  refine ldLoc F19 (by k_dflt exact Np17) ?_ (by k_dflt rfl) (by k_dflt rfl) (by decide)
  refine ⟨D10, _, rfl, hPp19.isList, Nat.le_trans (by omega : yp.size ≤ 100) (by decide), ?_, ?_⟩
  · intro C v s₃ m₃ E' hv hn hm hk
    obtain ⟨r, hr, hvr⟩ := paired_mem hps v hv
    obtain ⟨kr, rfl, hkr⟩ := id hvr
    obtain ⟨hp3, ge, dr, k3, os⟩ := s₃
    have kk : ∀ b o, Heap.get? _ b = some o → hp3.get? b = some o := fun b o e => hk b o (F19.keep b o e)
    obtain ⟨tr, tr2, tr3, hT⟩ := pla_row (X.keeps kk) hkr
    repeat walk_at "m1"
    refine item_t hT (by decide) (by decide) rfl rfl ?_
    refine ⟨fun r' h' => ?_, _, _, rfl, fun _ _ e => e⟩
    rw [← plaR_uniq hvr h']; exact ⟨_, rfl⟩
  intro D15 h20 k20 y2 hD15 hl15 hF15 kp20
  have hj2 := paired_map (fun r : Nat × Str × Str => (⟨#[r.1]⟩ : Str)) (fun v a y r f => f a r) hps hF15
  refine ⟨D15, _, _, rfl, hl15.isList, hj2, (fun y hy => by obtain ⟨r, _, rfl⟩ := List.mem_map.mp hy; show 1 ≤ 1000; decide), by rw [List.length_map]; omega, ?_⟩
  intro _ _ _ _ _ e t23 k23
  cases e
  rw [show cat (ps.map fun r => (⟨#[r.1]⟩ : Str)) = ptxt ps from cat_signs _ _]
  refine c_st (F19.keeps kp20) rfl (by k_dflt rfl) rfl fun h21 k21 F21 hs21 => ?_
  have U21 := cell_but (U19.keeps kp20) hs21 (Nat.succ_ne_self _)
  have hPc21 := pl_ne (hPc19.at (kp20 _)) hs21.extBut hD7L
  have hPp21 := pl_ne (hPp19.at (kp20 _)) hs21.extBut hD10L
  have hPm21 := pl_ne (hPm19.at (kp20 _)) hs21.extBut hD13L
  obtain ⟨N21, FN21, Ns21, Np21, Nm21, Nct21, Npt21⟩ : ∃ N, Fr _ _ h21 N ∧ N (Str.ofString "size") = some (.int (sz : Int) t7) ∧ N (Str.ofString "plain") = some (.ref D10) ∧ N (Str.ofString "more") = some (.ref D13) ∧ N (Str.ofString "cased_text") = some (.str (ctxt cs) t21) ∧ N (Str.ofString "plain_text") = some (.str (ptxt ps) t23) :=
    ⟨_, F21, by k_dflt exact Ns17, by k_dflt exact Np17, by k_dflt exact Nm17, by k_dflt rfl, by k_dflt rfl⟩
  clear F21 F19 FN17 U19 hPc19 hPp19 hPm19 kp20 hs21 hl15 hF15 hj2 Ns17 Np17 Nm17
  dsimp only
  walk_at "m1"
  walk_at "m1"
  walk_at "m1"
  -- want
  refine nmG (v := .ref 56) X TR FN21.keep (by kernel_rfl) ?_ rfl rfl rfl (by decide)
  with_reducible refine callWith_K (K := K1 _) X (by kernel_rfl) ?_ (by k_dflt rfl) (by k_dflt rfl)
  walk_at "m1"
  refine ldCe U21 ?_ rfl (by k_dflt rfl) (by k_dflt rfl) (by decide)
  repeat walk_at "m1"
  refine ⟨X.keeps FN21.keep, ?_⟩
  refine carry_spec (X.keeps FN21.keep) (TR.keeps FN21.keep) (by rw [room]; decide) rfl hPc21.isList hPp21.isList hcs hps (by omega) (by omega) (fun y hy => Nat.le_trans (carry_len hpm y hy) (by decide)) fun t24 h22 k22 kp22 => ?_
  refine c_st (FN21.keeps kp22) rfl (by k_dflt rfl) rfl fun h23 k23 F23 hs23 => ?_
  have U23 := cell_but (U21.keeps kp22) hs23 (Nat.succ_ne_self _)
  have hPc23 := pl_ne (hPc21.at (kp22 _)) hs23.extBut hD7L
  have hPp23 := pl_ne (hPp21.at (kp22 _)) hs23.extBut hD10L
  have hPm23 := pl_ne (hPm21.at (kp22 _)) hs23.extBut hD13L
  obtain ⟨N23, FN23, Ns23, Np23, Nm23, Nct23, Npt23, Nw23⟩ : ∃ N, Fr _ _ h23 N ∧ N (Str.ofString "size") = some (.int (sz : Int) t7) ∧ N (Str.ofString "plain") = some (.ref D10) ∧ N (Str.ofString "more") = some (.ref D13) ∧ N (Str.ofString "cased_text") = some (.str (ctxt cs) t21) ∧ N (Str.ofString "plain_text") = some (.str (ptxt ps) t23) ∧ N (Str.ofString "want") = some (.str (cat (carry cs ps)) t24) :=
    ⟨_, F23, by k_dflt exact Ns21, by k_dflt exact Np21, by k_dflt exact Nm21, by k_dflt exact Nct21, by k_dflt exact Npt21, by k_dflt rfl⟩
  clear F23 FN21 U21 hPc21 hPp21 hPm21 kp22 hs23 Ns21 Np21 Nm21 Nct21 Npt21
  dsimp only
  walk_at "m1"
  walk_at "m1"
  walk_at "m1"
  walk_at "m1"
  -- matching
  have hcl1 := ctxt_len cs
  have hpl1 := ptxt_len ps
  refine nmG (v := .ref 19) X TR FN23.keep (by kernel_rfl) ?_ rfl rfl rfl (by decide)
  with_reducible refine callWith_K (K := K1 _) X (by kernel_rfl) ?_ (by k_dflt rfl) (by k_dflt rfl)
  repeat walk_at "m1"
  refine ⟨X.keeps FN23.keep, ?_⟩
  refine wpAny_call (matching_spec (X.keeps FN23.keep) (TR.keeps FN23.keep) (by rw [room]; decide) rfl (by omega) (by omega) ?_)
  intro t25 h24 k24 kp24
  rw [match_carry hcm hpm]
  have F24 := FN23.keeps kp24
  have U24 := U23.keeps kp24
  have hPc24 := hPc23.at (kp24 _)
  have hPp24 := hPp23.at (kp24 _)
  have hPm24 := hPm23.at (kp24 _)
  clear FN23 U23 hPc23 hPp23 hPm23 kp24
  repeat walk_at "m1"
  refine ne_s ?_
  repeat walk_at "m1"
  refine ite_neg (by simp) ?_
  walk_at "m1"
  dsimp only
  walk_at "m1"
  -- the try
  refine wpAny_Try_except ?_
  walk_at "m1"
  refine wpAny_Expr ?_ (by rfl) (by rfl)
  walk_at "m1"
  refine nmG (v := .ref 19) X TR F24.keep (by kernel_rfl) ?_ rfl rfl rfl (by decide)
  with_reducible refine callWith_K (K := K1 _) X (by kernel_rfl) ?_ (by k_dflt rfl) (by k_dflt rfl)
  repeat walk_at "m1"
  refine c_adds (by omega) (by decide) fun t26 k26 => ?_
  repeat walk_at "m1"
  refine ⟨X.keeps F24.keep, ?_⟩
  have h1a : (Str.ofString "a").length = 1 := by decide
  have hpa := len_app (ptxt ps) (Str.ofString "a")
  obtain ⟨oL, es, ep, hoL, hdL, _⟩ := id F24.ns
  refine wpAny_call (matching_raises (X.keeps F24.keep) (TR.keeps F24.keep) (by rw [room]; decide) rfl rfl rfl (by show ScopeKind.function ≠ ScopeKind.module; decide) hoL (fun vs q => by rw [hdL] at q; cases q) (by omega) (by omega) (by omega) ?_)
  intro h25 k25 e25 a25 hfl hsm
  refine caughtV rfl rfl F24 hfl hsm (fun A' s₂ Q E F h => nmB (v := .type "ValueError") X TR F.keep (by kernel_rfl) PyProof.Rows.Boot.«ValueError» (by decide) h rfl rfl rfl rfl (by decide)) fun h26 F26 kp26 => ?_
  have U26 := cell_ne U24 kp26 (Nat.succ_ne_self _)
  have hPc26 := pl_ne hPc24 kp26 hD7L
  have hPp26 := pl_ne hPp24 kp26 hD10L
  have hPm26 := pl_ne hPm24 kp26 hD13L
  clear F24 U24 hPc24 hPp24 hPm24 kp26 hfl hsm hoL
  walk_at "m1"
  refine wpAny_Pass ?_
  dsimp only
  walk_at "m1"
  dsimp only
  walk_at "m1"
  repeat walk_at "m1"
  by_cases hsz0 : sz = 0
  · refine ite_pos (by simp [hsz0]) ?_
    repeat (first | walk_at "m1" | dsimp only)
    exact ⟨rfl, F26.keep, rfl, rfl⟩
  refine ite_neg (by simp; omega) ?_
  walk_at "m1"
  dsimp only
  walk_at "m1"
  walk_at "m1"
  walk_at "m1"
  walk_at "m1"
  -- similar, like lengths
  refine nmG (v := .ref 24) X TR F26.keep (by kernel_rfl) ?_ rfl rfl rfl (by decide)
  with_reducible refine callWith_K (K := K1 _) X (by kernel_rfl) ?_ (by k_dflt rfl) (by k_dflt rfl)
  iterate 5 walk_at "m1"
  refine nmG (v := .ref 51) X TR F26.keep (by kernel_rfl) ?_ rfl rfl rfl (by decide)
  repeat walk_at "m1"
  refine ⟨X.keeps F26.keep, ?_⟩
  refine wpAny_call (similar_one X TR F26.keep (Nat.le_trans F26.above (Nat.le_of_lt F26.ns.lt)) (by rw [room]; decide) rfl (by omega) (by omega) (by omega) (by omega) (lower_len hcm) ?_)
  intro t27 h27 k27 kp27
  rw [piece_le hcm hpm (by omega)]
  have F27 := F26.keeps kp27
  have U27 := U26.keeps kp27
  have hPc27 := hPc26.at (kp27 _)
  have hPp27 := hPp26.at (kp27 _)
  have hPm27 := hPm26.at (kp27 _)
  clear F26 U26 hPc26 hPp26 hPm26 kp27
  repeat walk_at "m1"
  refine ne_s ?_
  repeat walk_at "m1"
  refine ite_neg (by simp) ?_
  walk_at "m1"
  dsimp only
  walk_at "m1"
  -- the shorter text
  have hwl : (cat (carry cs ps)).length ≤ 3 * 8 := by
    refine Nat.le_trans (len_cat_le (carry_len hpm)) (Nat.mul_le_mul_left _ ?_)
    rw [carry, List.length_zipWith]; omega
  refine wpAny_mono (Q := fun f s' => f = .next ∧ ∃ h' k' N, s' = ⟨h', S1.gens, S1.drawn, k', S1.os⟩ ∧ Fr S1.heap S1.heap.objs.size h' N ∧ N (Str.ofString "more") = some (.ref D13) ∧ N (Str.ofString "cased_text") = some (.str (ctxt cs) t21) ∧ N (Str.ofString "plain_text") = some (.str (ptxt ps) t23) ∧ N (Str.ofString "want") = some (.str (cat (carry cs ps)) t24) ∧
    h'.IsCell (S1.heap.objs.size + 1) (some (.ref D7)) ∧ h'.PlainList D7 yc ∧ h'.PlainList D13 ym) (E := fun _ _ => False) ?_ ?_ (fun _ _ x => x)
  · repeat walk_at "m1"
    by_cases hsz1 : 1 < sz
    · refine ite_pos (by simp; omega) ?_
      walk_at "m1"
      walk_at "m1"
      walk_at "m1"
      refine nmG (v := .ref 24) X TR F27.keep (by kernel_rfl) ?_ rfl rfl rfl (by decide)
      with_reducible refine callWith_K (K := K1 _) X (by kernel_rfl) ?_ (by k_dflt rfl) (by k_dflt rfl)
      repeat walk_at "m1"
      refine c_cut_ns (by omega) (by omega) (by omega) fun h28 t28 k28 kp28 => ?_
      rw [show ((sz : Int) - 1).toNat = sz - 1 by omega, ptxt_take]
      have F28 := F27.keeps kp28
      have htk : (ps.take (sz - 1)).length = sz - 1 := by rw [List.length_take]; omega
      have htl := ptxt_len (ps.take (sz - 1))
      have htm : ∀ q ∈ ps.take (sz - 1), q ∈ PT := fun q hq => hpm q (List.mem_of_mem_take hq)
      walk_at "m1"
      refine nmG (v := .ref 51) X TR F28.keep (by kernel_rfl) ?_ rfl rfl rfl (by decide)
      repeat walk_at "m1"
      refine ⟨X.keeps F28.keep, ?_⟩
      refine wpAny_call (similar_one X TR F28.keep (Nat.le_trans F28.above (Nat.le_of_lt F28.ns.lt)) (by rw [room]; decide) rfl (by omega) (by omega) (by omega) (by omega) (lower_len hcm) ?_)
      intro t29 h29 k29 kp29
      rw [piece_le hcm htm (by omega)]
      have F29 := F28.keeps kp29
      refine c_st F29 rfl (by k_dflt rfl) rfl fun h30 k30 F30 hs30 => ?_
      have U30 := cell_but ((U27.keeps kp28).keeps kp29) hs30 (Nat.succ_ne_self _)
      have hPc30 := pl_ne ((hPc27.at (kp28 _)).at (kp29 _)) hs30.extBut hD7L
      have hPp30 := pl_ne ((hPp27.at (kp28 _)).at (kp29 _)) hs30.extBut hD10L
      have hPm30 := pl_ne ((hPm27.at (kp28 _)).at (kp29 _)) hs30.extBut hD13L
      clear F28 F29 kp28 kp29 hs30
      dsimp only
      iterate 5 walk_at "m1"
      refine nmG (v := .ref 56) X TR F30.keep (by kernel_rfl) ?_ rfl rfl rfl (by decide)
      with_reducible refine callWith_K (K := K1 _) X (by kernel_rfl) ?_ (by k_dflt rfl) (by k_dflt rfl)
      walk_at "m1"
      refine ldCe U30 ?_ rfl (by k_dflt rfl) (by k_dflt rfl) (by decide)
      repeat walk_at "m1"
      refine c_cut_l hPp30.isList .none (.int _ _) (by omega) fun D16 h32 hD16 hP16 kp32 => ?_
      rw [show ((sz : Int) - 1) = ((sz - 1 : Nat) : Int) by omega, slicePick_upto'] at hP16
      have F32 := F30.keeps kp32
      have hptk : Paired PlaR (yp.toList.take (sz - 1)).toArray.toList (ps.take (sz - 1)) := paired_take hps (sz - 1)
      repeat walk_at "m1"
      refine ⟨X.keeps F32.keep, ?_⟩
      refine carry_spec (X.keeps F32.keep) (TR.keeps F32.keep) (by rw [room]; decide) rfl (hPc30.at (kp32 _)).isList hP16.isList hcs hptk (by omega) (by omega) (fun y hy => Nat.le_trans (carry_len htm y hy) (by decide)) fun t33 h33 k33 kp33 => ?_
      refine ne_s ?_
      repeat walk_at "m1"
      refine ite_neg (by simp) ?_
      repeat (first | walk_at "m1" | dsimp only)
      exact ⟨rfl, h33, _, _, rfl, F32.keeps kp33, by k_dflt exact Nm23, by k_dflt exact Nct23, by k_dflt exact Npt23, by k_dflt exact Nw23, (U30.keeps kp32).keeps kp33, (hPc30.at (kp32 _)).at (kp33 _), (hPm30.at (kp32 _)).at (kp33 _)⟩
    · refine ite_neg (by simp; omega) ?_
      walk_at "m1"
      exact ⟨rfl, h27, _, _, rfl, F27, Nm23, Nct23, Npt23, Nw23, U27, hPc27, hPm27⟩
  clear F27 U27 hPc27 hPp27 hPm27
  rintro f s' ⟨rfl, h31, k31, N31, rfl, F31, Nm31, Nct31, Npt31, Nw31, U31, hPc31, hPm31⟩
  dsimp only
  iterate 2 walk_at "m1"
  -- tail
  obtain ⟨lr, hlr⟩ : ∃ r, cs[cs.length - 1]? = some r := ⟨_, List.getElem?_eq_getElem (by omega)⟩
  obtain ⟨_, hvl, kl, rfl, hkl⟩ := paired_get hcs _ _ hlr
  have hvl' : yc[yc.size - 1]? = some (.ref (25 + kl)) := by rw [hycl]; simpa using hvl
  refine c_join rfl fun t34 => ?_
  refine comp_list (cl := [(Str.ofString "cased", S1.heap.objs.size + 1)]) (fun v y => ∀ r, PlaR v r → IsS y (pick lr r)) (by rfl) (by decide) rfl (by decide) rfl rfl ?_
  refine ldLoc F31 Nm31 ?_ (by k_dflt rfl) (by k_dflt rfl) (by decide)
  refine ⟨D13, _, rfl, hPm31.isList, Nat.le_trans (by omega : ym.size ≤ 100) (by decide), ?_, ?_⟩
  · intro C v s₃ m₃ E' hv hn hm hk
    obtain ⟨r, hr, hvr⟩ := paired_mem hms v hv
    obtain ⟨kr, rfl, hkr⟩ := id hvr
    obtain ⟨hp3, ge, dr, k3, os⟩ := s₃
    have kk : ∀ b o, Heap.get? _ b = some o → hp3.get? b = some o := fun b o e => hk b o (F31.keep b o e)
    obtain ⟨tr, tr2, tr3, hT⟩ := pla_row (X.keeps kk) hkr
    obtain ⟨tl, hTl⟩ := cas_row (X.keeps kk) hkl
    have Us : hp3.IsCell _ _ := U31.keeps hk
    have hlc := hPc31.at (hk _)
    refine wpAny_IfExp (wpAny_isTrue_value ?_ rfl)
    repeat walk_at "m1"
    refine ldCellK rfl Us ?_ (by k_dflt rfl) (by k_dflt rfl) (by decide)
    repeat walk_at "m1"
    refine item_l1 hlc.isList hvl' rfl ?_
    repeat walk_at "m1"
    refine item_t hTl (by decide) (by decide) rfl rfl ?_
    refine wpAny_truthy_bool ?_
    cases hb : lr.2
    · refine ite_neg (by decide) ?_
      repeat walk_at "m1"
      refine item_t hT (by decide) (by decide) rfl rfl ?_
      refine ⟨fun r' h' => ?_, _, _, rfl, fun _ _ e => e⟩
      rw [← plaR_uniq hvr h']; exact ⟨tr3, by rw [pick, hb, if_neg (by decide)]; rfl⟩
    · refine ite_pos rfl ?_
      repeat walk_at "m1"
      refine item_t hT (by decide) (by decide) rfl rfl ?_
      refine ⟨fun r' h' => ?_, _, _, rfl, fun _ _ e => e⟩
      rw [← plaR_uniq hvr h']; exact ⟨tr2, by rw [pick, hb, if_pos rfl]; rfl⟩
  intro D17 h35 k35 y3 hD17 hl17 hF17 kp35
  have hj3 := paired_map (pick lr) (fun v a y r f => f a r) hms hF17
  have hpk : ∀ y ∈ ms.map (pick lr), y.length ≤ 3 := fun y hy => by
    obtain ⟨r, hr, rfl⟩ := List.mem_map.mp hy
    have := PT_len r (hmm r hr)
    unfold pick
    split
    · exact this.1
    · exact this.2
  refine ⟨D17, _, _, rfl, hl17.isList, hj3, (fun y hy => Nat.le_trans (hpk y hy) (by decide)), by rw [List.length_map]; omega, ?_⟩
  intro _ _ _ _ _ e t36 k36
  cases e
  refine c_st (F31.keeps kp35) rfl (by k_dflt rfl) rfl fun h37 k37 F37 hs37 => ?_
  have hPm37 := pl_ne (hPm31.at (kp35 _)) hs37.extBut hD13L
  obtain ⟨N37, FN37, Nm37, Nct37, Npt37, Nw37, Nt37⟩ : ∃ N, Fr _ _ h37 N ∧ N (Str.ofString "more") = some (.ref D13) ∧ N (Str.ofString "cased_text") = some (.str (ctxt cs) t21) ∧ N (Str.ofString "plain_text") = some (.str (ptxt ps) t23) ∧ N (Str.ofString "want") = some (.str (cat (carry cs ps)) t24) ∧ N (Str.ofString "tail") = some (.str (cat (ms.map (pick lr))) t36) :=
    ⟨_, F37, by k_dflt exact Nm31, by k_dflt exact Nct31, by k_dflt exact Npt31, by k_dflt exact Nw31, by k_dflt rfl⟩
  have htail := len_cat_le hpk
  rw [List.length_map] at htail
  clear F37 F31 U31 hPc31 hPm31 hs37 kp35 hl17 hF17 hj3 hpk Nm31 Nct31 Npt31 Nw31
  dsimp only
  walk_at "m1"
  walk_at "m1"
  walk_at "m1"
  walk_at "m1"
  refine nmG (v := .ref 24) X TR FN37.keep (by kernel_rfl) ?_ rfl rfl rfl (by decide)
  with_reducible refine callWith_K (K := K1 _) X (by kernel_rfl) ?_ (by k_dflt rfl) (by k_dflt rfl)
  repeat walk_at "m1"
  refine c_join rfl fun t38 => ?_
  refine comp_list (cl := []) (fun v y => ∀ r, PlaR v r → IsS y ⟨#[r.1]⟩) (by rfl) (by decide) rfl (by decide) rfl rfl ?_
  refine ldLoc FN37 Nm37 ?_ (by k_dflt rfl) (by k_dflt rfl) (by decide)
  refine ⟨D13, _, rfl, hPm37.isList, Nat.le_trans (by omega : ym.size ≤ 100) (by decide), ?_, ?_⟩
  · intro C v s₃ m₃ E' hv hn hm hk
    obtain ⟨r, hr, hvr⟩ := paired_mem hms v hv
    obtain ⟨kr, rfl, hkr⟩ := id hvr
    obtain ⟨hp3, ge, dr, k3, os⟩ := s₃
    have kk : ∀ b o, Heap.get? _ b = some o → hp3.get? b = some o := fun b o e => hk b o (FN37.keep b o e)
    obtain ⟨tr, tr2, tr3, hT⟩ := pla_row (X.keeps kk) hkr
    repeat walk_at "m1"
    refine item_t hT (by decide) (by decide) rfl rfl ?_
    refine ⟨fun r' h' => ?_, _, _, rfl, fun _ _ e => e⟩
    rw [← plaR_uniq hvr h']; exact ⟨_, rfl⟩
  intro D18 h38 k38 y4 hD18 hl18 hF18 kp38
  have hj4 := paired_map (fun r : Nat × Str × Str => (⟨#[r.1]⟩ : Str)) (fun v a y r f => f a r) hms hF18
  refine ⟨D18, _, _, rfl, hl18.isList, hj4, (fun y hy => by obtain ⟨r, _, rfl⟩ := List.mem_map.mp hy; show 1 ≤ 1000; decide), by rw [List.length_map]; omega, ?_⟩
  intro _ _ _ _ _ e t39 k39
  cases e
  rw [show cat (ms.map fun r => (⟨#[r.1]⟩ : Str)) = ptxt ms from cat_signs _ _]
  have F38 := FN37.keeps kp38
  have hml1 := ptxt_len ms
  have happ := len_app (ptxt ps) (ptxt ms)
  refine c_adds (by omega) (by omega) fun t40 k40 => ?_
  walk_at "m1"
  refine nmG (v := .ref 51) X TR F38.keep (by kernel_rfl) ?_ rfl rfl rfl (by decide)
  repeat walk_at "m1"
  refine ⟨X.keeps F38.keep, ?_⟩
  refine wpAny_call (similar_one X TR F38.keep (Nat.le_trans F38.above (Nat.le_of_lt F38.ns.lt)) (by rw [room]; decide) rfl (by omega) (by omega) (by omega) (by omega) (lower_len hcm) ?_)
  intro t41 h41 k41 kp41
  rw [piece_gt hcm hpm hmm (by omega) hlr hml]
  have F41 := F38.keeps kp41
  clear F38 FN37
  repeat walk_at "m1"
  refine c_adds (by omega) (by omega) fun t42 k42 => ?_
  refine eq_s ?_
  repeat (first | walk_at "m1" | dsimp only)
  exact ⟨by rw [decide_eq_true rfl], F41.keep, rfl, rfl⟩)
end Mine
end

theorem PySem.Challenge.cw_gb5018_01_holds : PySem.Challenge.rw_gb5018_01.Holds := by
  exact Mine.fin01
