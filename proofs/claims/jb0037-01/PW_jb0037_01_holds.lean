import PyProof.Rows.All
import Wide.All
import OpenK.AllK
import Wide.FinOn
import PySem.Challenge.RW_jb0037_01
/- texts of one proof, joined by a program; a section each -/
set_option Elab.async false
namespace Mine
/- Hd -/
section
open PySem PySem.W PyProof.Rows
set_option maxRecDepth 100000
set_option maxHeartbeats 8000000
open_top hd for PySem.Challenge.rw_jb0037_01
end
local macro_rules | `(tactic| walk_at "no such key") => `(tactic| fail)
/- L1 -/
section
open PySem PySem.W PyProof.Rows
set_option maxRecDepth 100000
theorem quietL1 : True := by w_top off; exact trivial
section
variable {prog : Program} {w : World} {A : Around} {E : Value → Shared → Prop}
/-- an iterator over bytes gives its next octet, or says that it is at its end -/
theorem draw {hp : Heap} {g d} {tk : Tok} {os} {it : Addr} {b : Array UInt8} {t : Tok} {i : Nat} {Q : Value → Shared → Prop} (hh : A.handled = none) (hit : KBw.IsBytesIter hp it b t i)
    (more : ∀ c, b[i]? = some c → ∀ h', KBw.IsBytesIter h' it b t (i + 1) → Heap.SameBut it hp h' → Q (.int (c.toNat : Int) tk) ⟨h', g, d, tk + 1, os⟩)
    (last : b[i]? = none → ∀ h' e, Heap.ExtBut it hp h' → (∃ o, h'.get? e = some o ∧ o.cls = .type "StopIteration") → E (.ref e) ⟨h', g, d, tk, os⟩) :
    wpAny (model prog w) A (Builtin.SmallTypes.nextOf (.ref it)) Q E ⟨hp, g, d, tk, os⟩ := by
  have ty := KBw.iter_typeIs (s := ⟨hp, g, d, tk, os⟩) hit
  obtain ⟨⟨cl, di, da, sl⟩, ho, hc, hd⟩ := hit
  cases hc; cases hd
  have hi1 : A.in1.handled = none := hh
  refine wpAny_bind (wpAny_callSpecial?_slot ty KBw.slot_next (wpAny_call_entry KBw.slot_next ty KBw.entry_next ?_ (KBw.args_next _)))
  wp_walk
  rw [Int.toNat_natCast]
  cases hx : b[i]? with
  | some c =>
    wp_walk
    exact ⟨_, rfl, wpAny_pure (more c hx _ ⟨_, Heap.get?_update_self _ ho rfl, rfl, rfl⟩ (Heap.SameBut.update ..))⟩
  | none =>
    wp_walk
    exact wpAny_raiseNew_none hi1 (last hx _ _ (((Heap.SameBut.update ..).extBut.push _).push _) ⟨_, Heap.get?_push_size _ rfl, rfl⟩)

/-- five places, each apart from the others -/
abbrev Apart (z TI TO i1 i2 : Addr) : Prop := [z, TI, TO, i1, i2].Nodup

theorem still {hp : Heap} {it a : Addr} {f : Obj → Obj} {b : Array UInt8} {t : Tok} {i : Nat} (ne : a ≠ it) (h : KBw.IsBytesIter hp it b t i) : KBw.IsBytesIter (hp.update a f) it b t i :=
  h.imp fun _ x => ⟨(Heap.get?_update_other _ _ ne).trans x.1, x.2⟩
theorem stay {hp h' : Heap} {it a : Addr} {b : Array UInt8} {t : Tok} {i : Nat} (ne : it ≠ a) (same : Heap.SameBut a hp h') (h : KBw.IsBytesIter hp it b t i) : KBw.IsBytesIter h' it b t i :=
  h.imp fun _ x => ⟨(same.2 _ ne).trans x.1, x.2⟩

theorem grow {hp : Heap} {it : Addr} {o : Obj} {b : Array UInt8} {t : Tok} {i : Nat} (h : KBw.IsBytesIter hp it b t i) : KBw.IsBytesIter (hp.push o) it b t i :=
  h.imp fun _ x => ⟨Heap.get?_push_of_some _ x.1, x.2⟩
/-- an exception that has ended a draw is no zip: it outlives the zip's own change -/
theorem ended {hp : Heap} {z TI TO e : Addr} {f0 : Value} {f : Obj → Obj} (hz : IsZip hp z TI TO f0) (he : ∃ o, hp.get? e = some o ∧ o.cls = .type "StopIteration") :
    ∃ o, (hp.update z f).get? e = some o ∧ o.cls = .type "StopIteration" := by
  obtain ⟨o, ho, hc⟩ := he
  refine ⟨o, (Heap.get?_update_other _ _ fun q => ?_).trans ho, hc⟩
  rw [← q, hz] at ho
  cases ho
  simp at hc

set_option maxHeartbeats 4000000 in
/-- one turn of a zip over two bytes: a pair of octets, or the end where one of the two ends -/
theorem zip_turn {hp : Heap} {g d} {tk : Tok} {os} {z TI TO i1 i2 : Addr} {k1 k2 : Nat} {b1 b2 : Array UInt8} {t1 t2 : Tok} {u v : Value} {Q : Fin → Shared → Prop} (hh : A.handled = none)
    (ap : Apart z TI TO i1 i2) (hz : IsZip hp z TI TO .none) (hI : IsPair hp TI (.ref i1) (.ref i2)) (hO : IsPair hp TO u v) (h1 : KBw.IsBytesIter hp i1 b1 t1 k1) (h2 : KBw.IsBytesIter hp i2 b2 t2 k2)
    (pair : ∀ x y, b1[k1]? = some x → b2[k2]? = some y → ∀ h' m n tk', IsZip h' z TI TO (rawInt hp.objs.size) → IsPair h' TO (.int (x.toNat : Int) m) (.int (y.toNat : Int) n) →
      KBw.IsBytesIter h' i1 b1 t1 (k1 + 1) → KBw.IsBytesIter h' i2 b2 t2 (k2 + 1) → IsPair h' hp.objs.size (.int (x.toNat : Int) m) (.int (y.toNat : Int) n) →
      (∀ c, c ∉ [z, TO, i1, i2] → ∀ o, hp.get? c = some o → h'.get? c = some o) → Q (.done (.ret (.ref hp.objs.size))) ⟨h', g, d, tk', os⟩)
    (stop : b1[k1]? = none ∨ b2[k2]? = none → ∀ h' e tk', (∀ c, c ∉ [z, TO, i1, i2] → ∀ o, hp.get? c = some o → h'.get? c = some o) → (∃ o, h'.get? e = some o ∧ o.cls = .type "StopIteration") →
      E (.ref e) ⟨h', g, d, tk', os⟩) :
    wpAny (model prog w) A (Builtin.«zip.__next__» ⟨[.ref z], []⟩) Q E ⟨hp, g, d, tk, os⟩ := by
  simp only [List.nodup_cons, List.mem_cons, List.not_mem_nil, or_false, not_or] at ap pair stop
  obtain ⟨⟨zI, zO, z1, z2⟩, ⟨IO, I1, I2⟩, ⟨O1, O2⟩, n12, -⟩ := ap
  wp_walk using wpAny_onRaise, draw hh (still z1 h1)
  case more =>
    intro x hx h₂ j1 s₂
    have hO₂ : IsPair h₂ TO u v := (s₂.2 _ O1).trans ((Heap.get?_update_other _ _ zO).trans hO)
    have j2 : KBw.IsBytesIter h₂ i2 b2 t2 k2 := stay (Ne.symm n12) s₂ (still z2 h2)
    have hz₂ : IsZip h₂ z TI TO .ellipsis := (s₂.2 _ z1).trans (Heap.get?_update_self _ hz rfl)
    wp_walk using wpAny_onRaise, draw hh (still O2 j2)
    case more =>
      intro y hy h₄ j3 s₄
      have hO₄ : IsPair h₄ TO (.int (x.toNat : Int) tk) v := (s₄.2 _ O2).trans (Heap.get?_update_self _ hO₂ rfl)
      have hz₄ : IsZip h₄ z TI TO .ellipsis := (s₄.2 _ z2).trans ((Heap.get?_update_other _ _ (Ne.symm zO)).trans hz₂)
      have j4 : KBw.IsBytesIter h₄ i1 b1 t1 (k1 + 1) := stay n12 s₄ (still O1 j1)
      have sz : (h₄.update TO (Obj.mapSeq fun x => x.setIfInBounds (0 + 1) (Value.int (y.toNat : Int) (tk + 1)))).objs.size = hp.objs.size :=
        (Heap.SameBut.update ..).1.trans (s₄.1.trans ((Heap.SameBut.update ..).1.trans (s₂.1.trans (Heap.SameBut.update ..).1)))
      have zn : z ≠ hp.objs.size := Nat.ne_of_lt (Heap.lt_size hz)
      wp_walk
      rw [sz]
      refine pair x y hx hy _ tk (tk + 1) _ ?_ ?_ (still z1 (still z1 (grow (still O1 j4)))) (still z2 (still z2 (grow (still O2 j3)))) ?_ ?_
      · exact Heap.get?_update_self _ (Heap.get?_update_self _ (Heap.get?_push_of_some _ ((Heap.get?_update_other _ _ (Ne.symm zO)).trans hz₄)) rfl) rfl
      · exact (Heap.get?_update_other _ _ zO).trans ((Heap.get?_update_other _ _ zO).trans (Heap.get?_push_of_some _ (Heap.get?_update_self _ hO₄ rfl)))
      · exact (Heap.get?_update_other _ _ zn).trans ((Heap.get?_update_other _ _ zn).trans (sz ▸ Heap.get?_push_size _ rfl))
      · intro c hc o e
        obtain ⟨cz, cO, c1, c2⟩ := hc
        refine (Heap.get?_update_other _ _ (Ne.symm cz)).trans ((Heap.get?_update_other _ _ (Ne.symm cz)).trans (Heap.get?_push_of_some _ ((Heap.get?_update_other _ _ (Ne.symm cO)).trans ?_)))
        rw [s₄.2 _ c2, Heap.get?_update_other _ _ (Ne.symm cO), s₂.2 _ c1, Heap.get?_update_other _ _ (Ne.symm cz), e]
    case last =>
      intro hy h₄ e s₄ he
      have hz₄ : IsZip h₄ z TI TO .ellipsis := s₄ _ _ z2 ((Heap.get?_update_other _ _ (Ne.symm zO)).trans hz₂)
      wp_walk
      refine stop (.inr hy) _ e _ (fun c hc o q => ?_) (ended hz₄ he)
      obtain ⟨cz, cO, c1, c2⟩ := hc
      refine (Heap.get?_update_other _ _ (Ne.symm cz)).trans (s₄ _ _ c2 ?_)
      rw [Heap.get?_update_other _ _ (Ne.symm cO), s₂.2 _ c1, Heap.get?_update_other _ _ (Ne.symm cz), q]
  case last =>
    intro hx h₂ e s₂ he
    have hz₂ : IsZip h₂ z TI TO .ellipsis := s₂ _ _ z1 (Heap.get?_update_self _ hz rfl)
    wp_walk
    refine stop (.inl hx) _ e _ (fun c hc o q => ?_) (ended hz₂ he)
    obtain ⟨cz, cO, c1, c2⟩ := hc
    exact (Heap.get?_update_other _ _ (Ne.symm cz)).trans (s₂ _ _ c1 ((Heap.get?_update_other _ _ (Ne.symm cz)).trans q))

/-- a zip that holds two iterators over bytes, each i octets on; what it says of the pair that it gave last is f0 -/
structure ZipHas (z TI TO i1 i2 : Addr) (bx bz : Array UInt8) (t1 t2 : Tok) (f0 : Value) (i : Nat) (h : Heap) : Prop where
  self : IsZip h z TI TO f0
  iters : IsPair h TI (.ref i1) (.ref i2)
  kept : ∃ a b, IsPair h TO a b
  fst : KBw.IsBytesIter h i1 bx t1 i
  snd : KBw.IsBytesIter h i2 bz t2 i
abbrev ZipSt (z TI TO i1 i2 : Addr) (bx bz : Array UInt8) (t1 t2 : Tok) (i : Nat) (h : Heap) : Prop := ZipHas z TI TO i1 i2 bx bz t1 t2 .none i h

theorem zip_next {s : Shared} {z TI TO i1 i2 : Addr} {i : Nat} {bx bz : Array UInt8} {t1 t2 : Tok} {Q : Option Value → Shared → Prop} (hh : A.handled = none) (ap : Apart z TI TO i1 i2) (st : ZipSt z TI TO i1 i2 bx bz t1 t2 i s.heap)
    (pair : ∀ x y, bx[i]? = some x → bz[i]? = some y → ∀ h' m n tk', ZipHas z TI TO i1 i2 bx bz t1 t2 (rawInt s.heap.objs.size) (i + 1) h' → IsPair h' s.heap.objs.size (.int (x.toNat : Int) m) (.int (y.toNat : Int) n) →
      (∀ c, c ∉ [z, TO, i1, i2] → ∀ o, s.heap.get? c = some o → h'.get? c = some o) → Q (some (.ref s.heap.objs.size)) { s with heap := h', toks := tk' })
    (stop : bx[i]? = none ∨ bz[i]? = none → ∀ h' tk', (∀ c, c ∉ [z, TO, i1, i2] → ∀ o, s.heap.get? c = some o → h'.get? c = some o) → Q none { s with heap := h', toks := tk' }) :
    wpAny (model prog w) A (pyNext (.ref z)) Q E s := by
  have ty : s.TypeIs (.ref z) "zip" := ⟨_, st.self, rfl⟩
  obtain ⟨a, b, hO⟩ := st.kept
  unfold pyNext
  refine wpAny_bind (wpAny_attempt (wpAny_callSpecial?_slot ty F.slot_zip_next (wpAny_call_entry F.slot_zip_next ty F.entry_zip_next
    (zip_turn hh ap st.self st.iters hO st.fst st.snd (fun x y hx hy h' m n tk' zz oo j1 j2 new keep => ?_) fun hend h' e tk' keep he => ?_) (F.args_zip_next_1 _))))
  · refine ⟨_, rfl, wpAny_pure (pair x y hx hy h' m n tk' ⟨zz, keep TI ?_ _ st.iters, ⟨_, _, oo⟩, j1, j2⟩ new keep)⟩
    simp only [List.nodup_cons, List.mem_cons, List.not_mem_nil, or_false, not_or] at ap ⊢
    exact ⟨Ne.symm ap.1.1, ap.2.1⟩
  · obtain ⟨o, ho, hc⟩ := he
    exact wpAny_bind (wpAny_isInstance (b := true) ⟨o, ho, hc⟩ isSubtype_stop (wpAny_pure (stop hend h' tk' keep)))

/-- a for or a generator may walk over such a zip -/
theorem zipb_walks (hh : A.handled = none) (z TI TO i1 i2 : Addr) (ap : Apart z TI TO i1 i2) (bx bz : Array UInt8) (t1 t2 : Tok) :
    WalksT prog w A z [z, TI, TO, i1, i2] [z, TO, i1, i2] (min bx.size bz.size)
      (fun i vals => ∃ x y u v, bx[i]? = some x ∧ bz[i]? = some y ∧ vals = #[.int (x.toNat : Int) u, .int (y.toNat : Int) v]) (ZipSt z TI TO i1 i2 bx bz t1 t2)
      (fun i T h => ZipHas z TI TO i1 i2 bx bz t1 t2 (rawInt T) (i + 1) h ∧ T ∉ [z, TO, i1, i2]) where
  sub := fun c hc => (List.mem_cons.mp hc).elim (fun e => e ▸ .head _) fun hc => .tail _ (.tail _ hc)
  frame := fun i h h' st keep => by
    have look : ∀ {it b t}, KBw.IsBytesIter h it b t i → it ∈ [z, TI, TO, i1, i2] → KBw.IsBytesIter h' it b t i := fun q hm => q.imp fun o x => ⟨keep _ hm o x.1, x.2⟩
    obtain ⟨a, b, hO⟩ := st.kept
    exact ⟨keep _ (by simp) _ st.self, keep _ (by simp) _ st.iters, ⟨a, b, keep _ (by simp) _ hO⟩, look st.fst (by simp), look st.snd (by simp)⟩
  item := fun i s Q E hi st hQ => by
    refine zip_next hh ap st (fun x y hx hy h' m n tk' zz new keep => hQ _ _ h' tk' ⟨x, y, m, n, hx, hy, rfl⟩ (Nat.le_refl _) ⟨_, new, rfl, _, rfl⟩ ⟨zz, ?_⟩ fun c o hc => keep c hc o) fun hend => ?_
    · obtain ⟨a, b, hO⟩ := st.kept
      obtain ⟨o1, g1, _⟩ := st.fst
      obtain ⟨o2, g2, _⟩ := st.snd
      have := Heap.lt_size st.self
      have := Heap.lt_size hO
      have := Heap.lt_size g1
      have := Heap.lt_size g2
      simp only [List.mem_cons, List.not_mem_nil, or_false, not_or]
      exact ⟨Nat.ne_of_gt ‹_›, Nat.ne_of_gt ‹_›, Nat.ne_of_gt ‹_›, Nat.ne_of_gt ‹_›⟩
    · have h1 := Nat.lt_of_lt_of_le hi (Nat.min_le_left bx.size bz.size)
      have h2 := Nat.lt_of_lt_of_le hi (Nat.min_le_right bx.size bz.size)
      simp only [Array.getElem?_eq_none_iff] at hend
      omega
  go := fun elts k pos i T s Q E hm hQ => by
    simp only [Apart, List.nodup_cons, List.mem_cons, List.not_mem_nil, or_false, not_or] at ap
    obtain ⟨⟨zI, zO, z1, z2⟩, -⟩ := ap
    obtain ⟨a, b, hO⟩ := hm.1.kept
    refine wpAny_letOwnedTupleGo_zip hm.1.self fun h' zz same => hQ h' ⟨zz, (same.2 _ (Ne.symm zI)).trans hm.1.iters, ⟨a, b, (same.2 _ (Ne.symm zO)).trans hO⟩, stay (Ne.symm z1) same hm.1.fst, stay (Ne.symm z2) same hm.1.snd⟩ fun c o hc q => ?_
    exact (same.2 _ fun e => hc (e ▸ .head _)).trans q
  apart := fun i T h hm => hm.2
  done := fun s Q E st hQ => by
    refine zip_next hh ap st (fun x y hx hy => ?_) fun _ h' tk' keep => hQ h' tk' fun c o hc => keep c hc o
    have h1 := (Array.getElem?_eq_some_iff.mp hx).1
    have h2 := (Array.getElem?_eq_some_iff.mp hy).1
    omega
  self := fun i s Q E st hQ => wpAny_pyIter_zip st.self hQ
end
end
local macro_rules | `(tactic| walk_at "no such key") => `(tactic| fail)
/- L2 -/
section
open PySem PySem.W PyProof.Rows
set_option maxRecDepth 100000
theorem quietL2 : True := by w_top off; exact trivial

abbrev biter (b : Array UInt8) (t : Tok) : Obj := { cls := .type "bytes_iterator", data := .fields #[.bytes b t, .int 0 0] }
abbrev pairO (a b : Value) : Obj := { cls := .type "tuple", data := .seq #[a, b] }
abbrev zipO (TI TO : Addr) : Obj := { cls := .type "zip", data := .fields #[.none, .bool false, .bool false, .ref TI, .ref TO] }
/-- the heap once zip(b, c) is made: its five new objects -/
abbrev zipped (h : Heap) (b c : Array UInt8) (t u : Tok) : Heap :=
  ((((h.push (biter b t)).push (biter c u)).push (pairO (.ref h.objs.size) (.ref (h.objs.size + 1)))).push (pairO .none .none)).push (zipO (h.objs.size + 2) (h.objs.size + 3))

set_option maxHeartbeats 2000000 in
theorem meets_zipb (b c : Array UInt8) (t u : Tok) :
    Meets (Builtin.«zip.__new__» ⟨[.type "zip", .bytes b t, .bytes c u], []⟩) (fun _ R s => R (.ok (.ret (.ref (s.heap.objs.size + 4)))) { s with heap := zipped s.heap b c t u }) :=
  .of_wp fun prog w A R s h => by
    obtain ⟨hp, g, d, tk, os⟩ := s
    have hsub := sub_zip
    wp_walk using KBw.pyIter_bytes
    simp only [Heap.size_push, Nat.add_assoc, Nat.reduceAdd] at h ⊢
    exact ⟨_, rfl, h⟩

section
variable {prog : Program} {w : World} {A : Around} {E : Value → Shared → Prop} {s : Shared}
theorem call_zipb {b c : Array UInt8} {t u : Tok} {Q : Value → Shared → Prop}
    (h : ∀ h', ZipSt (s.heap.objs.size + 4) (s.heap.objs.size + 2) (s.heap.objs.size + 3) s.heap.objs.size (s.heap.objs.size + 1) b c t u 0 h' → h'.objs.size = s.heap.objs.size + 5 →
      (∀ c o, s.heap.get? c = some o → h'.get? c = some o) → Q (.ref (s.heap.objs.size + 4)) { s with heap := h' }) :
    wpAny (model prog w) A (call (.type "zip") [.bytes b t, .bytes c u]) Q E s := by
  refine callType_new F.called_zip (by decide) (F.typeCall_zip_2 _ _) (F.newCall_zip_2 _ _) (fun obj => F.args_object_init_3 obj _ _) F.entry_zip_new (meets_zipb b c t u) ?_
  generalize hn : s.heap.objs.size = n at h ⊢
  have place : ∀ (h' : Heap) o k, h'.objs.size = k → o.isFreed = false → (h'.push o).get? k = some o := fun h' o k e x => e ▸ Heap.get?_push_size _ x
  have size : ∀ (h' : Heap) o k, h'.objs.size = k → (h'.push o).objs.size = k + 1 := fun h' o k e => by rw [Heap.size_push, e]
  have e1 := size _ (biter b t) _ hn
  have e2 := size _ (biter c u) _ e1
  have e3 := size _ (pairO (.ref n) (.ref (n + 1))) _ e2
  have e4 := size _ (pairO .none .none) _ e3
  have kept : ∀ {h' : Heap} {k o o'}, h'.get? k = some o → (h'.push o').get? k = some o := fun x => Heap.get?_push_of_some _ x
  have zip := place _ (zipO (n + 2) (n + 3)) _ e4 rfl
  have st : ZipSt (n + 4) (n + 2) (n + 3) n (n + 1) b c t u 0 (zipped s.heap b c t u) := by
    simp only [zipped, hn]
    exact ⟨zip, kept (kept (place _ _ _ e2 rfl)), ⟨_, _, kept (place _ _ _ e3 rfl)⟩, ⟨_, kept (kept (kept (kept (place _ _ _ hn rfl)))), rfl, rfl⟩, ⟨_, kept (kept (kept (place _ _ _ e1 rfl))), rfl, rfl⟩⟩
  exact ⟨⟨_, st.self, rfl⟩, h _ st (by simp only [zipped, hn]; exact size _ _ _ e4) fun c o x => kept (kept (kept (kept (kept x))))⟩

theorem apart_new (n : Addr) : Apart (n + 4) (n + 2) (n + 3) n (n + 1) := by
  have ne : ∀ a b : Nat, a ≠ b → n + a ≠ n + b := fun a b e q => e (Nat.add_left_cancel q)
  simp only [Apart, List.nodup_cons, List.mem_cons, List.not_mem_nil, or_false, not_or, List.nodup_nil, and_true, not_false_eq_true]
  exact ⟨⟨ne 4 2 (by decide), ne 4 3 (by decide), ne 4 0 (by decide), ne 4 1 (by decide)⟩, ⟨ne 2 3 (by decide), ne 2 0 (by decide), ne 2 1 (by decide)⟩, ⟨ne 3 0 (by decide), ne 3 1 (by decide)⟩, ne 0 1 (by decide)⟩
end

/-! ## bytes of a generator -/
theorem g_no_bytes : typeLookup (.type "generator") "__bytes__" = pure none := by rw [typeLookup_type, builtinLookup_eq_fast]; kernel_rfl
theorem g_no_index : typeLookup (.type "generator") "__index__" = pure none := by rw [typeLookup_type, builtinLookup_eq_fast]; kernel_rfl
theorem g_no_buffer : typeLookup (.type "generator") "__buffer__" = pure none := by rw [typeLookup_type, builtinLookup_eq_fast]; kernel_rfl

section
variable {prog : Program} {w : World} {A : Around} {E : Value → Shared → Prop}
variable {I : Addr} {fp wr : List Addr} {G : Array GenState → Array GenState → Prop} {n : Nat} {P : Nat → Value → Prop} {St : Nat → Shared → Prop}
abbrev baO (b : Array UInt8) : Obj := { cls := .type "bytearray", data := .bytearray b }

/-- the loop of bytes(..): what the walk still gives goes behind what is there -/
theorem bg_loop {R : Result → Shared → Prop} {S : Addr} {ns : List Int} (W : WalksS prog w A.in1 I fp wr G n P St) (hP : ∀ i v, P i v → ∃ k t, v = .int k t ∧ ns[i]? = some k) (hr : ∀ k ∈ ns, 0 ≤ k ∧ k < 256)
    (hn : ns.length = n) (hz : n ≤ sizeLine) (hSf : S ∉ fp) :
    ∀ (todo past : List Int) (s : Shared), past ++ todo = ns → St past.length s → s.heap.get? S = some (baO (byteArr past)) →
      (∀ s' t tk, Moved (S :: wr) G s s' → R (.ok (.ret (.bytes (byteArr ns) t))) { s' with toks := tk }) →
      codeAny (model prog w) A (.builtin "bytes.__new__.loop" ⟨[.type "bytes", .ref I, .ref S], []⟩) R s
  | [], past, s, e, st, hS, hR => by
    rw [List.append_nil] at e
    subst e
    refine codeAny_builtin F.bm_entry_loop ?_
    rw [Around.under_plainId F.bm_plain_loop _]
    wp_walk using W.done _ _ _ (hn ▸ st)
    rintro ⟨hp, g, d, tk, os⟩ mv
    have hS' : hp.get? S = some (baO (byteArr past)) := mv.heap S _ (fun h => hSf (W.sub _ h)) hS
    wp_walk
    rw [if_neg (by rw [byteArr_size, hn]; exact Nat.not_lt.mpr hz)]
    wp_walk
    exact hR _ _ _ (mv.mono fun _ => .tail _)
  | k :: todo, past, s, e, st, hS, hR => by
    refine codeAny_builtin F.bm_entry_loop ?_
    rw [Around.under_plainId F.bm_plain_loop _]
    have hlt : past.length < n := by rw [← hn, ← e, List.length_append, List.length_cons]; omega
    wp_walk using W.item _ _ _ _ hlt st
    rintro v ⟨hp, g, d, tk, os⟩ hv st' mv
    have hS' : hp.get? S = some (baO (byteArr past)) := mv.heap S _ (fun h => hSf (W.sub _ h)) hS
    obtain ⟨m, t, rfl, hm⟩ := hP _ _ hv
    rw [← e, List.getElem?_append_right (Nat.le_refl _), Nat.sub_self] at hm
    cases hm
    obtain ⟨h0, h1⟩ := hr k (e ▸ List.mem_append_right _ (.head _))
    have hc : (decide (k < 0) || decide (k ≥ 256)) = false := by simp only [Bool.or_eq_false_iff, decide_eq_false_iff_not]; omega
    wp_walk
    have fits : ¬ (byteArr (past ++ [k])).size > sizeLine := by
      rw [byteArr_size, List.length_append, List.length_singleton]
      omega
    have eb : (byteArr past).push k.toNat.toUInt8 = byteArr (past ++ [k]) := by simp [byteArr]
    have hl : (Obj.mapBytearray (fun x => x.push k.toNat.toUInt8) (baO (byteArr past))).data.pastItsLine = none := by
      show (if ((byteArr past).push k.toNat.toUInt8).size > sizeLine then some "bytearray:memory" else none) = none
      rw [eb, if_neg fits]
    rw [hl]
    wp_walk
    have off : ∀ b o, b ≠ S → hp.get? b = some o → (hp.update S (Obj.mapBytearray fun x => x.push k.toNat.toUInt8)).get? b = some o := fun b o ne q => (Heap.get?_update_other _ _ (Ne.symm ne)).trans q
    refine ⟨plainId_quiet F.bm_plain_loop _, bg_loop W hP hr hn hz hSf todo (past ++ [k]) _ (by rw [List.append_assoc, List.singleton_append, e]) ?_ (eb ▸ Heap.get?_update_self _ hS' rfl) fun s₃ t₃ tk₃ mv₃ => ?_⟩
    · rw [List.length_append, List.length_singleton]
      exact W.frame _ _ _ _ st' (Nat.le_refl _) fun b hb o q => off b o (fun x => hSf (x ▸ hb)) q
    · exact hR _ _ _ (((mv.mono fun _ => .tail _).then_heap (Nat.le_refl _) fun b o hb q => off b o (fun x => hb (x ▸ .head _)) q).trans W.gtrans mv₃)

theorem catchS {α : Type} {M : Model} {s : Shared} {m : Sem α} {k : Value → Sem α} {Q : α → Shared → Prop} (h : wpAny M A m Q (fun e s' => wpAny M A (k e) Q E s') s) : wpAny M A (m.tryCatch k) Q E s := wpAny_tryCatch h
theorem bg_new {s : Shared} {ns : List Int} {Q : Value → Shared → Prop} (W : WalksS prog w A.in1 I fp wr G n P St) (hT : ∀ i s, St i s → ∃ g, s.heap.IsGen I g) (hst : St 0 s) (hfp : ∀ b ∈ fp, b < s.heap.objs.size)
    (hP : ∀ i v, P i v → ∃ k t, v = .int k t ∧ ns[i]? = some k) (hr : ∀ k ∈ ns, 0 ≤ k ∧ k < 256) (hn : ns.length = n) (hz : n ≤ sizeLine)
    (hQ : ∀ s' t tk, Moved (s.heap.objs.size :: wr) G { s with heap := s.heap.push (baO #[]) } s' → Q (.bytes (byteArr ns) t) { s' with toks := tk }) :
    codeAny (model prog w) A (.call (.builtin "bytes.__new__") ⟨[.type "bytes", .ref I], []⟩) (wants Q E) s := by
  obtain ⟨gI, hGI⟩ := hT 0 s hst
  have ty := hGI.typeIs
  obtain ⟨⟨cI, dI, aI, lI⟩, nmI, qnI, hoI, hcI, hdI, _⟩ := id hGI
  cases hcI
  cases hdI
  have hSf : s.heap.objs.size ∉ fp := fun h => Nat.lt_irrefl _ (hfp _ h)
  have main := bg_loop (A := A) (R := wants Q E) W hP hr hn hz hSf ns [] { s with heap := s.heap.push (baO #[]) } rfl (W.frame 0 s _ s.toks hst (Nat.le_refl _) fun b _ o e => Heap.get?_push_of_some _ e) (Heap.get?_push_size _ rfl) hQ
  obtain ⟨hp, g, d, tk, os⟩ := s
  refine codeAny_of_tree ?_
  have e1 := F.bm_newCall (.ref I)
  have e2 := F.bm_sub
  have e3 := F.bm_bind (.ref I)
  have n1 := g_no_bytes
  have n2 := g_no_index
  have n3 := g_no_buffer
  have n4 := PySem.F.gen_no_len
  have n5 := PySem.F.gen_no_hint
  wp_walk
  refine ⟨plainId_quiet F.bm_plain _, codeAny_builtin F.bm_entry ?_⟩
  rw [Around.under_plainId F.bm_plain _]
  wp_walk using catchS, wpAny_pyIter_gen (s := ⟨hp, g, d, tk, os⟩) hGI
  exact ⟨plainId_quiet F.bm_plain_loop _, main⟩
end
end
local macro_rules | `(tactic| walk_at "no such key") => `(tactic| fail)
/- L3 -/
section
open PySem PySem.W PyProof.Rows
set_option maxRecDepth 100000
theorem quietL3 : True := by w_top off; exact trivial
section
variable {prog : Program} {w : World} {A : Around} {E : Value → Shared → Prop} {s : Shared} {h₀ : Heap} {L : Addr} {m : PySem.Str → Option Value} {news : List (Addr × Obj)}

/-- a generator at a, none of its objects older than K, that will hand out the ints ns -/
def GenB (prog : Program) (w : World) (A : Around) (K a : Addr) (ns : List Int) (s : Shared) : Prop :=
  ∃ (fp wr : List Addr) (g : Nat) (P : Nat → Value → Prop) (St : Nat → Shared → Prop), WalksS prog w A.in4 a fp wr (GenOnlyQ g) ns.length P St ∧ (∀ i v, P i v → ∃ k t, v = .int k t ∧ ns[i]? = some k) ∧ St 0 s ∧
    (∀ i s, St i s → ∃ g, s.heap.IsGen a g) ∧ (∀ b ∈ fp, b < s.heap.objs.size) ∧ (∀ b ∈ wr, K ≤ b)

theorem bytes_gen {K a : Addr} {ns : List Int} {Q : Value → Shared → Prop} (F : Fr h₀ L s.heap m) (N : News h₀ L s.heap news) (G : AllBare s.gens) (X : GenB prog w A K a ns s)
    (hL : L < K) (hK : ∀ q ∈ news, q.1 < K) (hr : ∀ k ∈ ns, 0 ≤ k ∧ k < 256) (hz : ns.length ≤ sizeLine)
    (h : ∀ h' g' t tk, Fr h₀ L h' m → News h₀ L h' news → AllBare g' → Q (.bytes (byteArr ns) t) { s with heap := h', gens := g', toks := tk }) :
    wpAny (model prog w) A (call (.type "bytes") [.ref a]) Q E s := by
  obtain ⟨fp, wr, g, P, St, W, hP, hst, hT, hfp, hwr⟩ := X
  refine callType_codes (Q₁ := fun obj s₁ => s₁.TypeIs obj "bytes" ∧ Q obj s₁) PySem.F.bm_called (PySem.F.bm_typeCall _) PySem.F.entry_object_init
    (bg_new W.in4_2 hT hst hfp hP hr rfl hz fun s' t tk hm => ⟨PySem.W.typeIs_bytes _ _ _, ?_⟩) fun obj s₁ h₁ => ?_
  · have keep : ∀ b o, b < K → s.heap.get? b = some o → s'.heap.get? b = some o := fun b o hb e => hm.heap b o (fun hmem => by
      rcases List.mem_cons.mp hmem with rfl | hmem
      · exact Nat.lt_irrefl _ (Heap.lt_size e)
      · exact Nat.lt_irrefl _ (Nat.lt_of_lt_of_le hb (hwr b hmem))) (Heap.get?_push_of_some _ e)
    have F' : Fr h₀ L s'.heap m := ⟨F.ns.at' fun o e => keep L o hL e, fun b o e => keep b o (Nat.lt_of_lt_of_le (Nat.lt_of_lt_of_le (Heap.lt_size e) F.above) (Nat.le_of_lt hL)) (F.keep b o e), F.above⟩
    have N' : News h₀ L s'.heap news := fun q hq => ⟨keep _ _ (hK q hq) (N q hq).1, (N q hq).2⟩
    have G' : AllBare s'.gens := (show GenOnlyQ g s.gens s'.gens from hm.gens).bare G
    have e := h s'.heap s'.gens t tk F' N' G'
    have es : ({ s with heap := s'.heap, gens := s'.gens, toks := tk } : Shared) = { s' with toks := tk } := by
      have h1 : s'.drawn = s.drawn := hm.drawn
      have h2 : s'.os = s.os := hm.os
      rw [← h1, ← h2]
    rw [es] at e
    exact e
  · exact ⟨h₁.1, PySem.F.args_object_init_2 obj _, object_init_meets PySem.F.bm_called.init.lookup PySem.F.bm_called.made (by decide) prog w A.in1 _ s₁ ⟨h₁.1, rfl, h₁.2⟩⟩

/-- the ints of a zip's turned pairs -/
def zipInts (bx bz : Array UInt8) : List Int := List.zipWith (fun x y : UInt8 => Builtin.bitXor (x.toNat : Int) (y.toNat : Int)) bx.toList bz.toList
theorem zipInts_length (bx bz : Array UInt8) : (zipInts bx bz).length = min bx.size bz.size := by simp [zipInts]
theorem zipInts_get {bx bz : Array UInt8} {i : Nat} {x y : UInt8} (hx : bx[i]? = some x) (hy : bz[i]? = some y) : (zipInts bx bz)[i]? = some (Builtin.bitXor (x.toNat : Int) (y.toNat : Int)) := by
  unfold zipInts
  rw [List.getElem?_zipWith]
  simp [hx, hy]
theorem passing_all (n : Nat) : ∀ i, i ≤ n → passing (fun _ => true) n i = (List.range n).drop i := by
  intro i hi
  simp [passing]
section
variable {p : Program} {loose : List PySem.Str} {mean : ExcName → Option Value} {mg mb : PySem.Str → Option Value} {c P : Addr} {ps : Array Value}

/-- a zip of two bytes is at hand, and what the generator over it is wanted for -/
def ZipPost (prog : Program) (w : World) (A : Around) (h₀ : Heap) (L : Addr) (m : PySem.Str → Option Value) (news : List (Addr × Obj)) (P : Addr) (ps : Array Value) (Q : Value → Shared → Prop) (xv : Value) (s₁ : Shared) : Prop :=
  ∃ n bx bz t1 t2, xv = .ref (n + 4) ∧ ZipSt (n + 4) (n + 2) (n + 3) n (n + 1) bx bz t1 t2 0 s₁.heap ∧ Fr h₀ L s₁.heap m ∧ News h₀ L s₁.heap ((P, tabObj ps) :: news) ∧ AllBare s₁.gens ∧ (∀ q ∈ news, q.1 ≠ P) ∧ L < n ∧ P < n ∧
    (∀ h' g' tk ps' a, TriplesOk ps'.toList → Fr h₀ L h' m → News h₀ L h' ((P, tabObj ps') :: news) → AllBare g' → GenB prog w A n a (zipInts bx bz) { s₁ with heap := h', gens := g', toks := tk } → Q (.ref a) { s₁ with heap := h', gens := g', toks := tk })

theorem xor_gen {env : Env} {iter : Expr} {xa xb : PySem.Str} {p1 p2 p3 pa pb pt : Pos} {kt : Nat} {scope : Scope} {pos : Pos} {Q : Value → Shared → Prop}
    (_F₀ : Fr h₀ L s.heap m) (_N₀ : News h₀ L s.heap ((P, tabObj ps) :: news)) (T : Top p loose mean mg mb h₀) (C : CodeHd h₀ c P) (hcode : env.code = .ref c) (hge : env.globals = mainGlobals) (ht : TriplesOk ps.toList)
    (hh : A.handled = none) (hco : scope.isCoroutine = false) (hclos : closureFor scope env = pure []) (hcell : ∀ y ∈ scope.names, y.2 ≠ .cell) (h0 : scope.names.lookup (".0" : PySem.Str) = some NameKind.local)
    (hxa : scope.names.lookup xa = some .local) (hxb : scope.names.lookup xb = some .local) (hab : xa ≠ xb) (hda : (xa == ("__debug__" : PySem.Str)) = false) (hdb : (xb == ("__debug__" : PySem.Str)) = false) (hkind : scope.kind = .function) (hroom : A.depth < recursionLimit)
    (h : wpAny (model prog w) A (eval iter env) (ZipPost prog w A h₀ L m news P ps Q) E s)
    (hs : ∀ x, genFold iter env x = pure x) :
    wpAny (model prog w) A (eval (.GeneratorExp (.BinOp (.Name xa p1) .BitXor (.Name xb p2) p3) [⟨.Tuple [.Name xa pa, .Name xb pb] kt pt, iter, [], 0⟩] scope pos) env) Q E s := by
  refine wpAny_GeneratorExp_walksQTD hh hco hclos hcell h0 hxa hxb hab hkind hroom (wpAny_mono h (fun xv s₁ h₁ => ?_) fun _ _ e => e) hs
  obtain ⟨n, bx, bz, t1, t2, rfl, hst, F₁, N₁, G₁, hPn, hLn, hPlt, hQ⟩ := h₁
  have W := fun (A' : Around) (hA : A'.handled = none) => (zipb_walks (prog := prog) (w := w) hA (n + 4) (n + 2) (n + 3) n (n + 1) (apart_new n) bx bz t1 t2).toU
  refine (W A hh).self 0 _ _ _ hst ?_
  have hlim : s₁.heap.NoLimit := T.nolimit.keeps F₁.keep
  refine ⟨hlim, ?_⟩
  have hP₁ := N₁ (P, tabObj ps) (.head _)
  -- what is left once the code is at hand
  have main : ∀ (cv : Value) (h₃ : Heap) (tk₃ : Nat) (ps' : Array Value), Heap.ExtBut P s₁.heap h₃ → s₁.heap.objs.size ≤ h₃.objs.size → TriplesOk ps'.toList → h₃.get? P = some (tabObj ps') →
      wpAny (model prog w) A (builtinsFor env.globals env.builtins) (fun bi s₄ =>
        ∃ I fp wr n₀ Pt St₀ Mid pz F, (Value.ref (n + 4)) = .ref I ∧ (∀ A' : Around, A'.handled = none → WalksU prog w A' I fp wr n₀ Pt St₀ Mid) ∧ (∀ i vals, Pt i vals → ∃ va vb, vals = #[va, vb]) ∧ St₀ 0 s₄.heap ∧ (∀ b ∈ fp, b < s₄.heap.objs.size) ∧ s₄.heap.NoLimit ∧ cStatics ∉ wr ∧
          (∀ href : Heap, (∀ b o, s₄.heap.get? b = some o → href.get? b = some o) →
            QuietGenTD prog w (genEnv scope [] s₄.heap.objs.size cv bi env) xa xb [] (.BinOp (.Name xa p1) .BitXor (.Name xb p2) p3) (List.range s₄.heap.objs.size) wr Pt pz F href (A.depth + 1) (A.units + 8)) ∧
          (∀ a h₅ tk gs, gs.bare = true → s₄.heap.objs.size < a → h₅.objs.size = a + 1 → (∀ b o, s₄.heap.get? b = some o → h₅.get? b = some o) →
            WalksS prog w A.in4 a (a :: s₄.heap.objs.size :: List.range s₄.heap.objs.size) (s₄.heap.objs.size :: wr) (GenOnlyQ s₄.gens.size) (passing pz n₀ 0).length
              (fun j y => ∃ i, (passing pz n₀ 0)[j]? = some i ∧ F i y) (GenAt prog w A.in4 a s₄.gens.size s₄.heap.objs.size (List.range s₄.heap.objs.size) wr pz n₀ F) →
            GenAt prog w A.in4 a s₄.gens.size s₄.heap.objs.size (List.range s₄.heap.objs.size) wr pz n₀ F 0 { s₄ with gens := s₄.gens.push gs, toks := tk, heap := h₅ } →
            Q (.ref a) { s₄ with gens := s₄.gens.push gs, toks := tk, heap := h₅ })) E { s₁ with heap := h₃, toks := tk₃ } := by
    intro cv h₃ tk₃ ps' hx hszle ht' htab
    obtain ⟨bm, ob, b1, b2, b3, b4, b5, b6⟩ := T.bmain
    have hgs := T.g.keeps F₁.keep
    have hgP : mainGlobals ≠ P := fun q => by
      obtain ⟨o, es, ep, e, hd, _⟩ := hgs
      rw [q, hP₁.1] at e; cases e; cases hd
    have hbP : bm ≠ P := fun q => by
      have e := F₁.keep _ _ b3
      rw [q, hP₁.1] at e; cases e; cases b4
    have hg3 : h₃.Ns env.globals mg := by rw [hge]; exact hgs.extBut hx hgP
    have hold : ∀ b o, h₀.get? b = some o → h₃.get? b = some o := fun b o e => hx b o (fun q => by rw [q, hP₁.2.2] at e; cases e) (F₁.keep b o e)
    have hzlt : n + 4 < s₁.heap.objs.size := Heap.lt_size hst.1
    have hcs : cStatics < n := by
      obtain ⟨mc, hns, _⟩ := T.nolimit
      exact Nat.lt_trans (Nat.lt_of_lt_of_le hns.lt F₁.above) hLn
    have hst₃ : ZipSt (n + 4) (n + 2) (n + 3) n (n + 1) bx bz t1 t2 0 h₃ := (W A hh).frame _ _ _ hst fun b hb o e => hx b o (fun q => by
      simp only [List.mem_cons, List.not_mem_nil, or_false] at hb
      have hlt := hPlt
      rw [← q] at hlt
      rcases hb with e | e | e | e | e <;> rw [e] at hlt
      · exact Nat.lt_irrefl _ (Nat.lt_of_le_of_lt (Nat.le_add_right n 4) hlt)
      · exact Nat.lt_irrefl _ (Nat.lt_of_le_of_lt (Nat.le_add_right n 2) hlt)
      · exact Nat.lt_irrefl _ (Nat.lt_of_le_of_lt (Nat.le_add_right n 3) hlt)
      · exact Nat.lt_irrefl _ hlt
      · exact Nat.lt_irrefl _ (Nat.lt_of_le_of_lt (Nat.le_add_right n 1) hlt)) e
    refine wpAny_builtinsFor hg3 b1 b2 (hx _ _ hbP (F₁.keep _ _ b3)) b4 b5 b6 ?_
    refine ⟨n + 4, [n + 4, n + 2, n + 3, n, n + 1], [n + 4, n + 3, n, n + 1], min bx.size bz.size, _, _, _, fun _ => true, fun i y => ∃ k t, y = .int k t ∧ (zipInts bx bz)[i]? = some k, rfl, W, ?_, hst₃, ?_, T.nolimit.keeps hold, ?_, ?_, ?_⟩
    · rintro i vals ⟨x, y, u, v, _, _, rfl⟩
      exact ⟨_, _, rfl⟩
    · intro b hb
      simp only [List.mem_cons, List.not_mem_nil, or_false] at hb
      show b < h₃.objs.size
      have hlt : n + 4 < h₃.objs.size := Nat.lt_of_lt_of_le hzlt hszle
      rcases hb with e | e | e | e | e <;> rw [e]
      · exact hlt
      · exact Nat.lt_trans (Nat.add_lt_add_left (by decide) n) hlt
      · exact Nat.lt_trans (Nat.add_lt_add_left (by decide) n) hlt
      · exact Nat.lt_of_le_of_lt (Nat.le_add_right n 4) hlt
      · exact Nat.lt_trans (Nat.add_lt_add_left (by decide) n) hlt
    · intro hm
      simp only [List.mem_cons, List.not_mem_nil, or_false] at hm
      rcases hm with e | e | e | e <;> rw [e] at hcs
      · exact Nat.lt_irrefl _ (Nat.lt_of_le_of_lt (Nat.le_add_right n 4) hcs)
      · exact Nat.lt_irrefl _ (Nat.lt_of_le_of_lt (Nat.le_add_right n 3) hcs)
      · exact Nat.lt_irrefl _ hcs
      · exact Nat.lt_irrefl _ (Nat.lt_of_le_of_lt (Nat.le_add_right n 1) hcs)
    · intro href hk
      refine ⟨fun A' E' i va vb s₂ m₂ hA hD hU hP hn hma hmb hkp => ?_, fun A' E' i va vb s₂ m₂ hA hD hU hP hp hn hma hmb hkp => ?_⟩
      · exact wpAny_pure ⟨rfl, s₂.heap, s₂.toks, rfl, fun _ _ e => e⟩
      · obtain ⟨x, y, u, v, hx1, hy1, e⟩ := hP
        obtain ⟨e1, e2⟩ : va = .int (x.toNat : Int) u ∧ vb = .int (y.toNat : Int) v := by simpa using congrArg Array.toList e
        subst e1 e2
        refine wpAny_BinOp (wpAny_Name (wpAny_loadName_local hkind hxa hn hma ?_) hda)
        refine wpAny_Name (wpAny_loadName_local hkind hxb hn hmb ?_) hdb
        refine xor_int ⟨⟨_, _, rfl, zipInts_get hx1 hy1⟩, s₂.heap, s₂.toks + 1, rfl, fun _ _ e => e⟩
    · intro a h₅ tk gs hgb hag hsz₅ hk₅ W₅ hat
      have hPL : P ≠ L := hP₁.2.1
      have F₅ : Fr h₀ L h₅ m := ⟨(F₁.ns.extBut hx (Ne.symm hPL)).keeps hk₅, fun b o e => hk₅ b o (hold b o e), F₁.above⟩
      have N₅ : News h₀ L h₅ ((P, tabObj ps') :: news) := fun q hq => by
        rcases List.mem_cons.mp hq with rfl | hq
        · exact ⟨hk₅ _ _ htab, hP₁.2⟩
        · have z := N₁ q (.tail _ hq)
          exact ⟨hk₅ _ _ (hx _ _ (hPn q hq) z.1), z.2⟩
      have hlen : (passing (fun _ => true) (min bx.size bz.size) 0).length = (zipInts bx bz).length := by
        rw [passing_all _ 0 (Nat.zero_le _), List.drop_zero, List.length_range, zipInts_length]
      refine hQ h₅ _ tk ps' a ht' F₅ N₅ (G₁.push hgb) ⟨_, _, _, _, _, hlen ▸ W₅, ?_, hat, fun i s st => ⟨_, st.1⟩, ?_, ?_⟩
      · rintro j v ⟨i, hj, k, t, rfl, hk⟩
        refine ⟨k, t, rfl, ?_⟩
        rw [passing_all _ 0 (Nat.zero_le _), List.drop_zero] at hj
        have hji : j = i := by
          have h1 := List.getElem?_eq_some_iff.mp hj
          obtain ⟨hlt, e⟩ := h1
          simpa using e
        rw [hji]; exact hk
      · intro b hb
        show b < h₅.objs.size
        rw [hsz₅]
        rcases List.mem_cons.mp hb with rfl | hb
        · exact Nat.lt_succ_self _
        · rcases List.mem_cons.mp hb with rfl | hb
          · exact Nat.lt_succ_of_lt hag
          · exact Nat.lt_succ_of_lt (Nat.lt_trans (List.mem_range.mp hb) hag)
      · intro b hb
        rcases List.mem_cons.mp hb with rfl | hb
        · exact Nat.le_trans (Nat.le_trans (Nat.le_add_right n 4) (Nat.le_of_lt hzlt)) hszle
        · simp only [List.mem_cons, List.not_mem_nil, or_false] at hb
          rcases hb with e | e | e | e <;> rw [e]
          · exact Nat.le_add_right n 4
          · exact Nat.le_add_right n 3
          · exact Nat.le_refl _
          · exact Nat.le_add_right n 1
  cases hca : codeAmong pos ps.toList with
  | some cv => exact wpAny_genexprCode_hit hcode ((C.keeps F₁.keep).code hP₁.1 ht) hca (main cv s₁.heap s₁.toks ps (Heap.ExtBut.refl _ _) (Nat.le_refl _) ht hP₁.1)
  | none =>
    refine wpAny_genexprCodeX hcode ((C.keeps F₁.keep).code hP₁.1 ht) ((C.keeps F₁.keep).tab hP₁.1) hca fun c' h₃ tk₃ hx₃ hge₃ hlt₃ hcode₃ _ htab₃ _ => ?_
    exact main (.ref c') h₃ tk₃ _ hx₃ (Nat.le_trans hge₃ (Nat.le_of_lt hlt₃)) (by rw [show (ps ++ #[rawInt pos.line, rawInt pos.col, Value.ref c']).toList = ps.toList ++ [rawInt pos.line, rawInt pos.col, .ref c'] by simp]; exact TriplesOk_snoc _ _ _ _ ht) htab₃.2

theorem zip_pack {b z : Array UInt8} {t u : Tok} {Q' : Value → Shared → Prop} (F : Fr h₀ L s.heap m) (N : News h₀ L s.heap ((P, tabObj ps) :: news)) (G : AllBare s.gens) (hPn : ∀ q ∈ news, q.1 ≠ P)
    (k : ∀ n h' g' tk ps' a, L < n → (∀ q ∈ ((P, tabObj ps') :: news : List (Addr × Obj)), q.1 < n) → TriplesOk ps'.toList → Fr h₀ L h' m → News h₀ L h' ((P, tabObj ps') :: news) → AllBare g' → GenB prog w A n a (zipInts b z) { s with heap := h', gens := g', toks := tk } →
      Q' (.ref a) { s with heap := h', gens := g', toks := tk }) :
    wpAny (model prog w) A (call (.type "zip") [.bytes b t, .bytes z u]) (ZipPost prog w A h₀ L m news P ps Q') E s := by
  refine call_zipb fun h5 hst hsz hk5 => ?_
  have hPlt := Heap.lt_size (N _ (.head _)).1
  exact ⟨s.heap.objs.size, b, z, t, u, rfl, hst, F.keeps hk5, fun q hq => ⟨hk5 _ _ (N q hq).1, (N q hq).2⟩, G, hPn, F.ns.lt, hPlt, fun h' g' tk ps' a ht F' N' G' X => k _ h' g' tk ps' a F.ns.lt (fun q hq => by
    rcases List.mem_cons.mp hq with rfl | hq
    · exact hPlt
    · exact Heap.lt_size (N q (.tail _ hq)).1) ht F' N' G' X⟩
end
end
end
local macro_rules | `(tactic| walk_at "no such key") => `(tactic| fail)
/- L4 -/
section
open PySem PySem.W PyProof.Rows
set_option maxRecDepth 100000
theorem quietL4 : True := by w_top off; exact trivial

/-! ## numbers as octets, plainly -/
/-- the k lowest octets of x, the highest first -/
def bigL : Nat → Nat → List UInt8
  | 0, _ => []
  | k + 1, x => bigL k (x / 256) ++ [(x % 256).toUInt8]
def bigE (k x : Nat) : Array UInt8 := (bigL k x).toArray
def valL (l : List UInt8) : Nat := l.foldl (fun a c => a * 256 + c.toNat) 0
def valE (b : Array UInt8) : Nat := valL b.toList
theorem bigL_length : ∀ k x, (bigL k x).length = k
  | 0, _ => rfl
  | k + 1, x => by rw [bigL, List.length_append, bigL_length k]; rfl
theorem bigE_size (k x : Nat) : (bigE k x).size = k := by rw [bigE, List.size_toArray, bigL_length]

theorem bigL_little : ∀ (k : Nat) (x : Nat), (bigL k x).map (fun c => ((c.toNat : Nat) : Int)) = (KTBy.little k (x : Int)).reverse
  | 0, _ => rfl
  | k + 1, x => by
    have e1 : ((x : Int) / 256) = ((x / 256 : Nat) : Int) := by omega
    have e2 : ((((x % 256).toUInt8).toNat : Nat) : Int) = (x : Int) % 256 := by
      have : ((x % 256).toUInt8).toNat = x % 256 := by
        show (UInt8.ofNat (x % 256)).toNat = x % 256
        rw [UInt8.toNat_ofNat']; omega
      rw [this]; omega
    rw [bigL, List.map_append, bigL_little k, KTBy.little, List.reverse_cons, e1]
    simp only [List.map_cons, List.map_nil, e2]
theorem xor_and_add : ∀ (n a b : Nat), a + b ≤ n → a + b = (a ^^^ b) + 2 * (a &&& b) := by
  intro n
  induction n using Nat.strongRecOn with
  | _ n ih =>
    intro a b hab
    by_cases h0 : a + b = 0
    · have ha : a = 0 := by omega
      have hb : b = 0 := by omega
      subst ha hb; decide
    · have h1 := ih (a / 2 + b / 2) (by omega) (a / 2) (b / 2) (Nat.le_refl _)
      have e1 : (a ^^^ b) / 2 = (a / 2) ^^^ (b / 2) := Nat.xor_div_two ..
      have e2 : (a &&& b) / 2 = (a / 2) &&& (b / 2) := Nat.and_div_two ..
      have e3 : (a ^^^ b) % 2 = ((a % 2) ^^^ (b % 2)) := by
        have := @Nat.xor_mod_two_pow a b 1
        simpa using this
      have e4 : (a &&& b) % 2 = ((a % 2) &&& (b % 2)) := by
        have := @Nat.and_mod_two_pow a b 1
        simpa using this
      rcases Nat.mod_two_eq_zero_or_one a with ha | ha <;> rcases Nat.mod_two_eq_zero_or_one b with hb | hb <;> rw [ha, hb] at e3 e4
      · have e3' : (a ^^^ b) % 2 = 0 := e3
        have e4' : (a &&& b) % 2 = 0 := e4
        omega
      · have e3' : (a ^^^ b) % 2 = 1 := e3
        have e4' : (a &&& b) % 2 = 0 := e4
        omega
      · have e3' : (a ^^^ b) % 2 = 1 := e3
        have e4' : (a &&& b) % 2 = 0 := e4
        omega
      · have e3' : (a ^^^ b) % 2 = 0 := e3
        have e4' : (a &&& b) % 2 = 1 := e4
        omega
theorem bitXor_nat (a b : Nat) : Builtin.bitXor (a : Int) (b : Int) = ((a ^^^ b : Nat) : Int) := by
  have e : Builtin.bitAnd (a : Int) (b : Int) = ((a &&& b : Nat) : Int) := by
    unfold Builtin.bitAnd
    rw [decide_eq_true (Int.natCast_nonneg a), decide_eq_true (Int.natCast_nonneg b)]
    rfl
  rw [PyProof.Rows.bitXor_and, e]
  have := xor_and_add (a + b) a b (Nat.le_refl _)
  omega

theorem map_toNat_inj : ∀ {l r : List UInt8}, l.map (fun c => ((c.toNat : Nat) : Int)) = r.map (fun c => ((c.toNat : Nat) : Int)) → l = r
  | [], [], _ => rfl
  | [], _ :: _, h => by simp at h
  | _ :: _, [], h => by simp at h
  | a :: l, b :: r, h => by
    simp only [List.map_cons, List.cons.injEq] at h
    have : a.toNat = b.toNat := by omega
    rw [UInt8.toNat_inj.mp this, map_toNat_inj h.2]

section
variable {prog : Program} {w : World} {A : Around} {E : Value → Shared → Prop} {s : Shared} {h₀ : Heap} {L : Addr} {m : PySem.Str → Option Value} {news : List (Addr × Obj)}
open PySem.Builtin.Int (intBits)

theorem to_big {x n : Int} {t u v : Tok} {Q : Value → Shared → Prop} (hn : 0 ≤ n) (hk : n ≤ 1000) (h0 : 0 ≤ x) (h1 : x < 256 ^ n.toNat)
    (h : ∀ t' k', Q (.bytes (bigE n.toNat x.toNat) t') { s with toks := k' }) :
    wpAny (model prog w) A (call (.builtin "int.to_bytes") [.int x t, .int n u, .str (PySem.Str.ofString "big") v]) Q E s := by
  obtain ⟨k, rfl⟩ := Int.eq_ofNat_of_zero_le hn
  rw [Int.toNat_natCast] at h1 h
  have hb := KTBy.bits_le (B := 256 ^ k) rfl h0 h1
  have hz : k ≤ sizeLine := by rw [sizeLine_eq]; omega
  have e : List.reverse (KTBy.low x (Int.toNat (k : Int))) = bigL k x.toNat := by
    refine map_toNat_inj ?_
    have hx : ((x.toNat : Nat) : Int) = x := Int.toNat_of_nonneg h0
    rw [Int.toNat_natCast, List.map_reverse, KTBy.low_ints h0 h1, ← KTBy.little_eq, bigL_little, hx]
  have b1 : Builtin.Int.intBindNamed "to_bytes" ["length", "byteorder", "signed"] 0 2 [.int (k : Int) u, .str (PySem.Str.ofString "big") v] [] = pure [some (.int (k : Int) u), some (.str (PySem.Str.ofString "big") v), none] := by kernel_rfl
  have b2 : Builtin.Int.intIndex "int.to_bytes" (.int (k : Int) u) = pure (k : Int) := rfl
  have c1 : -9223372036854775808 ≤ (k : Int) := by omega
  have c2 : (k : Int) < 9223372036854775808 := by omega
  have c3 : (k : Int) ≤ 9223372036854775774 := by omega
  have c4 : (k : Int) ≤ (sizeLine : Int) := by omega
  have c5 : (intBits x : Int) ≤ 8 * (k : Int) := by omega
  refine wpAny_call_entry KTBy.slot (typeIs_int s x t) KTBy.entry ?_ (KTBy.args _ _ _)
  obtain ⟨hp, g, d, tk, os⟩ := s
  wp_walk
  show wpAny _ _ (mkBytes (List.reverse (KTBy.low x (Int.toNat (k : Int)))).toArray) _ _ _
  rw [e]
  exact wpAny_mkBytes (wpAny_pure ⟨_, rfl, h _ _⟩) (by rw [List.size_toArray, bigL_length]; exact hz)

theorem fold_valE (b : Array UInt8) : (b.toList.foldl (fun (acc : Int) (b : UInt8) => acc * 256 + (b.toNat : Int)) ((0 : Nat) : Int)) = ((valE b : Nat) : Int) := KFB.foldI_eq b.toList 0
theorem valE_lt (b : Array UInt8) : valE b < 256 ^ b.size := by
  have h1 := KFB.fold_lt b.toList 0
  rw [Nat.zero_add, Nat.one_mul, Array.length_toList] at h1
  exact h1
theorem grown_big {n k : Nat} {Q : Value → Shared → Prop} (hn : n < 256 ^ k) (hk : k ≤ 1000) (h : Q (.int (n : Int) s.toks) { s with toks := s.toks + 1 }) : wpAny (model prog w) A (mkIntGrown (n : Int)) Q E s := by
  unfold mkIntGrown
  have hl : ¬ ((n : Int).natAbs.log2 ≥ bitsLine) := by
    rw [Int.natAbs_natCast]
    have hb : bitsLine = 134217728 := by first | rfl | decide
    by_cases hz : n = 0
    · subst hz
      rw [hb]
      decide
    · have e2 : (2 : Nat) ^ 8 = 256 := by decide
      rw [← e2, ← Nat.pow_mul] at hn
      have h1 := (Nat.log2_lt hz).mpr hn
      omega
  rw [if_neg hl]
  exact wpAny_mkInt h
theorem grown_is {X : Int} {n k : Nat} {Q : Value → Shared → Prop} (hn : n < 256 ^ k) (hk : k ≤ 1000) (hX : X = (n : Int)) (h : Q (.int (n : Int) s.toks) { s with toks := s.toks + 1 }) : wpAny (model prog w) A (mkIntGrown X) Q E s :=
  hX ▸ grown_big hn hk h
theorem tree_from {b : Array UInt8} {t u : Tok} {P : Fin → Shared → Prop} (hl : b.size ≤ 1000) (h : P (.done (.ret (.int ((valE b : Nat) : Int) s.toks))) { s with toks := s.toks + 1 }) :
    wpAny (model prog w) A (Builtin.«int.from_bytes» ⟨[.type "int", .bytes b t, .str (PySem.Str.ofString "big") u], []⟩) P E s := by
  unfold Builtin.«int.from_bytes»
  have a1 := KFB.type_int
  have a2 := F.conv_sub_int
  have b1 : Builtin.Int.intBindNamed "from_bytes" ["bytes", "byteorder", "signed"] 1 2 [.bytes b t, .str (PySem.Str.ofString "big") u] [] = pure [some (.bytes b t), some (.str (PySem.Str.ofString "big") u), none] := by kernel_rfl
  obtain ⟨hp, g, d, tk, os⟩ := s
  wp_walk using grown_is (valE_lt b) hl
  case hX => exact fold_valE b
  case h =>
    wp_walk
    exact h
theorem from_big {x : Addr} {b : Array UInt8} {t u : Tok} {Q : Value → Shared → Prop} (N : News h₀ L s.heap news) (hm : (x, KFB.bound) ∈ news) (hl : b.size ≤ 1000)
    (h : ∀ t' k, Q (.int ((valE b : Nat) : Int) t') { s with toks := k }) : wpAny (model prog w) A (call (.ref x) [.bytes b t, .str (PySem.Str.ofString "big") u]) Q E s :=
  KFB.call_of (KFB.at_of N hm) (fun z => tree_from hl z) (h _ _)
end
end
local macro_rules | `(tactic| walk_at "no such key") => `(tactic| fail)
/- L5 -/
section
open PySem PySem.W PyProof.Rows
set_option maxRecDepth 100000
theorem quietL5 : True := by w_top off; exact trivial
def takeE (b : Array UInt8) (k : Nat) : Array UInt8 := (b.toList.take k).toArray
def dropE (b : Array UInt8) (k : Nat) : Array UInt8 := (b.toList.drop k).toArray
theorem takeE_size (b : Array UInt8) (k : Nat) : (takeE b k).size = min k b.size := by simp [takeE]
theorem dropE_size (b : Array UInt8) (k : Nat) : (dropE b k).size = b.size - k := by simp [dropE]
theorem picked_to {b : Array UInt8} {k : Int} (h0 : 0 ≤ k) : KBy.picked b none (some k) = takeE b k.toNat := by
  obtain ⟨n, rfl⟩ := Int.eq_ofNat_of_zero_le h0
  rw [KBc.picked_eq]
  simp only [Option.elim, clipAt_nat, List.drop_zero, Nat.sub_zero, Int.toNat_natCast]
  rw [takeE]
  congr 1
  rcases Nat.le_total n b.size with h | h
  · rw [Nat.min_eq_left h]
  · rw [Nat.min_eq_right h, List.take_of_length_le (by simp), List.take_of_length_le (by simpa using h)]
theorem picked_from {b : Array UInt8} {k : Int} (h0 : 0 ≤ k) : KBy.picked b (some k) none = dropE b k.toNat := by
  obtain ⟨n, rfl⟩ := Int.eq_ofNat_of_zero_le h0
  rw [KBc.picked_eq]
  simp only [Option.elim, clipAt_nat, Int.toNat_natCast]
  rw [dropE]
  congr 1
  rcases Nat.le_total n b.size with h | h
  · rw [Nat.min_eq_left h, List.take_of_length_le (by simp)]
  · rw [Nat.min_eq_right h, Nat.sub_self, List.take_zero, List.drop_of_length_le (by simpa using h)]
section
variable {prog : Program} {w : World} {A : Around} {E : Value → Shared → Prop} {s : Shared} {value slice : PySem.Expr} {b : Array UInt8} {t u : Tok} {h₀ : Heap} {L : Addr} {m : PySem.Str → Option Value} {news : List (Addr × Obj)} {Q : Value → Shared → Prop} {k : Int}
theorem slice_to (hF : Fr h₀ L s.heap m) (hN : News h₀ L s.heap news) (h0 : 0 ≤ k) (hz : b.size ≤ 16777216)
    (h : ∀ h' t' tk, Fr h₀ L h' m → News h₀ L h' news → Q (.bytes (takeE b k.toNat) t') { s with heap := h', toks := tk })
    (hs : subscripted slice false (.bytes b t) (.ref s.heap.objs.size) = operate [.ref s.heap.objs.size, .bytes b t] (getItem (.bytes b t) (.ref s.heap.objs.size)) := by with_unfolding_all rfl)
    (ht : ∀ r, letTemporaryGo value (.bytes b t) r = pure () := by intro _; with_unfolding_all rfl) :
    wpAny (model prog w) A (subscriptTail value slice (.bytes b t) (.ref s.heap.objs.size)) Q E { s with heap := s.heap.push { cls := .type "slice", data := .fields #[.none, .int k u, .none] } } :=
  KBc.slice_K hF hN rfl .none (.int _ _) (by rw [KBw.ints_length]; exact hz) (fun h' t' tk F' N' _ => by rw [picked_to h0]; exact h h' t' tk F' N') hs ht
theorem slice_from (hF : Fr h₀ L s.heap m) (hN : News h₀ L s.heap news) (h0 : 0 ≤ k) (hz : b.size ≤ 16777216)
    (h : ∀ h' t' tk, Fr h₀ L h' m → News h₀ L h' news → Q (.bytes (dropE b k.toNat) t') { s with heap := h', toks := tk })
    (hs : subscripted slice false (.bytes b t) (.ref s.heap.objs.size) = operate [.ref s.heap.objs.size, .bytes b t] (getItem (.bytes b t) (.ref s.heap.objs.size)) := by with_unfolding_all rfl)
    (ht : ∀ r, letTemporaryGo value (.bytes b t) r = pure () := by intro _; with_unfolding_all rfl) :
    wpAny (model prog w) A (subscriptTail value slice (.bytes b t) (.ref s.heap.objs.size)) Q E { s with heap := s.heap.push { cls := .type "slice", data := .fields #[.int k u, .none, .none] } } :=
  KBc.slice_K hF hN rfl (.int _ _) .none (by rw [KBw.ints_length]; exact hz) (fun h' t' tk F' N' _ => by rw [picked_from h0]; exact h h' t' tk F' N') hs ht
theorem add_bb {b c : Array UInt8} (hz : b.size + c.size ≤ 16777216) (h : ∀ t' tk, Q (.bytes (b ++ c) t') { s with toks := tk }) :
    wpAny (model prog w) A (binaryOp .Add (.bytes b t) (.bytes c u)) Q E s := KBy.add_bytes hz h
theorem len_b (hz : b.size ≤ 1000) (h : Q (.int (b.size : Nat) (s.toks + 1)) { s with toks := s.toks + 1 + 1 }) : wpAny (model prog w) A (call (.builtin "len") [.bytes b t]) Q E s :=
  len_bytes (by omega) h
end
end
local macro_rules | `(tactic| walk_at "no such key") => `(tactic| fail)
/- L6 -/
section
open PySem PySem.W PyProof.Rows
set_option maxRecDepth 100000
theorem quietL6 : True := by w_top off; exact trivial
theorem b0_typeCall : checkTypeCall "bytes" ⟨[], []⟩ = pure () := by kernel_rfl
theorem b0_newCall : checkBuiltinCall "bytes.__new__" ⟨[.type "bytes"], []⟩ = pure () := by kernel_rfl
theorem b0_bind : Builtin.Bytes.bindOptional "bytes.__new__" "bytes" ["source", "encoding", "errors"] [] [] = pure [none, none, none] := by kernel_rfl
section
variable {prog : Program} {w : World} {A : Around} {E : Value → Shared → Prop} {s : Shared}
theorem bytes0_new {Q : Value → Shared → Prop} (hQ : ∀ t k, Q (.bytes #[] t) { s with toks := k }) :
    codeAny (model prog w) A (.call (.builtin "bytes.__new__") ⟨[.type "bytes"], []⟩) (wants Q E) s := by
  have e1 := b0_newCall
  have e2 := PySem.F.bm_sub
  have e3 := b0_bind
  obtain ⟨hp, g, d, tk, os⟩ := s
  refine codeAny_of_tree ?_
  wp_walk
  refine ⟨plainId_quiet PySem.F.bm_plain _, codeAny_builtin PySem.F.bm_entry ?_⟩
  rw [Around.under_plainId PySem.F.bm_plain _]
  wp_walk
  exact hQ _ _
theorem bytes0 {Q : Value → Shared → Prop} (hQ : ∀ t k, Q (.bytes #[] t) { s with toks := k }) : wpAny (model prog w) A (call (.type "bytes") []) Q E s := by
  refine callType_codes (Q₁ := fun obj s₁ => s₁.TypeIs obj "bytes" ∧ Q obj s₁) PySem.F.bm_called b0_typeCall PySem.F.entry_object_init
    (bytes0_new fun t k => ⟨PySem.W.typeIs_bytes _ _ _, hQ t k⟩) fun obj s₁ h₁ => ?_
  exact ⟨h₁.1, PySem.F.args_object_init_1 obj, object_init_meets PySem.F.bm_called.init.lookup PySem.F.bm_called.made (by decide) prog w A.in1 _ s₁ ⟨h₁.1, rfl, h₁.2⟩⟩
end
end
local macro_rules | `(tactic| walk_at "no such key") => `(tactic| fail)
/- C1 -/
section
open PySem PySem.W PyProof.Rows
set_option maxRecDepth 100000
set_option maxHeartbeats 4000000
theorem quietC1 : True := by w_top off; exact trivial
/-- what _law_octets gives -/
def octE (n : Int) (k : Nat) : Array UInt8 := bigE k (n.fmod (256 ^ k)).toNat

section
variable {w : World} {dp un : Nat} {gd : Option (List Code)} {cn : PySem.Str} {cs : Scope} {a : Addr} {ccd : Value} {cl : List (PySem.Str × Addr)} {outer : List Env} {A₀ : Around} {base h₀ : Heap} {L : Addr} {m : PySem.Str → Option Value} {s : Shared} {Q E : Value → Shared → Prop}
  {p : Program} {loose : List PySem.Str} {mean : ExcName → Option Value} {mg mb : PySem.Str → Option Value} {news : List (Addr × Obj)}

theorem to_big_mod {prog : Program} {A : Around} {n k : Int} {t u v : Tok} (h0 : 0 ≤ k) (h1 : k ≤ 1000)
    (h : ∀ t' k', Q (.bytes (octE n k.toNat) t') { s with toks := k' }) :
    wpAny (model prog w) A (call (.builtin "int.to_bytes") [.int (n.fmod (256 ^ k.toNat)) t, .int k u, .str (PySem.Str.ofString "big") v]) Q E s := by
  have hp : (0 : Int) < 256 ^ k.toNat := Int.pow_pos (by decide)
  exact to_big h0 h1 (fmod_lo _ hp) (fmod_hi _ hp) h
local macro_rules | `(tactic| walk_at "call builtin:int.to_bytes") => `(tactic| (k_here; k_dflt (refine to_big_mod (by assumption) (by assumption) ?_); intro _ _))

theorem oct_con {n k : Int} {t u : Tok} (B : Below A₀ base outer h₀) (F : Fr h₀ L s.heap m) (X : (hd.heap_39 w.params).In h₀) (N : News h₀ L s.heap news) (T : Top p loose mean mg mb h₀) (hk : cs.kind = .function)
    (h0 : 0 ≤ k) (h1 : k ≤ 1000) (hd : dp + 3 < recursionLimit) (hu : un + 16 < cLine)
    (hret : ∀ (t : Tok) (h' : Heap) (tk' : Nat), Fr h₀ L h' m → News h₀ L h' news → Q (.bytes (octE n k.toNat) t) { s with heap := h', toks := tk' }) :
    wpAny (model PySem.Challenge.rw_jb0037_01.row.prog w) (ktrTop dp un gd cn cs L a ccd cl outer) (call (.ref 77) [.int n t, .int k u]) Q E s := by
  revert X; k_fill; intro X
  refine wpAny_call ?_
  k_dflt cell_enter
  k_steps
  exact hret _ _ _ (by assumption) (by assumption)
end
end
local macro_rules | `(tactic| walk_at "no such key") => `(tactic| fail)
local macro_rules | `(tactic| walk_at "no such key") => `(tactic| fail)
/- C2 -/
section
open PySem PySem.W PyProof.Rows
set_option maxRecDepth 100000
set_option maxHeartbeats 4000000
theorem quietC2 : True := by w_top off; exact trivial
/-- what _law_number gives -/
def numE (ns : List Int) (k : Int) : Int := if 0 < ns.length then ns.getD (k.fmod (ns.length : Int)).toNat 0 + 7 * k else 0 + 7 * k

section
variable {w : World} {dp un : Nat} {gd : Option (List Code)} {cn : PySem.Str} {cs : Scope} {a : Addr} {ccd : Value} {cl : List (PySem.Str × Addr)} {outer : List Env} {A₀ : Around} {base h₀ : Heap} {L : Addr} {m : PySem.Str → Option Value} {s : Shared} {Q E : Value → Shared → Prop}
  {p : Program} {loose : List PySem.Str} {mean : ExcName → Option Value} {mg mb : PySem.Str → Option Value} {news : List (Addr × Obj)}

theorem num_con {l : Addr} {vs : List Value} {ns : List Int} {k : Int} {t : Tok} (B : Below A₀ base outer h₀) (F : Fr h₀ L s.heap m) (X : (hd.heap_39 w.params).In h₀) (N : News h₀ L s.heap news) (T : Top p loose mean mg mb h₀) (hk : cs.kind = .function)
    (hl : base.IsList l vs.toArray) (hi : IntsAre vs ns) (hfit : ns.length < 2 ^ 62)
    (h0 : 0 ≤ k) (h1 : k ≤ 10) (hd : dp + 3 < recursionLimit) (hu : un + 16 < cLine)
    (hret : ∀ (t : Tok) (h' : Heap) (tk' : Nat), Fr h₀ L h' m → News h₀ L h' news → Q (.int (numE ns k) t) { s with heap := h', toks := tk' }) :
    wpAny (model PySem.Challenge.rw_jb0037_01.row.prog w) (ktrTop dp un gd cn cs L a ccd cl outer) (call (.ref 70) [.ref l, .int k t]) Q E s := by
  revert X; k_fill; intro X
  refine wpAny_call ?_
  k_dflt cell_enter
  k_steps
  all_goals first
    | exact cb_retI hret (by rw [numE, if_pos (by assumption)]) (by assumption) (by assumption)
    | exact cb_retI hret (by rw [numE, if_neg (by assumption)]) (by assumption) (by assumption)
end
open PySem.Builtin.Int (intBits)
theorem intBits_add {x y : Int} {k : Nat} (hx : intBits x ≤ k) (hy : intBits y ≤ k) : intBits (x + y) ≤ k + 1 := by
  have h1 := intBits_le_iff.mp hx
  have h2 := intBits_le_iff.mp hy
  refine intBits_le ?_
  rw [Nat.pow_succ]
  omega
theorem mulOk_of {x y : Int} (hx : intBits x ≤ 2 ^ 25) (hy : intBits y ≤ 2 ^ 25) : IntMulOk x y := by
  have e : (2 : Nat) ^ 25 = 33554432 := by decide
  have h : Builtin.Int.intTooBig (intBits x + intBits y) = false := by
    unfold Builtin.Int.intTooBig bitsLine
    exact decide_eq_false (by omega)
  unfold IntMulOk
  rw [h]
  simp
theorem numE_bits {ns : List Int} {k : Int} (h : (PyData.list (ns.map PyData.int)).layable0 = true) (h0 : 0 ≤ k) (h1 : k ≤ 10) : intBits (numE ns k) ≤ 2 ^ 25 := by
  have hk : intBits (7 * k) ≤ 2 ^ 20 := Nat.le_trans (intBits_le (k := 7) (by omega)) (by decide)
  have e : (2 : Nat) ^ 20 + 1 ≤ 2 ^ 25 := by decide
  unfold numE
  split
  · refine Nat.le_trans (intBits_add ?_ hk) e
    rw [List.getD_eq_getElem?_getD]
    cases hg : ns[(k.fmod (ns.length : Int)).toNat]? with
    | none => exact Nat.zero_le _
    | some x => exact PyData.bits_item_of_ints h (List.mem_of_getElem? hg)
  · rw [Int.zero_add]; exact Nat.le_trans hk (by decide)
theorem spread_bits : intBits 16395309179817738009521987751666139093583423331470737840399399094199505546377 ≤ 2 ^ 25 := by decide +kernel
end
local macro_rules | `(tactic| walk_at "no such key") => `(tactic| fail)
/- C3 -/
section
open PySem PySem.W PyProof.Rows
set_option maxRecDepth 100000
set_option maxHeartbeats 4000000
set_option linter.unusedVariables false
theorem quietC3 : True := by w_top off; exact trivial
theorem octE_size (n : Int) (k : Nat) : (octE n k).size = k := bigE_size _ _

/-! ## what kdf notes -/
structure Asked where
  pw : Array UInt8
  sa : Array UInt8
  ro : Int
  le : Int
abbrev noteObj (c : Asked) (t1 t2 t3 t4 : Tok) : Obj := { cls := .type "tuple", data := .seq #[.bytes c.pw t1, .bytes c.sa t2, .int c.ro t3, .int c.le t4] }
def Noted (tups : List (Addr × Obj)) : List Value → List Asked → Prop
  | [], [] => True
  | v :: vs, c :: cs => (∃ a t1 t2 t3 t4, v = .ref a ∧ (a, noteObj c t1 t2 t3 t4) ∈ tups) ∧ Noted tups vs cs
  | _, _ => False
theorem Noted.length {tups : List (Addr × Obj)} : ∀ {vs : List Value} {cs : List Asked}, Noted tups vs cs → vs.length = cs.length
  | [], [], _ => rfl
  | _ :: _, _ :: _, h => by rw [List.length_cons, List.length_cons, Noted.length h.2]
  | [], _ :: _, h => h.elim
  | _ :: _, [], h => h.elim
theorem Noted.snoc {tups tups' : List (Addr × Obj)} {a : Addr} {c : Asked} {t1 t2 t3 t4 : Tok} (hs : ∀ q ∈ tups, q ∈ tups') (hm : (a, noteObj c t1 t2 t3 t4) ∈ tups') : ∀ {vs : List Value} {cs : List Asked}, Noted tups vs cs → Noted tups' (vs ++ [.ref a]) (cs ++ [c])
  | [], [], _ => ⟨⟨a, t1, t2, t3, t4, rfl, hm⟩, trivial⟩
  | v :: vs, d :: cs, h => ⟨let ⟨b, u1, u2, u3, u4, e, x⟩ := h.1; ⟨b, u1, u2, u3, u4, e, hs _ x⟩, Noted.snoc hs hm h.2⟩
  | [], _ :: _, h => h.elim
  | _ :: _, [], h => h.elim

/-- the ledger with the list la of notes tr, _xor's table P, and what else is fixed -/
def Book (h₀ : Heap) (L : Addr) (h : Heap) (fixed : List (Addr × Obj)) (la : Addr) (tr : List Asked) : Prop :=
  ∃ ps refs n tups, News h₀ L h ((la, listOf refs.toArray n) :: (30, tabObj ps) :: (fixed ++ tups)) ∧ TriplesOk ps.toList ∧ Noted tups refs tr ∧ (∀ q ∈ (30, tabObj ps) :: (fixed ++ tups), q.1 ≠ la) ∧ (∀ q ∈ fixed ++ tups, q.1 ≠ 30)

def maskE (seed : Int) (c : Asked) : Array UInt8 := octE (((((valE (c.pw ++ c.sa) : Nat) : Int) + c.ro + seed) * 16395309179817738009521987751666139093583423331470737840399399094199505546377).fdiv (2 ^ Int.toNat 200)) c.le.toNat
theorem book_back {h₀ h : Heap} {L la D : Addr} {fixed tups news : List (Addr × Obj)} {ps : Array Value} {refs : List Value} {n : Nat} {tr : List Asked} {c : Asked} {t1 t2 t3 t4 : Tok} (N : News h₀ L h news)
    (hD : (D, noteObj c t1 t2 t3 t4) ∈ news) (hl : (la, listOf (refs.toArray.push (.ref D)) n) ∈ news) (hr : ∀ q ∈ (30, tabObj ps) :: (fixed ++ tups), q ∈ news)
    (htr : TriplesOk ps.toList) (hno : Noted tups refs tr) (hne : ∀ q ∈ (30, tabObj ps) :: (fixed ++ tups), q.1 ≠ la) (hne2 : ∀ q ∈ fixed ++ tups, q.1 ≠ 30) : Book h₀ L h fixed la (tr ++ [c]) := by
  have eD := (N _ hD).1
  have e30 := (N _ (hr _ (.head _))).1
  have el := (N _ hl).1
  have hD30 : D ≠ 30 := fun q => by
    simp only [q] at eD e30
    rw [e30] at eD; cases eD
  have hDla : D ≠ la := fun q => by
    simp only [q] at eD el
    rw [el] at eD
    have := congrArg (Option.map Obj.cls) eD
    simp at this
  refine ⟨ps, refs ++ [.ref D], n, tups ++ [(D, noteObj c t1 t2 t3 t4)], fun q hq => ?_, htr, Noted.snoc (fun q hq => List.mem_append_left _ hq) (List.mem_append_right _ (.head _)) hno, fun q hq => ?_, fun q hq => ?_⟩
  · rcases List.mem_cons.mp hq with rfl | hq
    · rw [List.push_toArray] at hl
      exact N _ hl
    · rcases List.mem_cons.mp hq with rfl | hq
      · exact N _ (hr _ (.head _))
      · rw [← List.append_assoc] at hq
        rcases List.mem_append.mp hq with hq | hq
        · exact N _ (hr _ (.tail _ hq))
        · rw [List.mem_singleton.mp hq]; exact N _ hD
  · rcases List.mem_cons.mp hq with rfl | hq
    · exact hne _ (.head _)
    · rw [← List.append_assoc] at hq
      rcases List.mem_append.mp hq with hq | hq
      · exact hne _ (.tail _ hq)
      · rw [List.mem_singleton.mp hq]; exact hDla
  · rw [← List.append_assoc] at hq
    rcases List.mem_append.mp hq with hq | hq
    · exact hne2 _ hq
    · rw [List.mem_singleton.mp hq]; exact hD30

def lawStmt (i : Nat) : Stmt := match PySem.Challenge.pw_jb0037_01.main.body.getLast? with
  | some (.FunctionDef _ _ b _ _ _ _ _ _ _) => b.getD i (.Pass ⟨0, 0, 0, 0⟩)
  | _ => .Pass ⟨0, 0, 0, 0⟩
def ofDef (st : Stmt) (f : PySem.Str → Arguments → List Stmt → Scope → Prop) : Prop := match st with
  | .FunctionDef n a b _ _ _ sc _ _ _ => f n a b sc
  | _ => False

/-- what a call of the handed hash does: it notes what it is asked and mixes it -/
def KdfCon (w : World) (p : Program) (loose : List PySem.Str) (mean : ExcName → Option Value) (mg mb : PySem.Str → Option Value) (fixed₀ : List (Addr × Obj)) (fk la : Addr) (seed : Int) : Prop :=
  ∀ (dp un : Nat) (gd : Option (List Code)) (cn : PySem.Str) (cs : Scope) (a : Addr) (ccd : Value) (cl : List (PySem.Str × Addr)) (outer : List Env) (A₀ : Around) (base h₀ : Heap) (L : Addr) (m : PySem.Str → Option Value) (s : Shared) (Q E : Value → Shared → Prop)
    (fixed : List (Addr × Obj)) (tr : List Asked) (c : Asked) (t1 t2 t3 t4 : Tok),
    Below A₀ base outer h₀ → CodeHd base 34 30 → Fr h₀ L s.heap m → (hd.heap_39 w.params).In h₀ → Top p loose mean mg mb h₀ → cs.kind = .function → (∀ q ∈ fixed₀, q ∈ fixed) → Book h₀ L s.heap fixed la tr →
    tr.length ≤ 100 → c.pw.size ≤ 100 → c.sa.size ≤ 100 → 0 ≤ c.ro → c.ro < 2 ^ 64 → 0 ≤ c.le → c.le ≤ 100 → dp + 6 < recursionLimit → un + 48 < cLine →
    (∀ (t : Tok) (h' : Heap) (tk' : Nat), Fr h₀ L h' m → Book h₀ L h' fixed la (tr ++ [c]) → Q (.bytes (maskE seed c) t) { s with heap := h', toks := tk' }) →
    wpAny (model PySem.Challenge.rw_jb0037_01.row.prog w) (ktrTop dp un gd cn cs L a ccd cl outer) (call (.ref fk) [.bytes c.pw t1, .bytes c.sa t2, .int c.ro t3, .int c.le t4]) Q E s

theorem mix_bits {p sa : Array UInt8} {r seed : Int} (hp : p.size ≤ 100) (hs : sa.size ≤ 100) (h0 : 0 ≤ r) (h1 : r < 2 ^ 64) (h2 : 0 ≤ seed) (h3 : seed < 2 ^ 64) : Builtin.Int.intBits (((valE (p ++ sa) : Nat) : Int) + r + seed) ≤ 2 ^ 25 := by
  have hv : valE (p ++ sa) < 2 ^ 1600 := by
    have h := valE_lt (p ++ sa)
    rw [Array.size_append] at h
    have e2 : (2 : Nat) ^ 8 = 256 := by decide
    rw [← e2, ← Nat.pow_mul] at h
    exact Nat.lt_of_lt_of_le h (Nat.pow_le_pow_right (by decide) (by omega))
  have b1 : Builtin.Int.intBits ((valE (p ++ sa) : Nat) : Int) ≤ 1600 := intBits_le (by rw [Int.natAbs_natCast]; exact hv)
  have b2 : Builtin.Int.intBits r ≤ 64 := intBits_le (by omega)
  have b3 : Builtin.Int.intBits seed ≤ 64 := intBits_le (by omega)
  exact Nat.le_trans (intBits_add (k := 1601) (intBits_add b1 (Nat.le_trans b2 (by decide))) (Nat.le_trans b3 (by decide))) (by decide)

local macro_rules | `(tactic| mul_fits) => `(tactic| exact mulOk_of (mix_bits (by assumption) (by assumption) (by assumption) (by assumption) (by assumption) (by assumption)) spread_bits)
local macro_rules | `(tactic| k_upd) => `(tactic| first | (refine' Upd.head ?updC; (case updC => assumption)) | (refine' Upd.tail ?updA ?updB; (case updA => k_ne); (case updB => k_upd)))
local macro_rules | `(tactic| ktr_rel) => `(tactic| ((try simp only [Array.size_append, takeE_size, dropE_size, octE_size, bigE_size]); first | omega | l_fact))
local macro_rules | `(tactic| walk_at "call ref") => `(tactic| (k_here; (with_reducible show wpAny _ _ (call (Value.ref 77) [Value.int _ _, Value.int _ _]) _ _ _); k_dflt (refine' oct_con ?B ?F ?X ?N ?T ?kk ?h0 ?h1 ?hd ?hu ?_; (case B => k_asm); (case F => k_asm); (case X => k_asm); (case N => k_asm); (case T => k_asm); (case kk => first | exact rfl | assumption); (case h0 => first | omega | l_fact); (case h1 => first | omega | l_fact); (case hd => ktr_room); (case hu => ktr_units)); intro t9 h9 tk9 F9 N9; (try dsimp only); (try k_fold)))
local macro_rules | `(tactic| walk_at "call ref") => `(tactic| (k_here; (with_reducible show wpAny _ _ (call (Value.ref _) [Value.bytes _ _, Value.str _ _]) _ _ _); k_dflt (refine from_big (by k_asm) (by k_mem) (by ktr_rel) ?_); intro _ _))
local macro_rules | `(tactic| walk_at "binaryOp Add bytes bytes") => `(tactic| (k_here; k_dflt (refine add_bb (by ktr_rel) ?_); intro _ _))

local macro_rules | `(tactic| walk_at "call ref") => `(tactic| (k_here; kn_here; k_dflt (refine wpAny_call ?_; (refine' code_nest ?k1 ?k2 ?k3 ?k4 ?k5 ?kA ?kF ?kK ?k6 ?k7 ?k8 ?k9 ?kB ?_ ?c2 ?c3 ?c4 ?c5; (case kA => exact rfl); (case kF => exact rfl); (case kK => first | exact rfl | assumption); (case k1 => k_asm); (case k2 => k_asm); (case k3 => k_asm); (case k4 => k_asm); (case k5 => k_asm); (case k6 => k_mem); (case k7 => exact codeRec_news (by k_asm) (by k_mem) (by assumption) (by assumption)); (case k8 => ktr_room); (case k9 => exact BindsTo.of_eq rfl); (case c5 => decide); (case kB => exact locs rfl); (case c2 => exact rfl); (case c3 => exact rfl); (case c4 => exact rfl); k_whole; intro g' L' h' FG' F' N' B' X' T'; (try dsimp only); (try k_lift B'); (try k_fold)))))
local macro_rules | `(tactic| walk_at "call builtin:list.append") => `(tactic| (k_here; (with_reducible show wpAny _ _ (call (Value.builtin _) [Value.ref _, _]) _ _ _); k_dflt (refine' append_K ?k1 ?k2 ?k3 ?_ ?z; (case k1 => k_asm); (case k2 => k_asm); (case k3 => k_upd); (case z => assumption); k_whole); intro h' F' N'; (try k_sweep)))
theorem news_front {h₀ h : Heap} {L : Addr} {fixed₀ fixed tups : List (Addr × Obj)} {x y : Addr × Obj} (N : News h₀ L h (x :: y :: (fixed ++ tups))) (hsub : ∀ q ∈ fixed₀, q ∈ fixed) : News h₀ L h (x :: (fixed₀ ++ (y :: (fixed ++ tups)))) := fun q hq => by
  rcases List.mem_cons.mp hq with rfl | hq
  · exact N _ (.head _)
  · rcases List.mem_append.mp hq with hq | hq
    · exact N _ (.tail _ (.tail _ (List.mem_append_left _ (hsub _ hq))))
    · exact N _ (.tail _ hq)
theorem ne_front {la : Addr} {fixed₀ fixed tups : List (Addr × Obj)} {y : Addr × Obj} (N : ∀ q ∈ y :: (fixed ++ tups), q.1 ≠ la) (hsub : ∀ q ∈ fixed₀, q ∈ fixed) : ∀ q ∈ fixed₀ ++ (y :: (fixed ++ tups)), q.1 ≠ la := fun q hq => by
  rcases List.mem_append.mp hq with hq | hq
  · exact N _ (.tail _ (List.mem_append_left _ (hsub _ hq)))
  · exact N _ hq
section
variable {w : World} {p : Program} {loose : List PySem.Str} {mean : ExcName → Option Value} {mg mb : PySem.Str → Option Value}

theorem kdf_con {nqk nqm : PySem.Str} {dk pm dm pmm ctk ctm : Value} {fk ck fm cm cs ca cc la : Addr} {ock ocm ocs oca occ : Obj} {vsk vsm : Array Value} {tqk tqm ts : Tok} {seed : Int}
    (hk1 : ock.data = .fields vsk) (hk2 : vsk[1]? = some (.str nqk tqk)) (hm1 : ocm.data = .fields vsm) (hm2 : vsm[1]? = some (.str nqm tqm))
    (h1 : ocs.data = .cell (some (.int seed ts))) (h2 : oca.data = .cell (some (.ref la))) (h3 : occ.data = .cell (some (.ref fm))) (hs0 : 0 ≤ seed) (hs1 : seed < 2 ^ 64) :
    ofDef (lawStmt 9) fun nk psk bk sck => ofDef (lawStmt 8) fun nm psm bm scm =>
      KdfCon w p loose mean mg mb [(fk, fnMade nk nqk psk bk sck [(PySem.Str.ofString "mask", cc), (PySem.Str.ofString "calls", ca)] dk pm ck ctk), (ck, ock), (fm, fnMade nm nqm psm bm scm [(PySem.Str.ofString "seed", cs)] dm pmm cm ctm), (cm, ocm), (cs, ocs), (cc, occ), (ca, oca)] fk la seed := by
  conv in (lawStmt 9) => whnf
  conv in (lawStmt 8) => whnf
  dsimp only [ofDef]
  unfold KdfCon
  intro dp un gd cn csc a ccd cl outer A₀ base h₀ L m s Q E fixed tr c t1 t2 t3 t4 B C F X T hk hsub hB hlen hpw hsa hr0 hr1 hl0 hl1 hd hu hret
  obtain ⟨ps, refs, n, tups, N₀, htr, hno, hne, hne2⟩ := hB
  have N := news_front N₀ hsub
  have hne' := ne_front hne hsub
  generalize hrest : ((30, tabObj ps) :: (fixed ++ tups) : List (Addr × Obj)) = rest at N hne'
  simp only [List.cons_append, List.nil_append] at N hne'
  clear N₀
  have hrl : refs.toArray.size ≤ sizeLine := by rw [List.size_toArray, hno.length, sizeLine_eq]; omega
  revert X; k_fill; intro X
  k_steps
  exact hret _ _ _ (by assumption) (book_back (by assumption) (by k_mem) (by k_mem) (fun q hq => by rw [hrest] at hq; repeat first | exact hq | refine List.Mem.tail _ ?_) htr hno hne hne2)
end
end
local macro_rules | `(tactic| walk_at "no such key") => `(tactic| fail)
local macro_rules | `(tactic| walk_at "no such key") => `(tactic| fail)
local macro_rules | `(tactic| walk_at "no such key") => `(tactic| fail)
local macro_rules | `(tactic| walk_at "no such key") => `(tactic| fail)
local macro_rules | `(tactic| walk_at "no such key") => `(tactic| fail)
local macro_rules | `(tactic| walk_at "no such key") => `(tactic| fail)
/- C4 -/
section
open PySem PySem.W PyProof.Rows
set_option maxRecDepth 100000
set_option maxHeartbeats 4000000
set_option linter.unusedVariables false
theorem quietC4 : True := by w_top off; exact trivial
def xorE (x z : Array UInt8) : Array UInt8 := byteArr (zipInts x z)
theorem zipInts_in (x z : Array UInt8) : ∀ k ∈ zipInts x z, 0 ≤ k ∧ k < 256 := by
  intro k hk
  unfold zipInts at hk
  obtain ⟨i, hi, e⟩ := List.getElem_of_mem hk
  rw [List.getElem_zipWith, bitXor_nat] at e
  have h1 := (x.toList[i]'(by simp at hi; simp; omega)).toNat_lt
  have h2 := (z.toList[i]'(by simp at hi; simp; omega)).toNat_lt
  have h3 : ∀ a b : Nat, a < 2 ^ 8 → b < 2 ^ 8 → a ^^^ b < 2 ^ 8 := fun a b ha hb => Nat.xor_lt_two_pow ha hb
  have h4 := h3 _ _ h1 h2
  omega
section
variable {w : World} {dp un : Nat} {gd : Option (List Code)} {cn : PySem.Str} {cs : Scope} {a : Addr} {ccd : Value} {cl : List (PySem.Str × Addr)} {outer : List Env} {A₀ : Around} {base h₀ : Heap} {L : Addr} {m : PySem.Str → Option Value} {s : Shared} {Q E : Value → Shared → Prop}
  {p : Program} {loose : List PySem.Str} {mean : ExcName → Option Value} {mg mb : PySem.Str → Option Value} {news : List (Addr × Obj)}

theorem xor_con {x z : Array UInt8} {tx tz : Tok} {ps : Array Value} (B : Below A₀ base outer h₀) (C : CodeHd base 34 30) (F : Fr h₀ L s.heap m) (X : (hd.heap_39 w.params).In h₀) (N : News h₀ L s.heap ((30, tabObj ps) :: news)) (T : Top p loose mean mg mb h₀) (hk : cs.kind = .function)
    (ht : TriplesOk ps.toList) (hne : ∀ q ∈ news, q.1 ≠ 30) (G : AllBare s.gens) (hx : x.size ≤ 1000) (hd : dp + 4 < recursionLimit) (hu : un + 24 < cLine)
    (hret : ∀ (t : Tok) (h' : Heap) (g' : Array GenState) (tk' : Nat) (ps' : Array Value), TriplesOk ps'.toList → Fr h₀ L h' m → News h₀ L h' ((30, tabObj ps') :: news) → AllBare g' → Q (.bytes (xorE x z) t) { s with heap := h', gens := g', toks := tk' }) :
    wpAny (model PySem.Challenge.rw_jb0037_01.row.prog w) (ktrTop dp un gd cn cs L a ccd cl outer) (call (.ref 35) [.bytes x tx, .bytes z tz]) Q E s := by
  revert X; k_fill; intro X
  refine wpAny_call ?_
  k_dflt cell_enter
  k_steps
  refine xor_gen (by assumption) (by assumption) (by assumption) (CodeHd.keeps C (Below.stays (by assumption))) rfl rfl ht rfl rfl rfl (by decide) rfl rfl rfl (by decide) (by decide) (by decide) rfl (by ktr_room) ?_ (fun _ => rfl)
  k_steps
  refine zip_pack ?F ?N G hne fun n9 h9 g9 tk9 ps9 a9 hL9 hK9 ht9 F9 N9 G9 X9 => ?_
  case F => assumption
  case N => assumption
  k_steps
  refine' bytes_gen ?F ?N G9 X9 hL9 hK9 (zipInts_in x z) (by rw [zipInts_length, sizeLine_eq]; exact Nat.le_trans (Nat.min_le_left _ _) (Nat.le_trans hx (by decide))) ?_
  case F => assumption
  case N => assumption
  intro h8 g8 t8 tk8 F8 N8 G8
  k_steps
  exact hret _ _ _ _ _ ht9 (by assumption) (by assumption) G8
end
end
local macro_rules | `(tactic| walk_at "no such key") => `(tactic| fail)
/- C5 -/
section
open PySem PySem.W PyProof.Rows
set_option maxRecDepth 100000
set_option maxHeartbeats 4000000
set_option linter.unusedVariables false
theorem quietC5 : True := by w_top off; exact trivial
/-- what a round asks the hash -/
def askE (i : Int) (pp : Array UInt8) (e : Int) (salt r : Array UInt8) : Asked := ⟨#[i.toNat.toUInt8] ++ pp, salt ++ r, (10000 * 2 ^ e.toNat : Int).fdiv 4, (r.size : Nat)⟩
def FnIn (fk : Addr) (fixed : List (Addr × Obj)) : Prop := ∃ oc od fd sl, (fk, (⟨oc, od, .func fd, sl⟩ : Obj)) ∈ fixed
section
variable {w : World} {dp un : Nat} {gd : Option (List Code)} {cn : PySem.Str} {cs : Scope} {a : Addr} {ccd : Value} {cl : List (PySem.Str × Addr)} {outer : List Env} {A₀ : Around} {base h₀ : Heap} {L : Addr} {m : PySem.Str → Option Value} {s : Shared} {Q E : Value → Shared → Prop}
  {p : Program} {loose : List PySem.Str} {mean : ExcName → Option Value} {mg mb : PySem.Str → Option Value} {fixed₀ fixed : List (Addr × Obj)} {fk la : Addr} {seed : Int} {tr : List Asked}

local macro_rules | `(tactic| ktr_rel) => `(tactic| ((try simp only [Array.size_append, takeE_size, dropE_size, octE_size, bigE_size, byteArr_size, List.size_toArray, List.length_cons, List.length_nil]); first | omega | l_fact))
local macro_rules | `(tactic| walk_at "binaryOp Add bytes bytes") => `(tactic| (k_here; k_dflt (refine add_bb (by ktr_rel) ?_); intro _ _))
local macro_rules | `(tactic| walk_at "call builtin:len") => `(tactic| (k_here; (with_reducible show wpAny _ _ (call (Value.builtin "len") [Value.bytes _ _]) _ _ _); (refine len_b (by ktr_rel) ?_)))

theorem kdf_use (KC : KdfCon w p loose mean mg mb fixed₀ fk la seed) (c : Asked) {t1 t2 t3 t4 : Tok} (B : Below A₀ base outer h₀) (C : CodeHd base 34 30) (F : Fr h₀ L s.heap m) (X : (hd.heap_39 w.params).In h₀) (T : Top p loose mean mg mb h₀) (hk : cs.kind = .function)
    (hsub : ∀ q ∈ fixed₀, q ∈ fixed) (hB : Book h₀ L s.heap fixed la tr) (hlen : tr.length ≤ 100) (hpw : c.pw.size ≤ 100) (hsa : c.sa.size ≤ 100) (hr0 : 0 ≤ c.ro) (hr1 : c.ro < 2 ^ 64) (hl0 : 0 ≤ c.le) (hl1 : c.le ≤ 100) (hd : dp + 6 < recursionLimit) (hu : un + 48 < cLine)
    (hret : ∀ (t : Tok) (h' : Heap) (tk' : Nat), Fr h₀ L h' m → Book h₀ L h' fixed la (tr ++ [c]) → Q (.bytes (maskE seed c) t) { s with heap := h', toks := tk' }) :
    wpAny (model PySem.Challenge.rw_jb0037_01.row.prog w) (ktrTop dp un gd cn cs L a ccd cl outer) (call (.ref fk) [.bytes c.pw t1, .bytes c.sa t2, .int c.ro t3, .int c.le t4]) Q E s :=
  KC dp un gd cn cs a ccd cl outer A₀ base h₀ L m s Q E fixed tr c t1 t2 t3 t4 B C F X T hk hsub hB hlen hpw hsa hr0 hr1 hl0 hl1 hd hu hret
theorem ro_eq (k : Nat) : (10000 * 2 ^ k : Int).fdiv 4 = 2500 * 2 ^ k := by
  rw [Int.fdiv_eq_ediv_of_nonneg _ (by decide)]
  generalize (2 ^ k : Int) = y
  omega
theorem ro_in {e : Int} (h0 : 0 ≤ e) (h1 : e < 16) : 0 ≤ (10000 * 2 ^ e.toNat : Int).fdiv 4 ∧ (10000 * 2 ^ e.toNat : Int).fdiv 4 < 2 ^ 64 := by
  rw [ro_eq]
  have h2 : (2 : Int) ^ e.toNat ≤ 32768 := by
    have h3 : (2 : Nat) ^ e.toNat ≤ 2 ^ 15 := Nat.pow_le_pow_right (by decide) (by omega)
    have h4 : ((2 ^ e.toNat : Nat) : Int) ≤ 32768 := by omega
    rw [Int.natCast_pow] at h4
    exact h4
  have h5 : (0 : Int) < 2 ^ e.toNat := Int.pow_pos (by decide)
  generalize (2 ^ e.toNat : Int) = y at *
  omega

theorem rnd_con {i e : Int} {pp salt r : Array UInt8} {ti tp te ts tr' : Tok} (KC : KdfCon w p loose mean mg mb fixed₀ fk la seed) (hfn : FnIn fk fixed₀) (B : Below A₀ base outer h₀) (C : CodeHd base 34 30) (F : Fr h₀ L s.heap m) (X : (hd.heap_39 w.params).In h₀) (T : Top p loose mean mg mb h₀) (hk : cs.kind = .function)
    (hsub : ∀ q ∈ fixed₀, q ∈ fixed) (hB : Book h₀ L s.heap fixed la tr) (hlen : tr.length ≤ 100) (hi0 : 0 ≤ i) (hi1 : i < 256) (he0 : 0 ≤ e) (he1 : e < 16) (hpp : pp.size ≤ 40) (hsa : salt.size ≤ 40) (hr : r.size ≤ 40) (hd : dp + 8 < recursionLimit) (hu : un + 64 < cLine)
    (hret : ∀ (t : Tok) (h' : Heap) (tk' : Nat), Fr h₀ L h' m → Book h₀ L h' fixed la (tr ++ [askE i pp e salt r]) → Q (.bytes (maskE seed (askE i pp e salt r)) t) { s with heap := h', toks := tk' }) :
    wpAny (model PySem.Challenge.rw_jb0037_01.row.prog w) (ktrTop dp un gd cn cs L a ccd cl outer) (call (.ref 42) [.int i ti, .bytes pp tp, .int e te, .bytes salt ts, .bytes r tr', .ref fk]) Q E s := by
  revert X; k_fill; intro X
  obtain ⟨ps, refs, n, tups, N₀, htr, hno, hne, hne2⟩ := hB
  obtain ⟨oc, od, fd, sl, hfm⟩ := hfn
  have N : News h₀ L s.heap ((fk, (⟨oc, od, .func fd, sl⟩ : Obj)) :: ((la, listOf refs.toArray n) :: (30, tabObj ps) :: (fixed ++ tups))) := fun q hq => by
    rcases List.mem_cons.mp hq with rfl | hq
    · exact N₀ _ (.tail _ (.tail _ (List.mem_append_left _ (hsub _ hfm))))
    · exact N₀ _ hq
  generalize hrest : ((la, listOf refs.toArray n) :: (30, tabObj ps) :: (fixed ++ tups) : List (Addr × Obj)) = rest at N
  clear N₀
  refine wpAny_call ?_
  k_dflt cell_enter
  k_steps
  rename News _ _ _ _ => N9
  refine kdf_use KC (askE i pp e salt r) (by assumption) C (by assumption) (by assumption) (by assumption) rfl hsub ⟨ps, refs, n, tups, fun q hq => N9 q (by rw [hrest] at hq; exact .tail _ (.tail _ hq)), htr, hno, hne, hne2⟩ hlen ?_ ?_ (ro_in he0 he1).1 (ro_in he0 he1).2 ?_ ?_ (by ktr_room) (by ktr_units) fun t9 h9 tk9 F9 B9 => ?_
  · show (#[i.toNat.toUInt8] ++ pp).size ≤ 100
    ktr_rel
  · show (salt ++ r).size ≤ 100
    ktr_rel
  · show (0 : Int) ≤ (r.size : Nat)
    omega
  · show ((r.size : Nat) : Int) ≤ 100
    omega
  obtain ⟨ps9, refs9, n9, tups9, N10, htr9, hno9, hne9, hnf9⟩ := B9
  dsimp only
  k_steps
  exact hret _ _ _ (by assumption) ⟨ps9, refs9, n9, tups9, by assumption, htr9, hno9, hne9, hnf9⟩
end
end
local macro_rules | `(tactic| walk_at "no such key") => `(tactic| fail)
local macro_rules | `(tactic| walk_at "no such key") => `(tactic| fail)
local macro_rules | `(tactic| walk_at "no such key") => `(tactic| fail)
/- C6 -/
section
open PySem PySem.W PyProof.Rows
set_option maxRecDepth 100000
set_option maxHeartbeats 4000000
set_option linter.unusedVariables false
theorem quietC6 : True := by w_top off; exact trivial
def saltE (id : Int) (ext : Bool) : Array UInt8 := if ext then #[] else #[115, 104, 97, 109, 105, 114] ++ bigE 2 id.toNat
theorem saltE_size (id : Int) (ext : Bool) : (saltE id ext).size ≤ 8 := by
  unfold saltE
  split
  · decide
  · rw [Array.size_append, bigE_size]; decide
section
variable {w : World} {dp un : Nat} {gd : Option (List Code)} {cn : PySem.Str} {cs : Scope} {a : Addr} {ccd : Value} {cl : List (PySem.Str × Addr)} {outer : List Env} {A₀ : Around} {base h₀ : Heap} {L : Addr} {m : PySem.Str → Option Value} {s : Shared} {Q E : Value → Shared → Prop}
  {p : Program} {loose : List PySem.Str} {mean : ExcName → Option Value} {mg mb : PySem.Str → Option Value} {news : List (Addr × Obj)}
local macro_rules | `(tactic| ktr_rel) => `(tactic| ((try simp only [Array.size_append, takeE_size, dropE_size, octE_size, bigE_size, byteArr_size, List.size_toArray, List.length_cons, List.length_nil]); first | omega | l_fact))
local macro_rules | `(tactic| walk_at "binaryOp Add bytes bytes") => `(tactic| (k_here; k_dflt (refine add_bb (by ktr_rel) ?_); intro _ _))
local macro_rules | `(tactic| walk_at "call builtin:int.to_bytes") => `(tactic| (k_here; k_dflt (refine to_big (by decide) (by decide) (by assumption) (by (show _ < (256 : Int) ^ 2); omega) ?_); intro _ _))
local macro_rules | `(tactic| walk_at "call type:bytes") => `(tactic| (k_here; (with_reducible show wpAny _ _ (call (Value.type "bytes") []) _ _ _); k_dflt (refine bytes0 ?_); intro _ _))
local macro_rules | `(tactic| walk_at "call ref") => `(tactic| (k_here; k_dflt (refine wpAny_call ?_; (refine' code_def ?k1 ?k2 ?k3 ?k4 ?k5 ?kA ?kF ?kK ?k6 ?k7 ?k8 ?k9 ?kB ?_ ?c2 ?c3 ?c4 ?c5; (case kA => exact rfl); (case kF => exact rfl); (case kK => first | exact rfl | assumption); (case k1 => k_asm); (case k2 => k_asm); (case k3 => k_asm); (case k4 => k_asm); (case k5 => k_asm); (case k6 => k_is); (case k7 => k_is); (case k8 => ktr_room); (case k9 => exact BindsTo.of_eq rfl); (case c5 => decide); (case kB => exact locs rfl); (case c2 => exact rfl); (case c3 => exact rfl); (case c4 => exact rfl); k_whole; intro g' L' h' FG' F' N' B' X' T'; (try dsimp only); (try k_lift B'); (try k_fold)))))

theorem salt_con {id : Int} {ext : Bool} {ti : Tok} (B : Below A₀ base outer h₀) (F : Fr h₀ L s.heap m) (X : (hd.heap_39 w.params).In h₀) (N : News h₀ L s.heap news) (T : Top p loose mean mg mb h₀) (hk : cs.kind = .function)
    (h0 : 0 ≤ id) (h1 : id < 32768) (hd : dp + 6 < recursionLimit) (hu : un + 48 < cLine)
    (hret : ∀ (t : Tok) (h' : Heap) (tk' : Nat), Fr h₀ L h' m → News h₀ L h' news → Q (.bytes (saltE id ext) t) { s with heap := h', toks := tk' }) :
    wpAny (model PySem.Challenge.rw_jb0037_01.row.prog w) (ktrTop dp un gd cn cs L a ccd cl outer) (call (.ref 49) [.int id ti, .bool ext]) Q E s := by
  revert X; k_fill; intro X
  cases ext
  · k_steps
    exact hret _ _ _ (by assumption) (by assumption)
  · k_steps
    exact hret _ _ _ (by assumption) (by assumption)
end
end
local macro_rules | `(tactic| walk_at "no such key") => `(tactic| fail)
local macro_rules | `(tactic| walk_at "no such key") => `(tactic| fail)
local macro_rules | `(tactic| walk_at "no such key") => `(tactic| fail)
local macro_rules | `(tactic| walk_at "no such key") => `(tactic| fail)
local macro_rules | `(tactic| walk_at "no such key") => `(tactic| fail)
/- L7 -/
section
open PySem PySem.W PyProof.Rows PySem.Calls
set_option maxRecDepth 100000
set_option maxHeartbeats 4000000
set_option linter.unusedVariables false
theorem quietL7 : True := by w_top off; exact trivial
section
variable {prog : Program} {w : World} {A : Around} {E : Value → Shared → Prop} {s : Shared}
theorem sub_ri_reversed : isSubtype (.type "range_iterator") (.type "reversed") = pure false := by rw [isSubtype_type]; kernel_rfl
/-- range.__reversed__ of range(0, 4) -/
theorem call_range_reversed {r : Addr} {t u v : Tok} {Q : Value → Shared → Prop} (hr : IsRange s.heap r 0 4 1 t u v)
    (h : Q (.ref s.heap.objs.size) { s with heap := s.heap.push { cls := .type "range_iterator", data := .fields #[rawInt 3, rawInt 4, rawInt (-1)] } }) :
    wpAny (model prog w) A (call (.builtin "range.__reversed__") [.ref r]) Q E s := by
  have hT : s.TypeIs (.ref r) "range" := ⟨_, hr, rfl⟩
  refine wpAny_call_entry F.slot_range_reversed hT F.entry_range_reversed ?_ (F.args_range_reversed_1 _)
  obtain ⟨hp, g, d, tk, os⟩ := s
  wp_walk
  exact ⟨_, rfl, h⟩
theorem run_range_reversed {r : Addr} {t u v : Tok} {Q : Value → Shared → Prop} (hr : IsRange s.heap r 0 4 1 t u v)
    (h : Q (.ref s.heap.objs.size) { s with heap := s.heap.push { cls := .type "range_iterator", data := .fields #[rawInt 3, rawInt 4, rawInt (-1)] } }) :
    wpAny (model prog w) A (runValue (.call (.builtin "range.__reversed__") ⟨[.ref r], []⟩)) Q E s := call_range_reversed hr h
theorem code_reversed_range {r : Addr} {t u v : Tok} {Q₁ : Value → Shared → Prop} (hr : IsRange s.heap r 0 4 1 t u v)
    (h : Q₁ (.ref s.heap.objs.size) { s with heap := s.heap.push { cls := .type "range_iterator", data := .fields #[rawInt 3, rawInt 4, rawInt (-1)] } }) :
    codeAny (model prog w) A (.call (.builtin "reversed.__new__") ⟨[.type "reversed", .ref r], []⟩) (wants Q₁ E) s := by
  have hT : s.TypeIs (.ref r) "range" := ⟨_, hr, rfl⟩
  have e1 := F.newCall_reversed_1 (.ref r)
  have e2 := newClass_reversed (.ref r)
  have e3 := F.slot_range_reversed.lookup
  have e4 := F.slot_range_reversed.bind (.ref r)
  obtain ⟨hp, g, d, tk, os⟩ := s
  refine codeAny_of_tree ?_
  wp_walk
  refine ⟨plainId_quiet F.plain_reversed_new _, codeAny_builtin F.entry_reversed_new ?_⟩
  rw [Around.under_plainId F.plain_reversed_new _]
  wp_walk using run_range_reversed (s := ⟨hp, g, d, tk, os⟩) hr
  exact h

theorem call_reversed_range {r : Addr} {t u v : Tok} {Q : Value → Shared → Prop} (hr : IsRange s.heap r 0 4 1 t u v)
    (h : Q (.ref s.heap.objs.size) { s with heap := s.heap.push { cls := .type "range_iterator", data := .fields #[rawInt 3, rawInt 4, rawInt (-1)] } }) :
    wpAny (model prog w) A (call (.type "reversed") [.ref r]) Q E s := by
  refine callType_other (U := "range_iterator") (Q₁ := fun obj s₁ => obj = .ref s.heap.objs.size ∧ s₁ = { s with heap := s.heap.push { cls := .type "range_iterator", data := .fields #[rawInt 3, rawInt 4, rawInt (-1)] } }) (by decide +kernel) F.create_reversed ⟨_, _, F.mro_reversed⟩ F.made_reversed sub_ri_reversed (F.typeCall_reversed_1 _) (code_reversed_range hr ⟨rfl, rfl⟩) ?_
  rintro obj s₁ ⟨rfl, rfl⟩
  exact ⟨⟨_, Heap.get?_push_size _ rfl, rfl⟩, h⟩

/-! ## a for over a walker whose turns may also make generators -/
def TurnOk (J : Nat → Shared → Prop) (Q : Flow → Shared → Prop) (i : Nat) (f : Flow) (s' : Shared) : Prop :=
  match f with
  | .next | .cont => J (i + 1) s'
  | .brk => Q .next s'
  | .ret v => Q (.ret v) s'
def ForOk (prog : Program) (w : World) (A : Around) (env : Env) (x : PySem.Str) (body : List Stmt) (Q : Flow → Shared → Prop) (E : Value → Shared → Prop) (it : Value) (s₂ : Shared) : Prop :=
  ∃ (I : Addr) (fp wr : List Addr) (n : Nat) (P : Nat → Value → Prop) (St : Nat → Heap → Prop) (J : Nat → Shared → Prop),
    it = .ref I ∧ Walks prog w A I fp wr n P St ∧ J 0 s₂ ∧ (∀ i s', J i s' → St i s'.heap) ∧
    (∀ i s' v h₁ tk₁, i < n → J i s' → P i v → St (i + 1) h₁ → (∀ b o, b ∉ wr → s'.heap.get? b = some o → h₁.get? b = some o) →
      wpAny (model prog w) A (storeName env x v) (fun _ s₃ => wpAny (model prog w) A (execs body env) (TurnOk J Q i) E s₃) E { s' with heap := h₁, toks := tk₁ }) ∧
    (∀ s' h₁ tk₁, J n s' → (∀ b o, b ∉ wr → s'.heap.get? b = some o → h₁.get? b = some o) → Q .next { s' with heap := h₁, toks := tk₁ })

theorem my_for {Q : Flow → Shared → Prop} {env : Env} {x : PySem.Str} {px pos : Pos} {iter : Expr} {body : List Stmt}
    (h : wpAny (model prog w) A (eval iter env) (fun xv s₁ => wpAny (model prog w) A (pyIter xv) (ForOk prog w A env x body Q (fun _ _ => False)) E s₁) E s)
    (hs : ∀ x, foldedSetIterable iter env x = pure x := by intro _; rfl) :
    wpAny (model prog w) A (exec (.For (.Name x px) iter body [] pos) env) Q E s := by
  refine wpAny_For (wpAny_mono h (fun xv s₁ h₁ => wpAny_mono h₁ (fun it s₂ h₂ => ?_) fun _ _ e => e) fun _ _ e => e) hs
  obtain ⟨I, fp, wr, n, P, St, J, rfl, W, hJ0, hst, turn, done⟩ := h₂
  have up : ∀ {α : Type} {t : Sem α} {Q : α → Shared → Prop} {E' : Value → Shared → Prop} {s : Shared}, wpAny (model prog w) A t Q (fun _ _ => False) s → wpAny (model prog w) A t Q E' s := fun h => wpAny_noRaise h
  refine codeAny_forLoop (fun k s' => ∃ i, i ≤ n ∧ k = n + 1 - i ∧ J i s') ?_ (n + 1) ⟨0, Nat.zero_le _, rfl, hJ0⟩
  rintro k s' ⟨i, hi, rfl, hJ⟩
  by_cases hlt : i < n
  · refine W.item i _ _ _ hlt (hst _ _ hJ) fun v h₁ tk₁ hP hst₁ hk₁ => ?_
    refine wpAny_assign_Name (up (wpAny_mono (turn i s' v h₁ tk₁ hlt hJ hP hst₁ hk₁) (fun _ s₃ h₃ => up (wpAny_mono h₃ (fun f s₄ h₄ => ?_) fun _ _ e => e)) fun _ _ e => e))
    cases f with
    | next => exact ⟨n + 1 - (i + 1), by omega, i + 1, hlt, rfl, h₄⟩
    | cont => exact ⟨n + 1 - (i + 1), by omega, i + 1, hlt, rfl, h₄⟩
    | brk => exact h₄
    | ret v => exact h₄
  · have hin : i = n := by omega
    subst hin
    exact W.done _ _ _ (hst _ _ hJ) fun h₁ tk₁ hk₁ => wpAny_execs_nil (done s' h₁ tk₁ hJ hk₁)
end
end
local macro_rules | `(tactic| walk_at "no such key") => `(tactic| fail)
/- L8 -/
section
open PySem PySem.W PyProof.Rows PySem.Calls
set_option maxRecDepth 100000
set_option maxHeartbeats 4000000
set_option linter.unusedVariables false
theorem quietL8 : True := by w_top off; exact trivial
abbrev ritO (x left step : Int) : Obj := { cls := .type "range_iterator", data := .fields #[rawInt x, rawInt left, rawInt step] }
def NoRit (fixed : List (Addr × Obj)) : Prop := ∀ q ∈ fixed, ∀ x left step, q.2 ≠ ritO x left step
theorem noRit_cls {o : Obj} (h : o.cls ≠ .type "range_iterator") : ∀ x left step, o ≠ ritO x left step := fun _ _ _ e => h (congrArg Obj.cls e)
theorem noRit_data {o : Obj} (h : ∀ vs, o.data ≠ .fields vs) : ∀ x left step, o ≠ ritO x left step := fun _ _ _ e => h _ (congrArg Obj.data e)

theorem Noted.tidy {tups : List (Addr × Obj)} {p : (Addr × Obj) → Bool} (hp : ∀ a c t1 t2 t3 t4, p (a, noteObj c t1 t2 t3 t4) = true) : ∀ {vs : List Value} {cs : List Asked}, Noted tups vs cs → Noted (tups.filter p) vs cs
  | [], [], _ => trivial
  | v :: vs, c :: cs, ⟨⟨a, t1, t2, t3, t4, e, x⟩, h⟩ => ⟨⟨a, t1, t2, t3, t4, e, List.mem_filter.mpr ⟨x, hp ..⟩⟩, Noted.tidy hp h⟩
  | [], _ :: _, h => h.elim
  | _ :: _, [], h => h.elim

theorem Book.kept {h₀ h h₁ : Heap} {L la : Addr} {fixed : List (Addr × Obj)} {tr : List Asked} (hB : Book h₀ L h fixed la tr) (hk : ∀ b o, h.get? b = some o → h₁.get? b = some o) : Book h₀ L h₁ fixed la tr := by
  obtain ⟨ps, refs, n, tups, N, r⟩ := hB
  exact ⟨ps, refs, n, tups, fun q hq => ⟨hk _ _ (N q hq).1, (N q hq).2⟩, r⟩
theorem Book.drop {h₀ h : Heap} {L la : Addr} {x : Addr × Obj} {fixed : List (Addr × Obj)} {tr : List Asked} (hB : Book h₀ L h (x :: fixed) la tr) : Book h₀ L h fixed la tr := by
  obtain ⟨ps, refs, n, tups, N, h1, h2, h3, h4⟩ := hB
  refine ⟨ps, refs, n, tups, fun q hq => N q ?_, h1, h2, fun q hq => h3 q ?_, fun q hq => h4 q (.tail _ hq)⟩
  · rcases List.mem_cons.mp hq with rfl | hq
    · exact .head _
    · rcases List.mem_cons.mp hq with rfl | hq
      · exact .tail _ (.head _)
      · exact .tail _ (.tail _ (.tail _ hq))
  · rcases List.mem_cons.mp hq with rfl | hq
    · exact .head _
    · exact .tail _ (.tail _ hq)
theorem Book.add {h₀ h : Heap} {L la I : Addr} {it : Obj} {fixed : List (Addr × Obj)} {tr : List Asked} (hB : Book h₀ L h fixed la tr) (h1 : h.get? I = some it) (h2 : I ≠ L) (h3 : h₀.get? I = none) (h4 : I ≠ la) (h5 : I ≠ 30) : Book h₀ L h ((I, it) :: fixed) la tr := by
  obtain ⟨ps, refs, n, tups, N, g1, g2, g3, g4⟩ := hB
  refine ⟨ps, refs, n, tups, fun q hq => ?_, g1, g2, fun q hq => ?_, fun q hq => ?_⟩
  · rcases List.mem_cons.mp hq with rfl | hq
    · exact N _ (.head _)
    · rcases List.mem_cons.mp hq with rfl | hq
      · exact N _ (.tail _ (.head _))
      · rcases List.mem_cons.mp hq with rfl | hq
        · exact ⟨h1, h2, h3⟩
        · exact N _ (.tail _ (.tail _ hq))
  · rcases List.mem_cons.mp hq with rfl | hq
    · exact g3 _ (.head _)
    · rcases List.mem_cons.mp hq with rfl | hq
      · exact h4
      · exact g3 _ (.tail _ hq)
  · rcases List.mem_cons.mp hq with rfl | hq
    · exact h5
    · exact g4 _ hq
theorem Book.mem {h₀ h : Heap} {L la : Addr} {x : Addr × Obj} {fixed : List (Addr × Obj)} {tr : List Asked} (hB : Book h₀ L h fixed la tr) (hx : x ∈ fixed) : h.get? x.1 = some x.2 ∧ x.1 ≠ L ∧ h₀.get? x.1 = none := by
  obtain ⟨ps, refs, n, tups, N, _⟩ := hB
  exact N _ (.tail _ (.tail _ (List.mem_append_left _ hx)))
theorem Book.ne {h₀ h : Heap} {L la : Addr} {x : Addr × Obj} {fixed : List (Addr × Obj)} {tr : List Asked} (hB : Book h₀ L h fixed la tr) (hx : x ∈ fixed) : x.1 ≠ la ∧ x.1 ≠ 30 := by
  obtain ⟨ps, refs, n, tups, N, g1, g2, g3, g4⟩ := hB
  exact ⟨g3 _ (.tail _ (List.mem_append_left _ hx)), g4 _ (List.mem_append_left _ hx)⟩
/-- the ledger laid open, and shut again -/
theorem Book.lay {h₀ h : Heap} {L la : Addr} {fixed : List (Addr × Obj)} {tr : List Asked} (hB : Book h₀ L h fixed la tr) : ∃ rest, News h₀ L h rest ∧ ∀ h₁ L₁ h', News h₁ L₁ h' rest → Book h₁ L₁ h' fixed la tr := by
  obtain ⟨ps, refs, n, tups, N, r⟩ := hB
  exact ⟨_, N, fun h₁ L₁ h' N' => ⟨ps, refs, n, tups, N', r⟩⟩
theorem Book.xor {h₀ h : Heap} {L la : Addr} {fixed : List (Addr × Obj)} {tr : List Asked} (hB : Book h₀ L h fixed la tr) : ∃ ps news, News h₀ L h ((30, tabObj ps) :: news) ∧ TriplesOk ps.toList ∧ (∀ q ∈ news, q.1 ≠ 30) ∧
    ∀ h₁ L₁ h' ps', TriplesOk ps'.toList → News h₁ L₁ h' ((30, tabObj ps') :: news) → Book h₁ L₁ h' fixed la tr := by
  obtain ⟨ps, refs, n, tups, N, g1, g2, g3, g4⟩ := hB
  refine ⟨ps, (la, listOf refs.toArray n) :: (fixed ++ tups), fun q hq => ?_, g1, fun q hq => ?_, fun h₁ L₁ h' ps' t' N' => ⟨ps', refs, n, tups, fun q hq => ?_, t', g2, fun q hq => ?_, g4⟩⟩
  · rcases List.mem_cons.mp hq with rfl | hq
    · exact N _ (.tail _ (.head _))
    · rcases List.mem_cons.mp hq with rfl | hq
      · exact N _ (.head _)
      · exact N _ (.tail _ (.tail _ hq))
  · rcases List.mem_cons.mp hq with rfl | hq
    · exact fun e => g3 _ (.head _) e.symm
    · exact g4 _ hq
  · rcases List.mem_cons.mp hq with rfl | hq
    · exact N' _ (.tail _ (.head _))
    · rcases List.mem_cons.mp hq with rfl | hq
      · exact N' _ (.head _)
      · exact N' _ (.tail _ (.tail _ hq))
  · rcases List.mem_cons.mp hq with rfl | hq
    · exact g3 (30, tabObj ps) (.head _)
    · exact g3 _ (.tail _ hq)
theorem Book.pushIt {h₀ h : Heap} {L la : Addr} {m : PySem.Str → Option Value} {fixed : List (Addr × Obj)} {tr : List Asked} (hB : Book h₀ L h fixed la tr) (F : Fr h₀ L h m) (it : Obj) (hfr : it.isFreed = false := by rfl) : Book h₀ L (h.push it) ((h.objs.size, it) :: fixed) la tr := by
  have h1 : la < h.objs.size ∧ 30 < h.objs.size := by
    obtain ⟨ps, refs, n, tups, N, r⟩ := hB
    exact ⟨Heap.lt_size (N _ (.head _)).1, Heap.lt_size (N _ (.tail _ (.head _))).1⟩
  exact (hB.kept (fun b o e => Heap.get?_push_of_some _ e)).add (Heap.get?_push_size _ hfr) (Nat.ne_of_gt F.ns.lt) (next_is_new F) (Nat.ne_of_gt h1.1) (Nat.ne_of_gt h1.2)
/-- the iterator I moves on -/
theorem Book.but {h₀ h h₁ : Heap} {L la I : Addr} {x left step : Int} {fixed : List (Addr × Obj)} {tr : List Asked} (hB : Book h₀ L h ((I, ritO x left step) :: fixed) la tr) (hf : NoRit fixed)
    (hk : ∀ b o, b ≠ I → h.get? b = some o → h₁.get? b = some o) : Book h₀ L h₁ fixed la tr := by
  have hI := hB.mem (.head _)
  have hn := hB.ne (.head _)
  obtain ⟨ps, refs, n, tups, N, g1, g2, g3, g4⟩ := hB.drop
  have sub : ∀ q ∈ tups.filter (fun q => q.2.cls == .type "tuple"), q ∈ tups := fun q hq => (List.mem_filter.mp hq).1
  have off : ∀ q ∈ tups.filter (fun q => q.2.cls == .type "tuple"), q.1 ≠ I := fun q hq e => by
    have h1 := (N _ (.tail _ (.tail _ (List.mem_append_right _ (sub q hq))))).1
    rw [e, hI.1] at h1
    have h2 := congrArg Obj.cls (Option.some.inj h1)
    have h3 := (List.mem_filter.mp hq).2
    simp only [← h2] at h3
    exact absurd h3 (by decide)
  have offF : ∀ q ∈ fixed, q.1 ≠ I := fun q hq e => by
    have h1 := (N _ (.tail _ (.tail _ (List.mem_append_left _ hq)))).1
    rw [e, hI.1] at h1
    exact hf q hq _ _ _ (Option.some.inj h1).symm
  refine ⟨ps, refs, n, tups.filter (fun q => q.2.cls == .type "tuple"), fun q hq => ?_, g1, g2.tidy fun a c t1 t2 t3 t4 => by rfl, fun q hq => ?_, fun q hq => ?_⟩
  · rcases List.mem_cons.mp hq with rfl | hq
    · exact ⟨hk _ _ (fun e => hn.1 e.symm) (N _ (.head _)).1, (N _ (.head _)).2⟩
    · rcases List.mem_cons.mp hq with rfl | hq
      · exact ⟨hk _ _ (fun e => hn.2 e.symm) (N _ (.tail _ (.head _))).1, (N _ (.tail _ (.head _))).2⟩
      · rcases List.mem_append.mp hq with hq | hq
        · have x := N _ (.tail _ (.tail _ (List.mem_append_left _ hq)))
          exact ⟨hk _ _ (offF q hq) x.1, x.2⟩
        · have x := N _ (.tail _ (.tail _ (List.mem_append_right _ (sub q hq))))
          exact ⟨hk _ _ (off q hq) x.1, x.2⟩
  · rcases List.mem_cons.mp hq with rfl | hq
    · exact g3 _ (.head _)
    · rcases List.mem_append.mp hq with hq | hq
      · exact g3 _ (.tail _ (List.mem_append_left _ hq))
      · exact g3 _ (.tail _ (List.mem_append_right _ (sub q hq)))
  · rcases List.mem_append.mp hq with hq | hq
    · exact g4 _ (List.mem_append_left _ hq)
    · exact g4 _ (List.mem_append_right _ (sub q hq))

def RndPost (h₀ : Heap) (L I : Addr) (it : Obj) (fixed : List (Addr × Obj)) (la : Addr) (tr : List Asked) (Jm : (PySem.Str → Option Value) → Prop) (s₂ : Shared) (f : Flow) (s' : Shared) : Prop :=
  match f with
  | .next | .cont => ∃ h g tk m, s' = { s₂ with heap := h, gens := g, toks := tk } ∧ Fr h₀ L h m ∧ Jm m ∧ Book h₀ L h ((I, it) :: fixed) la tr ∧ AllBare g
  | _ => False

section
variable {prog : Program} {w : World} {A : Around} {s : Shared} {env : Env} {h₀ : Heap} {x : PySem.Str} {body : List Stmt} {Q : Flow → Shared → Prop} {m₀ : PySem.Str → Option Value} {fixed : List (Addr × Obj)} {la I : Addr}
theorem forG {a c : Int} (n : Nat) (asks : Nat → List Asked) (Jm : Nat → (PySem.Str → Option Value) → Prop) (hh : A.handled = none) (hx : env.kindOf x = some .local)
    (hp : (env.scope.kind == .class || (env.scope.kind == .module && env.locals != env.globals)) = false)
    (F : Fr h₀ env.locals s.heap m₀) (hB : Book h₀ env.locals s.heap ((I, ritO (a + ((0 : Nat) : Int) * c) ((n : Int) - ((0 : Nat) : Int)) c) :: fixed) la (asks 0)) (hf : NoRit fixed) (G : AllBare s.gens) (h0 : Jm 0 m₀)
    (turn : ∀ i m t h g tk, i < n → Jm i m → Fr h₀ env.locals h (fun y => if y = x then some (.int (a + (i : Int) * c) t) else m y) →
      Book h₀ env.locals h ((I, ritO (a + ((i + 1 : Nat) : Int) * c) ((n : Int) - ((i + 1 : Nat) : Int)) c) :: fixed) la (asks i) → AllBare g →
      wpAny (model prog w) A (execs body env) (RndPost h₀ env.locals I (ritO (a + ((i + 1 : Nat) : Int) * c) ((n : Int) - ((i + 1 : Nat) : Int)) c) fixed la (asks (i + 1)) (Jm (i + 1)) { s with heap := h, gens := g, toks := tk }) (fun _ _ => False) { s with heap := h, gens := g, toks := tk })
    (done : ∀ m h g tk, Jm n m → Fr h₀ env.locals h m → Book h₀ env.locals h fixed la (asks n) → AllBare g → Q .next { s with heap := h, gens := g, toks := tk }) :
    ForOk prog w A env x body Q (fun _ _ => False) (.ref I) s := by
  refine ⟨I, _, _, n, _, _, fun i s' => ∃ h g tk m, s' = { s with heap := h, gens := g, toks := tk } ∧ Fr h₀ env.locals h m ∧ Jm i m ∧ Book h₀ env.locals h ((I, ritO (a + (i : Int) * c) ((n : Int) - (i : Int)) c) :: fixed) la (asks i) ∧ AllBare g,
    rfl, Walks.range hh I a c n, ⟨_, _, _, _, rfl, F, h0, hB, G⟩, ?_, ?_, ?_⟩
  · rintro i s' ⟨h, g, tk, m, rfl, F', hm, hB', G'⟩
    exact (hB'.mem (.head _)).1
  · rintro i s' v h₁ tk₁ hi ⟨h, g, tk, m, rfl, F', hm, hB', G'⟩ ⟨t, rfl⟩ hst hk
    have hI := hB'.mem (.head _)
    have hn := hB'.ne (.head _)
    have hk' : ∀ b o, b ≠ I → h.get? b = some o → h₁.get? b = some o := fun b o hb e => hk b o (fun q => hb (List.mem_singleton.mp q)) e
    have F₁ : Fr h₀ env.locals h₁ m := ⟨F'.ns.at' fun o e => hk' _ o (fun q => hI.2.1 q.symm) e, fun b o e => hk' b o (fun q => by rw [q, hI.2.2] at e; cases e) (F'.keep b o e), F'.above⟩
    have B₁ : Book h₀ env.locals h₁ ((I, ritO (a + ((i + 1 : Nat) : Int) * c) ((n : Int) - ((i + 1 : Nat) : Int)) c) :: fixed) la (asks i) := (hB'.but hf hk').add hst hI.2.1 hI.2.2 hn.1 hn.2
    refine wpAny_storeName_local hx F₁.ns (fun h₂ hn₂ hs₂ => ?_) hp
    have F₂ := F₁.set hn₂ hs₂
    obtain ⟨rest, N, back⟩ := B₁.lay
    refine wpAny_mono (turn i m t h₂ g (tk₁ + 1) hi hm F₂ (back _ _ _ (N.set hs₂)) G') (fun f s₃ h₃ => ?_) fun _ _ e => e
    cases f with
    | next => exact h₃
    | cont => exact h₃
    | brk => exact h₃.elim
    | ret v => exact h₃.elim
  · rintro s' h₁ tk₁ ⟨h, g, tk, m, rfl, F', hm, hB', G'⟩ hk
    have hI := hB'.mem (.head _)
    have hk' : ∀ b o, b ≠ I → h.get? b = some o → h₁.get? b = some o := fun b o hb e => hk b o (fun q => hb (List.mem_singleton.mp q)) e
    have F₁ : Fr h₀ env.locals h₁ m := ⟨F'.ns.at' fun o e => hk' _ o (fun q => hI.2.1 q.symm) e, fun b o e => hk' b o (fun q => by rw [q, hI.2.2] at e; cases e) (F'.keep b o e), F'.above⟩
    exact done m h₁ g tk₁ hm F₁ (hB'.but hf hk') G'
end
end
local macro_rules | `(tactic| walk_at "no such key") => `(tactic| fail)
/- C7 -/
section
open PySem PySem.W PyProof.Rows
set_option maxRecDepth 100000
set_option maxHeartbeats 4000000
set_option linter.unusedVariables false
theorem quietC7 : True := by w_top off; exact trivial
theorem xorE_size (x z : Array UInt8) : (xorE x z).size = min x.size z.size := by
  unfold xorE
  rw [byteArr_size, zipInts_length]
theorem maskE_size (seed : Int) (c : Asked) : (maskE seed c).size = c.le.toNat := octE_size _ _
/-- the rounds: places a, a + c, a + 2 c, … -/
def rndsE (seed : Int) (pp : Array UInt8) (e : Int) (salt : Array UInt8) (a c : Int) (l r : Array UInt8) : Nat → Array UInt8 × Array UInt8
  | 0 => (l, r)
  | n + 1 => ((rndsE seed pp e salt a c l r n).2, xorE (rndsE seed pp e salt a c l r n).1 (maskE seed (askE (a + (n : Int) * c) pp e salt (rndsE seed pp e salt a c l r n).2)))
def asksE (seed : Int) (pp : Array UInt8) (e : Int) (salt : Array UInt8) (a c : Int) (l r : Array UInt8) : Nat → List Asked
  | 0 => []
  | n + 1 => asksE seed pp e salt a c l r n ++ [askE (a + (n : Int) * c) pp e salt (rndsE seed pp e salt a c l r n).2]
theorem asksE_length (seed : Int) (pp : Array UInt8) (e : Int) (salt : Array UInt8) (a c : Int) (l r : Array UInt8) : ∀ n, (asksE seed pp e salt a c l r n).length = n
  | 0 => rfl
  | n + 1 => by rw [asksE, List.length_append, asksE_length]; rfl
theorem rndsE_size (seed : Int) (pp : Array UInt8) (e : Int) (salt : Array UInt8) (a c : Int) {l r : Array UInt8} {k : Nat} (hl : l.size = k) (hr : r.size = k) : ∀ n, (rndsE seed pp e salt a c l r n).1.size = k ∧ (rndsE seed pp e salt a c l r n).2.size = k
  | 0 => ⟨hl, hr⟩
  | n + 1 => by
    have h := rndsE_size seed pp e salt a c hl hr n
    refine ⟨h.2, ?_⟩
    show (xorE _ _).size = k
    rw [xorE_size, maskE_size, h.1]
    show min k (((rndsE seed pp e salt a c l r n).2.size : Nat) : Int).toNat = k
    rw [h.2, Int.toNat_natCast, Nat.min_self]
abbrev halfE (ms : Array UInt8) : Nat := (((ms.size : Nat) : Int).fdiv 2).toNat
/-- encrypt (a = 0, c = 1) and decrypt (a = 3, c = -1) -/
def feisE (seed : Int) (pp : Array UInt8) (e : Int) (salt : Array UInt8) (a c : Int) (ms : Array UInt8) : Array UInt8 :=
  (rndsE seed pp e salt a c (takeE ms (halfE ms)) (dropE ms (halfE ms)) 4).2 ++ (rndsE seed pp e salt a c (takeE ms (halfE ms)) (dropE ms (halfE ms)) 4).1
def traceE (seed : Int) (pp : Array UInt8) (e : Int) (salt : Array UInt8) (a c : Int) (ms : Array UInt8) : List Asked :=
  asksE seed pp e salt a c (takeE ms (halfE ms)) (dropE ms (halfE ms)) 4
/-- a map of the locals within the rounds -/
abbrev lrMap (u m₀ : PySem.Str → Option Value) (l r : Value) : PySem.Str → Option Value := fun y =>
  if y = PySem.Str.ofString "l" then some l else if y = PySem.Str.ofString "r" then some r else if y = PySem.Str.ofString "f" then u y else if y = PySem.Str.ofString "i" then u y else m₀ y
theorem lr_start {M : PySem.Str → Option Value} {l r : Value} (hl : M (PySem.Str.ofString "l") = some l) (hr : M (PySem.Str.ofString "r") = some r) : M = lrMap M M l r := by
  funext y
  by_cases h1 : y = PySem.Str.ofString "l"
  · rw [lrMap, if_pos h1, h1, hl]
  · rw [lrMap, if_neg h1]
    by_cases h2 : y = PySem.Str.ofString "r"
    · rw [if_pos h2, h2, hr]
    · rw [if_neg h2]
      split
      · rfl
      · split <;> rfl
theorem lr_next {u M : PySem.Str → Option Value} {l r l' r' : Value} {vf vi : Option Value} : (fun y => if y = PySem.Str.ofString "l" then some l' else if y = PySem.Str.ofString "r" then some r' else if y = PySem.Str.ofString "f" then vf else if y = PySem.Str.ofString "i" then vi else lrMap u M l r y) = lrMap (fun y => if y = PySem.Str.ofString "f" then vf else vi) M l' r' := by
  funext y
  dsimp only [lrMap]
  by_cases h1 : y = PySem.Str.ofString "l"
  · simp only [if_pos h1]
  simp only [if_neg h1]
  by_cases h2 : y = PySem.Str.ofString "r"
  · simp only [if_pos h2]
  simp only [if_neg h2]
  by_cases h3 : y = PySem.Str.ofString "f"
  · simp only [if_pos h3]
  simp only [if_neg h3]
  by_cases h4 : y = PySem.Str.ofString "i"
  · simp only [if_pos h4]
  simp only [if_neg h4]
def Halt (P : Prop) : Prop := P
theorem halt {P : Prop} (h : Halt P) : P := h
section
variable {w : World} {dp un : Nat} {gd : Option (List Code)} {cn : PySem.Str} {cs : Scope} {a : Addr} {ccd : Value} {cl : List (PySem.Str × Addr)} {outer : List Env} {A₀ : Around} {base h₀ : Heap} {L : Addr} {m : PySem.Str → Option Value} {s : Shared} {Q E : Value → Shared → Prop}
  {p : Program} {loose : List PySem.Str} {mean : ExcName → Option Value} {mg mb : PySem.Str → Option Value} {fixed₀ fixed : List (Addr × Obj)} {fk la : Addr} {seed : Int} {tr : List Asked}
local macro_rules | `(tactic| ktr_rel) => `(tactic| ((try simp only [Array.size_append, takeE_size, dropE_size, octE_size, bigE_size, byteArr_size, List.size_toArray, List.length_cons, List.length_nil]); first | omega | l_fact))
local macro_rules | `(tactic| walk_at "binaryOp Add bytes bytes") => `(tactic| (k_here; k_dflt (refine add_bb (by ktr_rel) ?_); intro _ _))
local macro_rules | `(tactic| walk_at "call builtin:len") => `(tactic| (k_here; (with_reducible show wpAny _ _ (call (Value.builtin "len") [Value.bytes _ _]) _ _ _); (refine len_b (by ktr_rel) ?_)))
local macro_rules | `(tactic| walk_at "subscriptTail") => `(tactic| (k_here; (with_reducible show wpAny _ _ (subscriptTail _ (Expr.Slice _ _ none _) (Value.bytes _ _) (Value.ref _)) _ _ _); (with_reducible rename Fr _ _ _ _ => F'); (with_reducible rename News _ _ _ _ => N'); (first | refine slice_to (s := ⟨_, _, _, _, _⟩) F' N' (by first | omega | l_fact) (by ktr_rel) ?_ | refine slice_from (s := ⟨_, _, _, _, _⟩) F' N' (by first | omega | l_fact) (by ktr_rel) ?_); intro _ _ _ _ _))
local macro_rules | `(tactic| walk_at "call ref") => `(tactic| (k_here; (with_reducible show wpAny _ _ (call (Value.ref 49) [Value.int _ _, Value.bool _]) _ _ _); k_dflt (refine' salt_con ?B ?F ?X ?N ?T ?kk ?h0 ?h1 ?hd ?hu ?_; (case B => k_asm); (case F => k_asm); (case X => k_asm); (case N => k_asm); (case T => k_asm); (case kk => first | exact rfl | assumption); (case h0 => first | omega | l_fact); (case h1 => first | omega | l_fact); (case hd => ktr_room); (case hu => ktr_units)); intro t9 h9 tk9 F9 N9; (try dsimp only); (try k_fold)))
local macro_rules | `(tactic| walk_at "call ref") => `(tactic| (k_here; (with_reducible show wpAny _ _ (call (Value.ref 42) _) _ _ _); refine halt ?_))
local macro_rules | `(tactic| walk_at "call ref") => `(tactic| (k_here; (with_reducible show wpAny _ _ (call (Value.ref 35) _) _ _ _); refine halt ?_))
local macro_rules | `(tactic| walk_at "exec For Name Call cons nil") => `(tactic| (k_here; (with_unfolding_all refine my_for ?_)))

theorem enc_con {ms pp : Array UInt8} {e id : Int} {ext : Bool} {tm tp te ti : Tok} (KC : KdfCon w p loose mean mg mb fixed₀ fk la seed) (hfn : FnIn fk fixed₀) (hrit : NoRit fixed) (B : Below A₀ base outer h₀) (C : CodeHd base 34 30) (F : Fr h₀ L s.heap m) (X : (hd.heap_39 w.params).In h₀) (T : Top p loose mean mg mb h₀) (hk : cs.kind = .function)
    (hsub : ∀ q ∈ fixed₀, q ∈ fixed) (hB : Book h₀ L s.heap fixed la tr) (G : AllBare s.gens) (hlen : tr.length ≤ 90) (he0 : 0 ≤ e) (he1 : e < 16) (hi0 : 0 ≤ id) (hi1 : id < 32768) (hpp : pp.size ≤ 39) (hms : ms.size ≤ 30) (hev : ((ms.size : Nat) : Int).fmod 2 = 0) (hd : dp + 10 < recursionLimit) (hu : un + 80 < cLine)
    (hret : ∀ (t : Tok) (h' : Heap) (g' : Array GenState) (tk' : Nat), Fr h₀ L h' m → Book h₀ L h' fixed la (tr ++ traceE seed pp e (saltE id ext) 0 1 ms) → AllBare g' → Q (.bytes (feisE seed pp e (saltE id ext) 0 1 ms) t) { s with heap := h', gens := g', toks := tk' }) :
    wpAny (model PySem.Challenge.rw_jb0037_01.row.prog w) (ktrTop dp un gd cn cs L a ccd cl outer) (call (.ref 56) [.bytes ms tm, .bytes pp tp, .int e te, .int id ti, .bool ext, .ref fk]) Q E s := by
  refine wpAny_noRaise ?_
  have hhf : 2 * halfE ms = ms.size := by
    have h1 : ((ms.size : Nat) : Int).fmod 2 = (ms.size : Int) % 2 := Int.fmod_eq_emod_of_nonneg _ (by decide)
    have h2 : ((ms.size : Nat) : Int).fdiv 2 = (ms.size : Int) / 2 := Int.fdiv_eq_ediv_of_nonneg _ (by decide)
    unfold halfE
    omega
  have hsz : ∀ n, (rndsE seed pp e (saltE id ext) 0 1 (takeE ms (halfE ms)) (dropE ms (halfE ms)) n).1.size = halfE ms ∧ (rndsE seed pp e (saltE id ext) 0 1 (takeE ms (halfE ms)) (dropE ms (halfE ms)) n).2.size = halfE ms :=
    rndsE_size _ _ _ _ _ _ (by rw [takeE_size]; omega) (by rw [dropE_size]; omega)
  revert X; k_fill; intro X
  obtain ⟨rest, N, back⟩ := hB.lay
  refine wpAny_call ?_
  k_dflt cell_enter
  k_steps
  rename Fr _ _ _ _ => F9
  rename News _ _ _ _ => N9
  refine wpAny_pyIter_range (by assumption) (by decide) ?_
  rw [show Builtin.Range.rangeSize 0 4 1 = 4 from by decide]
  have hB9 := back _ _ _ N9
  have hlt : ∀ q, q ∈ fixed → True := fun _ _ => trivial
  with_unfolding_all refine forG (a := 0) (c := 1) (la := la) (fixed := fixed) 4 (fun i => tr ++ asksE seed pp e (saltE id ext) 0 1 (takeE ms (halfE ms)) (dropE ms (halfE ms)) i) (fun i m => ∃ u tl tr, m = lrMap u _ (.bytes (rndsE seed pp e (saltE id ext) 0 1 (takeE ms (halfE ms)) (dropE ms (halfE ms)) i).1 tl) (.bytes (rndsE seed pp e (saltE id ext) 0 1 (takeE ms (halfE ms)) (dropE ms (halfE ms)) i).2 tr)) rfl rfl rfl (F9.push _) ?_ hrit G ⟨_, _, _, lr_start rfl rfl⟩ ?_ ?_
  · have hB8 := hB9.pushIt F9 (ritO 0 4 1)
    rw [← List.append_nil tr] at hB8
    exact hB8
  · rintro i m5 t5 h5 g5 tk5 hi5 ⟨u5, tl5, tr5, rfl⟩ F5 B5 G5
    clear N9 hB9 F9
    obtain ⟨rest5, N5, back5⟩ := B5.lay
    have hi : i < 4 := hi5
    k_steps
    unfold Halt
    rename News _ _ _ _ => N6
    refine rnd_con KC hfn (by assumption) C (by assumption) (by assumption) (by assumption) rfl (fun q hq => .tail _ (hsub q hq)) (back5 _ _ _ N6) ?_ (by omega) (by omega) he0 he1 (by omega) (Nat.le_trans (saltE_size _ _) (by decide)) (by rw [(hsz i).2]; omega) (by ktr_room) (by ktr_units) fun t6 h6 tk6 F6 B6 => ?_
    · rw [List.length_append, asksE_length]; omega
    clear N6 back5 B5
    obtain ⟨rest6, N6, back6⟩ := B6.lay
    dsimp only
    k_steps
    unfold Halt
    rename News _ _ _ _ => N7
    obtain ⟨psx, newsx, Nx, htx, hnex, backx⟩ := (back6 _ _ _ N7).xor
    refine xor_con (by assumption) C (by assumption) (by assumption) Nx (by assumption) rfl htx hnex G5 (by rw [(hsz i).1]; omega) (by ktr_room) (by ktr_units) fun t8 h8 g8 tk8 ps8 ht8 F8 N8 G8 => ?_
    have B8 := backx _ _ _ _ ht8 N8
    clear N8 N7 Nx backx back6 B6
    obtain ⟨rest8, N8, back8⟩ := B8.lay
    dsimp only
    k_steps
    rename News _ _ _ _ => N9
    rename Fr _ _ _ _ => F9
    have B9 := back8 _ _ _ (fun q hq => N9 q (.tail _ hq))
    rw [List.append_assoc] at B9
    exact ⟨_, _, _, _, rfl, F9, ⟨_, _, _, lr_next⟩, B9, G8⟩
  · rintro m5 h5 g5 tk5 ⟨u5, tl5, tr5, rfl⟩ F5 B5 G5
    clear N9 hB9 F9
    obtain ⟨rest5, N5, back5⟩ := B5.lay
    have z4 := hsz 4
    dsimp only
    k_steps
    exact hret _ _ _ _ (by assumption) (back5 _ _ _ (by assumption)) G5
end
end
local macro_rules | `(tactic| walk_at "no such key") => `(tactic| fail)
local macro_rules | `(tactic| walk_at "no such key") => `(tactic| fail)
local macro_rules | `(tactic| walk_at "no such key") => `(tactic| fail)
local macro_rules | `(tactic| walk_at "no such key") => `(tactic| fail)
local macro_rules | `(tactic| walk_at "no such key") => `(tactic| fail)
local macro_rules | `(tactic| walk_at "no such key") => `(tactic| fail)
local macro_rules | `(tactic| walk_at "no such key") => `(tactic| fail)
local macro_rules | `(tactic| walk_at "no such key") => `(tactic| fail)
/- C8 -/
section
open PySem PySem.W PyProof.Rows
set_option maxRecDepth 100000
set_option maxHeartbeats 4000000
set_option linter.unusedVariables false
theorem quietC8 : True := by w_top off; exact trivial
section
variable {w : World} {dp un : Nat} {gd : Option (List Code)} {cn : PySem.Str} {cs : Scope} {a : Addr} {ccd : Value} {cl : List (PySem.Str × Addr)} {outer : List Env} {A₀ : Around} {base h₀ : Heap} {L : Addr} {m : PySem.Str → Option Value} {s : Shared} {Q E : Value → Shared → Prop}
  {p : Program} {loose : List PySem.Str} {mean : ExcName → Option Value} {mg mb : PySem.Str → Option Value} {fixed₀ fixed : List (Addr × Obj)} {fk la : Addr} {seed : Int} {tr : List Asked}
local macro_rules | `(tactic| ktr_rel) => `(tactic| ((try simp only [Array.size_append, takeE_size, dropE_size, octE_size, bigE_size, byteArr_size, List.size_toArray, List.length_cons, List.length_nil]); first | omega | l_fact))
local macro_rules | `(tactic| walk_at "binaryOp Add bytes bytes") => `(tactic| (k_here; k_dflt (refine add_bb (by ktr_rel) ?_); intro _ _))
local macro_rules | `(tactic| walk_at "call builtin:len") => `(tactic| (k_here; (with_reducible show wpAny _ _ (call (Value.builtin "len") [Value.bytes _ _]) _ _ _); (refine len_b (by ktr_rel) ?_)))
local macro_rules | `(tactic| walk_at "subscriptTail") => `(tactic| (k_here; (with_reducible show wpAny _ _ (subscriptTail _ (Expr.Slice _ _ none _) (Value.bytes _ _) (Value.ref _)) _ _ _); (with_reducible rename Fr _ _ _ _ => F'); (with_reducible rename News _ _ _ _ => N'); (first | refine slice_to (s := ⟨_, _, _, _, _⟩) F' N' (by first | omega | l_fact) (by ktr_rel) ?_ | refine slice_from (s := ⟨_, _, _, _, _⟩) F' N' (by first | omega | l_fact) (by ktr_rel) ?_); intro _ _ _ _ _))
local macro_rules | `(tactic| walk_at "call ref") => `(tactic| (k_here; (with_reducible show wpAny _ _ (call (Value.ref 49) [Value.int _ _, Value.bool _]) _ _ _); k_dflt (refine' salt_con ?B ?F ?X ?N ?T ?kk ?h0 ?h1 ?hd ?hu ?_; (case B => k_asm); (case F => k_asm); (case X => k_asm); (case N => k_asm); (case T => k_asm); (case kk => first | exact rfl | assumption); (case h0 => first | omega | l_fact); (case h1 => first | omega | l_fact); (case hd => ktr_room); (case hu => ktr_units)); intro t9 h9 tk9 F9 N9; (try dsimp only); (try k_fold)))
local macro_rules | `(tactic| walk_at "call ref") => `(tactic| (k_here; (with_reducible show wpAny _ _ (call (Value.ref 42) _) _ _ _); refine halt ?_))
local macro_rules | `(tactic| walk_at "call ref") => `(tactic| (k_here; (with_reducible show wpAny _ _ (call (Value.ref 35) _) _ _ _); refine halt ?_))
local macro_rules | `(tactic| walk_at "exec For Name Call cons nil") => `(tactic| (k_here; (with_unfolding_all refine my_for ?_)))

local macro_rules | `(tactic| walk_at "call type:reversed") => `(tactic| (k_here; refine halt ?_))

theorem dec_con {ms pp : Array UInt8} {e id : Int} {ext : Bool} {tm tp te ti : Tok} (KC : KdfCon w p loose mean mg mb fixed₀ fk la seed) (hfn : FnIn fk fixed₀) (hrit : NoRit fixed) (B : Below A₀ base outer h₀) (C : CodeHd base 34 30) (F : Fr h₀ L s.heap m) (X : (hd.heap_39 w.params).In h₀) (T : Top p loose mean mg mb h₀) (hk : cs.kind = .function)
    (hsub : ∀ q ∈ fixed₀, q ∈ fixed) (hB : Book h₀ L s.heap fixed la tr) (G : AllBare s.gens) (hlen : tr.length ≤ 90) (he0 : 0 ≤ e) (he1 : e < 16) (hi0 : 0 ≤ id) (hi1 : id < 32768) (hpp : pp.size ≤ 39) (hms : ms.size ≤ 30) (hev : ((ms.size : Nat) : Int).fmod 2 = 0) (hd : dp + 10 < recursionLimit) (hu : un + 80 < cLine)
    (hret : ∀ (t : Tok) (h' : Heap) (g' : Array GenState) (tk' : Nat), Fr h₀ L h' m → Book h₀ L h' fixed la (tr ++ traceE seed pp e (saltE id ext) 3 (-1) ms) → AllBare g' → Q (.bytes (feisE seed pp e (saltE id ext) 3 (-1) ms) t) { s with heap := h', gens := g', toks := tk' }) :
    wpAny (model PySem.Challenge.rw_jb0037_01.row.prog w) (ktrTop dp un gd cn cs L a ccd cl outer) (call (.ref 63) [.bytes ms tm, .bytes pp tp, .int e te, .int id ti, .bool ext, .ref fk]) Q E s := by
  refine wpAny_noRaise ?_
  have hhf : 2 * halfE ms = ms.size := by
    have h1 : ((ms.size : Nat) : Int).fmod 2 = (ms.size : Int) % 2 := Int.fmod_eq_emod_of_nonneg _ (by decide)
    have h2 : ((ms.size : Nat) : Int).fdiv 2 = (ms.size : Int) / 2 := Int.fdiv_eq_ediv_of_nonneg _ (by decide)
    unfold halfE
    omega
  have hsz : ∀ n, (rndsE seed pp e (saltE id ext) 3 (-1) (takeE ms (halfE ms)) (dropE ms (halfE ms)) n).1.size = halfE ms ∧ (rndsE seed pp e (saltE id ext) 3 (-1) (takeE ms (halfE ms)) (dropE ms (halfE ms)) n).2.size = halfE ms :=
    rndsE_size _ _ _ _ _ _ (by rw [takeE_size]; omega) (by rw [dropE_size]; omega)
  revert X; k_fill; intro X
  obtain ⟨rest, N, back⟩ := hB.lay
  refine wpAny_call ?_
  k_dflt cell_enter
  k_steps
  rename Fr _ _ _ _ => F9
  rename News _ _ _ _ => N9
  unfold Halt
  refine call_reversed_range (by assumption) ?_
  refine PySem.wpAny_pyIter_rangeiter (Heap.get?_push_size _ rfl) ?_
  have hB9 := back _ _ _ N9
  have hlt : ∀ q, q ∈ fixed → True := fun _ _ => trivial
  with_unfolding_all refine forG (a := 3) (c := -1) (la := la) (fixed := fixed) 4 (fun i => tr ++ asksE seed pp e (saltE id ext) 3 (-1) (takeE ms (halfE ms)) (dropE ms (halfE ms)) i) (fun i m => ∃ u tl tr, m = lrMap u _ (.bytes (rndsE seed pp e (saltE id ext) 3 (-1) (takeE ms (halfE ms)) (dropE ms (halfE ms)) i).1 tl) (.bytes (rndsE seed pp e (saltE id ext) 3 (-1) (takeE ms (halfE ms)) (dropE ms (halfE ms)) i).2 tr)) rfl rfl rfl (F9.push _) ?_ hrit G ⟨_, _, _, lr_start rfl rfl⟩ ?_ ?_
  · have hB8 := hB9.pushIt F9 (ritO 3 4 (-1))
    rw [← List.append_nil tr] at hB8
    exact hB8
  · rintro i m5 t5 h5 g5 tk5 hi5 ⟨u5, tl5, tr5, rfl⟩ F5 B5 G5
    clear N9 hB9 F9
    obtain ⟨rest5, N5, back5⟩ := B5.lay
    have hi : i < 4 := hi5
    k_steps
    unfold Halt
    rename News _ _ _ _ => N6
    refine rnd_con KC hfn (by assumption) C (by assumption) (by assumption) (by assumption) rfl (fun q hq => .tail _ (hsub q hq)) (back5 _ _ _ N6) ?_ (by omega) (by omega) he0 he1 (by omega) (Nat.le_trans (saltE_size _ _) (by decide)) (by rw [(hsz i).2]; omega) (by ktr_room) (by ktr_units) fun t6 h6 tk6 F6 B6 => ?_
    · rw [List.length_append, asksE_length]; omega
    clear N6 back5 B5
    obtain ⟨rest6, N6, back6⟩ := B6.lay
    dsimp only
    k_steps
    unfold Halt
    rename News _ _ _ _ => N7
    obtain ⟨psx, newsx, Nx, htx, hnex, backx⟩ := (back6 _ _ _ N7).xor
    refine xor_con (by assumption) C (by assumption) (by assumption) Nx (by assumption) rfl htx hnex G5 (by rw [(hsz i).1]; omega) (by ktr_room) (by ktr_units) fun t8 h8 g8 tk8 ps8 ht8 F8 N8 G8 => ?_
    have B8 := backx _ _ _ _ ht8 N8
    clear N8 N7 Nx backx back6 B6
    obtain ⟨rest8, N8, back8⟩ := B8.lay
    dsimp only
    k_steps
    rename News _ _ _ _ => N9
    rename Fr _ _ _ _ => F9
    have B9 := back8 _ _ _ (fun q hq => N9 q (.tail _ hq))
    rw [List.append_assoc] at B9
    exact ⟨_, _, _, _, rfl, F9, ⟨_, _, _, lr_next⟩, B9, G8⟩
  · rintro m5 h5 g5 tk5 ⟨u5, tl5, tr5, rfl⟩ F5 B5 G5
    clear N9 hB9 F9
    obtain ⟨rest5, N5, back5⟩ := B5.lay
    have z4 := hsz 4
    dsimp only
    k_steps
    exact hret _ _ _ _ (by assumption) (back5 _ _ _ (by assumption)) G5
end
end
local macro_rules | `(tactic| walk_at "no such key") => `(tactic| fail)
local macro_rules | `(tactic| walk_at "no such key") => `(tactic| fail)
local macro_rules | `(tactic| walk_at "no such key") => `(tactic| fail)
local macro_rules | `(tactic| walk_at "no such key") => `(tactic| fail)
local macro_rules | `(tactic| walk_at "no such key") => `(tactic| fail)
local macro_rules | `(tactic| walk_at "no such key") => `(tactic| fail)
local macro_rules | `(tactic| walk_at "no such key") => `(tactic| fail)
local macro_rules | `(tactic| walk_at "no such key") => `(tactic| fail)
local macro_rules | `(tactic| walk_at "no such key") => `(tactic| fail)
/- C9 -/
section
open PySem PySem.W PyProof.Rows
set_option maxRecDepth 100000
set_option maxHeartbeats 4000000
set_option linter.unusedVariables false
theorem quietC9 : True := by w_top off; exact trivial
section
variable {w : World} {dp un : Nat} {gd : Option (List Code)} {cn : PySem.Str} {cs : Scope} {a : Addr} {ccd : Value} {cl : List (PySem.Str × Addr)} {outer : List Env} {A₀ : Around} {base h₀ : Heap} {L : Addr} {m : PySem.Str → Option Value} {s : Shared} {Q E : Value → Shared → Prop}
  {p : Program} {loose : List PySem.Str} {mean : ExcName → Option Value} {mg mb : PySem.Str → Option Value} {fixed₀ fixed : List (Addr × Obj)} {fk la : Addr} {seed : Int} {tr : List Asked}
local macro_rules | `(tactic| ktr_rel) => `(tactic| ((try simp only [Array.size_append, takeE_size, dropE_size, octE_size, bigE_size, byteArr_size, List.size_toArray, List.length_cons, List.length_nil]); first | omega | l_fact))
local macro_rules | `(tactic| walk_at "binaryOp Add bytes bytes") => `(tactic| (k_here; k_dflt (refine add_bb (by ktr_rel) ?_); intro _ _))
local macro_rules | `(tactic| walk_at "call builtin:len") => `(tactic| (k_here; (with_reducible show wpAny _ _ (call (Value.builtin "len") [Value.bytes _ _]) _ _ _); (refine len_b (by ktr_rel) ?_)))
local macro_rules | `(tactic| walk_at "subscriptTail") => `(tactic| (k_here; (with_reducible show wpAny _ _ (subscriptTail _ (Expr.Slice _ _ none _) (Value.bytes _ _) (Value.ref _)) _ _ _); (with_reducible rename Fr _ _ _ _ => F'); (with_reducible rename News _ _ _ _ => N'); (first | refine slice_to (s := ⟨_, _, _, _, _⟩) F' N' (by first | omega | l_fact) (by ktr_rel) ?_ | refine slice_from (s := ⟨_, _, _, _, _⟩) F' N' (by first | omega | l_fact) (by ktr_rel) ?_); intro _ _ _ _ _))
local macro_rules | `(tactic| walk_at "call ref") => `(tactic| (k_here; (with_reducible show wpAny _ _ (call (Value.ref 56) _) _ _ _); refine halt ?_))
local macro_rules | `(tactic| walk_at "call ref") => `(tactic| (k_here; (with_reducible show wpAny _ _ (call (Value.ref 63) _) _ _ _); refine halt ?_))

theorem seal_even {ms pp : Array UInt8} {e id : Int} {ext : Bool} {tm tp te ti : Tok} (KC : KdfCon w p loose mean mg mb fixed₀ fk la seed) (hfn : FnIn fk fixed₀) (hrit : NoRit fixed) (B : Below A₀ base outer h₀) (C : CodeHd base 34 30) (F : Fr h₀ L s.heap m) (X : (hd.heap_39 w.params).In h₀) (T : Top p loose mean mg mb h₀) (hk : cs.kind = .function)
    (hsub : ∀ q ∈ fixed₀, q ∈ fixed) (hB : Book h₀ L s.heap fixed la tr) (G : AllBare s.gens) (hlen : tr.length ≤ 90) (he0 : 0 ≤ e) (he1 : e < 16) (hi0 : 0 ≤ id) (hi1 : id < 32768) (hpp : pp.size ≤ 39) (hms : ms.size ≤ 30) (hev : ((ms.size : Nat) : Int).fmod 2 = 0) (hd : dp + 12 < recursionLimit) (hu : un + 96 < cLine)
    (hret : ∀ (t : Tok) (h' : Heap) (g' : Array GenState) (tk' : Nat), Fr h₀ L h' m → Book h₀ L h' fixed la (tr ++ traceE seed pp e (saltE id ext) 0 1 ms) → AllBare g' → Q (.bytes (feisE seed pp e (saltE id ext) 0 1 ms) t) { s with heap := h', gens := g', toks := tk' }) :
    wpAny (model PySem.Challenge.rw_jb0037_01.row.prog w) (ktrTop dp un gd cn cs L a ccd cl outer) (call (.ref 84) [.bytes ms tm, .bytes pp tp, .int e te, .int id ti, .bool ext, .ref fk]) Q E s := by
  revert X; k_fill; intro X
  obtain ⟨rest, N, back⟩ := hB.lay
  refine wpAny_call ?_
  k_dflt cell_enter
  k_steps
  unfold Halt
  rename News _ _ _ _ => N9
  refine enc_con KC hfn hrit (by assumption) C (by assumption) (by assumption) (by assumption) rfl hsub (back _ _ _ N9) G hlen he0 he1 hi0 hi1 hpp hms hev (by ktr_room) (by ktr_units) fun t8 h8 g8 tk8 F8 B8 G8 => ?_
  clear N9 back
  obtain ⟨rest8, N8, back8⟩ := B8.lay
  dsimp only
  k_steps
  exact hret _ _ _ _ (by assumption) (back8 _ _ _ (by assumption)) G8

theorem open_even {ms pp : Array UInt8} {e id : Int} {ext : Bool} {tm tp te ti : Tok} (KC : KdfCon w p loose mean mg mb fixed₀ fk la seed) (hfn : FnIn fk fixed₀) (hrit : NoRit fixed) (B : Below A₀ base outer h₀) (C : CodeHd base 34 30) (F : Fr h₀ L s.heap m) (X : (hd.heap_39 w.params).In h₀) (T : Top p loose mean mg mb h₀) (hk : cs.kind = .function)
    (hsub : ∀ q ∈ fixed₀, q ∈ fixed) (hB : Book h₀ L s.heap fixed la tr) (G : AllBare s.gens) (hlen : tr.length ≤ 90) (he0 : 0 ≤ e) (he1 : e < 16) (hi0 : 0 ≤ id) (hi1 : id < 32768) (hpp : pp.size ≤ 39) (hms : ms.size ≤ 30) (hev : ((ms.size : Nat) : Int).fmod 2 = 0) (hd : dp + 12 < recursionLimit) (hu : un + 96 < cLine)
    (hret : ∀ (t : Tok) (h' : Heap) (g' : Array GenState) (tk' : Nat), Fr h₀ L h' m → Book h₀ L h' fixed la (tr ++ traceE seed pp e (saltE id ext) 3 (-1) ms) → AllBare g' → Q (.bytes (feisE seed pp e (saltE id ext) 3 (-1) ms) t) { s with heap := h', gens := g', toks := tk' }) :
    wpAny (model PySem.Challenge.rw_jb0037_01.row.prog w) (ktrTop dp un gd cn cs L a ccd cl outer) (call (.ref 91) [.bytes ms tm, .bytes pp tp, .int e te, .int id ti, .bool ext, .ref fk]) Q E s := by
  revert X; k_fill; intro X
  obtain ⟨rest, N, back⟩ := hB.lay
  refine wpAny_call ?_
  k_dflt cell_enter
  k_steps
  unfold Halt
  rename News _ _ _ _ => N9
  refine dec_con KC hfn hrit (by assumption) C (by assumption) (by assumption) (by assumption) rfl hsub (back _ _ _ N9) G hlen he0 he1 hi0 hi1 hpp hms hev (by ktr_room) (by ktr_units) fun t8 h8 g8 tk8 F8 B8 G8 => ?_
  clear N9 back
  obtain ⟨rest8, N8, back8⟩ := B8.lay
  dsimp only
  k_steps
  exact hret _ _ _ _ (by assumption) (back8 _ _ _ (by assumption)) G8
end
end
local macro_rules | `(tactic| walk_at "no such key") => `(tactic| fail)
local macro_rules | `(tactic| walk_at "no such key") => `(tactic| fail)
local macro_rules | `(tactic| walk_at "no such key") => `(tactic| fail)
local macro_rules | `(tactic| walk_at "no such key") => `(tactic| fail)
local macro_rules | `(tactic| walk_at "no such key") => `(tactic| fail)
local macro_rules | `(tactic| walk_at "no such key") => `(tactic| fail)
/- L9 -/
section
open PySem PySem.W PyProof.Rows PySem.Calls
set_option maxRecDepth 100000
set_option maxHeartbeats 4000000
set_option linter.unusedVariables false
theorem quietL9 : True := by w_top off; exact trivial
section
variable {prog : Program} {w : World} {A A₀ : Around} {s : Shared} {K : Frag} {L : Addr} {h₀ base : Heap} {m mg mb : PySem.Str → Option Value} {news : List (Addr × Obj)} {p : Program} {loose : List PySem.Str} {mean : ExcName → Option Value}
  {env : Env} {R : Result → Shared → Prop} {name qual : PySem.Str} {params : Arguments} {body : List Stmt} {scope : Scope} {dV kV doc pm cdv ct oc : Value} {an od : Option Addr} {osl : Array (Option Value)} {f : Addr} {args : Args} {binds : List (PySem.Str × Value)}
/-- a def that catches, called by a frame that may have cells, the lowest one -/
theorem catching (B : Below A₀ base [] h₀) (F : Fr h₀ L s.heap m) (X₀ : K.In h₀) (N : News h₀ L s.heap news) (T : Top p loose mean mg mb h₀) (hA : A.frames = some [env]) (hf : env.frame = some L) (hke : env.scope.kind = .function)
    (ho : K.lookup f = some ⟨oc, od, .func (fnOf name qual params body scope dV kV doc pm an cdv ct), osl⟩) (hcd : codeIn K cdv qual = true) (hroom : A.depth < recursionLimit)
    (hbind : BindsTo s (fnOf name qual params body scope dV kV doc pm an cdv ct) args binds) (hloc : ∀ y ∈ binds, scope.names.lookup y.1 = some .local)
    (h : ∀ g L' h₁, Fr h₀ L g m → Fr g L' h₁ (fun y => binds.reverse.lookup y) → News g L' h₁ news → Below A base [env] g → K.In g → Top p loose mean mg mb g → KtsDicts ([env].filterMap (·.frame)) g →
      wpAny (model prog w) (A.deeper (envOf qual scope L' f cdv)) (execs body (envOf qual scope L' f cdv))
        (fun fl s' => LeaveS0 ([env].filterMap (·.frame)) h₀ L m g R (match fl with | .ret v => v | _ => .none) s')
        (fun e s' => wpAny (model prog w) (A.deeper (envOf qual scope L' f cdv)) (leaving (envOf qual scope L' f cdv) e) (fun _ s'' => R (.error e) s'') (fun e' s'' => R (.error e') s'') s')
        { s with heap := h₁, toks := s.toks + binds.length })
    (hco : scope.isCoroutine = false) (hgen : scope.isGenerator = false) (hk : scope.kind = .function)
    (hcell : ∀ x ∈ scope.names, x.2 ≠ .cell) : codeAny (model prog w) A (.call (.ref f) args) R s := by
  have hX := X₀.keeps F.keep
  obtain ⟨FG, BG, st, _⟩ := groundX (R := R) B F N hA hf hke
  have only : ∀ b, b ∈ [env].filterMap (·.frame) → b = L := fun b hb => by
    obtain ⟨e', he, hq⟩ := List.mem_filterMap.mp hb
    rw [List.mem_singleton.mp he, hf] at hq
    exact (Option.some.inj hq).symm
  obtain ⟨oL, es, ep, hLg, hLd, hrest⟩ := FG.ns
  refine codeAny_call_def (fd := fnOf name qual params body scope dV kV doc pm an cdv ct) (body := body) (binds := binds) hroom (hX _ _ ho) rfl (T.nolimit.keeps F.keep) (codeRec_of hX hcd) rfl hbind hcell hloc (fun h₁ hns hk₁ => ?_) hco hgen hk
  refine wpAny_mono (h _ s.heap.objs.size h₁ FG ⟨hns, fun b o e => hk₁ b o (of_hideAll _ e), Nat.le_of_eq (hideAll_size _ _)⟩
    (fun q hq => ⟨hk₁ _ _ (N q hq).1, Nat.ne_of_lt (Heap.lt_size (N q hq).1), hideAll_none _ (List.mem_map_of_mem hq)⟩) BG (X₀.keeps st) (T.keeps st) fun b hb => ⟨oL, es, ep, (only b hb).symm ▸ hLg, hLd⟩) (fun fl s' hl => ?_) fun _ _ y => y
  obtain ⟨g', L', m', news', T', F', N', k⟩ := hl
  obtain ⟨sl, hs⟩ := T'.up hLg
  refine k ⟨⟨_, es, ep, F'.keep _ _ hs, hLd, hrest⟩, fun b o e => F'.keep b o (T'.other b o (st b o e) fun q => ?_), F.above⟩ fun q hq => ⟨(N' q hq).1, fun z => ?_, ?_⟩
  · have z := kts_self F
    rw [← only b q, e] at z
    cases z
  · have := (N' q hq).2.2
    rw [z, hs] at this
    cases this
  · cases z : h₀.get? q.1 with
    | none => rfl
    | some o =>
      obtain ⟨sl', hs'⟩ := T'.up (st _ _ z)
      have := (N' q hq).2.2
      rw [hs'] at this
      cases this
end
end
local macro_rules | `(tactic| walk_at "no such key") => `(tactic| fail)
/- C10 -/
section
open PySem PySem.W PyProof.Rows
set_option maxRecDepth 100000
set_option maxHeartbeats 4000000
set_option linter.unusedVariables false
theorem quietC10 : True := by w_top off; exact trivial
section
variable {w : World} {dp un : Nat} {gd : Option (List Code)} {cn : PySem.Str} {cs : Scope} {a : Addr} {ccd : Value} {cl : List (PySem.Str × Addr)} {outer : List Env} {A₀ : Around} {base h₀ : Heap} {L : Addr} {m : PySem.Str → Option Value} {s : Shared} {Q E : Value → Shared → Prop}
  {p : Program} {loose : List PySem.Str} {mean : ExcName → Option Value} {mg mb : PySem.Str → Option Value} {fixed₀ fixed : List (Addr × Obj)} {fk la : Addr} {seed : Int} {tr : List Asked}
local macro_rules | `(tactic| ktr_rel) => `(tactic| ((try simp only [Array.size_append, takeE_size, dropE_size, octE_size, bigE_size, byteArr_size, List.size_toArray, List.length_cons, List.length_nil]); first | omega | l_fact))
local macro_rules | `(tactic| walk_at "binaryOp Add bytes bytes") => `(tactic| (k_here; k_dflt (refine add_bb (by ktr_rel) ?_); intro _ _))
local macro_rules | `(tactic| walk_at "call builtin:len") => `(tactic| (k_here; (with_reducible show wpAny _ _ (call (Value.builtin "len") [Value.bytes _ _]) _ _ _); (refine len_b (by ktr_rel) ?_)))
local macro_rules | `(tactic| walk_at "subscriptTail") => `(tactic| (k_here; (with_reducible show wpAny _ _ (subscriptTail _ (Expr.Slice _ _ none _) (Value.bytes _ _) (Value.ref _)) _ _ _); (with_reducible rename Fr _ _ _ _ => F'); (with_reducible rename News _ _ _ _ => N'); (first | refine slice_to (s := ⟨_, _, _, _, _⟩) F' N' (by first | omega | l_fact) (by ktr_rel) ?_ | refine slice_from (s := ⟨_, _, _, _, _⟩) F' N' (by first | omega | l_fact) (by ktr_rel) ?_); intro _ _ _ _ _))
local macro_rules | `(tactic| k_upd) => `(tactic| (refine' code_defS ?k1 ?k2 ?k3 ?k4 ?k5 ?XB ?TB ?D ?T0 ?kA ?k6 ?k7 ?k8 ?k9 ?kB ?_ ?cK ?c2 ?c3 ?c4 ?c5; (case kA => exact rfl); (case k2 => k_asm); (case k1 => k_asm); (case XB => assumption); (case TB => assumption); (case D => assumption); (case T0 => first | assumption | exact KtsTurn.refl); (case k3 => k_asm); (case k4 => k_asm); (case k5 => k_asm); (case k6 => k_is); (case k7 => k_is); (case k8 => ktr_room); (case k9 => exact BindsTo.of_eq rfl); (case kB => exact locs rfl); (case cK => first | exact rfl | assumption); (case c2 => exact rfl); (case c3 => exact rfl); (case c4 => exact rfl); (case c5 => decide); k_whole; intro g' L' h' FG' F' N' B' X' T' D'; (try dsimp only); (try k_lift B'); (try k_fold)))
local macro_rules | `(tactic| walk_at "call ref") => `(tactic| (k_here; k_dflt (refine wpAny_call ?_; k_upd)))

theorem seal_odd {ms pp : Array UInt8} {e id : Int} {ext : Bool} {tm tp te ti : Tok} {news : List (Addr × Obj)} (B : Below A₀ base [] h₀) (F : Fr h₀ L s.heap m) (X : (hd.heap_39 w.params).In h₀) (N : News h₀ L s.heap news) (T : Top p loose mean mg mb h₀) (hk : cs.kind = .function)
    (XB : (hd.heap_39 w.params).In base) (TB : Top p loose mean mg mb base) (hms : ms.size ≤ 30) (hev : (((ms.size : Nat) : Int).fmod 2 != 0) = true) (hd : dp + 12 < recursionLimit) (hu : un + 96 < cLine)
    (hret : ∀ (t : Tok) (h' : Heap) (tk' : Nat), Fr h₀ L h' m → News h₀ L h' news → Q (.str (PySem.Str.ofString "refused") t) { s with heap := h', toks := tk' }) :
    wpAny (model PySem.Challenge.rw_jb0037_01.row.prog w) (ktrTop dp un gd cn cs L a ccd cl []) (call (.ref 84) [.bytes ms tm, .bytes pp tp, .int e te, .int id ti, .bool ext, .ref fk]) Q E s := by
  revert X; k_fill; intro X
  refine wpAny_call ?_
  refine' catching ?k1 ?k2 ?k3 ?k4 ?k5 ?kA ?kF ?kK ?k6 ?k7 ?k8 ?k9 ?kB ?_ ?c2 ?c3 ?c4 ?c5; (case kA => exact rfl); (case kF => exact rfl); (case kK => exact hk); (case k2 => k_asm); (case k1 => k_asm); (case k3 => k_asm); (case k4 => k_asm); (case k5 => k_asm); (case k6 => k_is); (case k7 => k_is); (case k8 => ktr_room); (case k9 => exact BindsTo.of_eq rfl); (case kB => exact locs rfl); (case c2 => exact rfl); (case c3 => exact rfl); (case c4 => exact rfl); (case c5 => decide); k_whole; intro g' L' h' FG' F' N' B' X' T' D'; (try dsimp only); (try k_lift B'); (try k_fold)
  k_steps

  all_goals exact hret _ _ _ (by assumption) (by assumption)

theorem open_odd {ms pp : Array UInt8} {e id : Int} {ext : Bool} {tm tp te ti : Tok} {news : List (Addr × Obj)} (B : Below A₀ base [] h₀) (F : Fr h₀ L s.heap m) (X : (hd.heap_39 w.params).In h₀) (N : News h₀ L s.heap news) (T : Top p loose mean mg mb h₀) (hk : cs.kind = .function)
    (XB : (hd.heap_39 w.params).In base) (TB : Top p loose mean mg mb base) (hms : ms.size ≤ 30) (hev : (((ms.size : Nat) : Int).fmod 2 != 0) = true) (hd : dp + 12 < recursionLimit) (hu : un + 96 < cLine)
    (hret : ∀ (t : Tok) (h' : Heap) (tk' : Nat), Fr h₀ L h' m → News h₀ L h' news → Q (.str (PySem.Str.ofString "refused") t) { s with heap := h', toks := tk' }) :
    wpAny (model PySem.Challenge.rw_jb0037_01.row.prog w) (ktrTop dp un gd cn cs L a ccd cl []) (call (.ref 91) [.bytes ms tm, .bytes pp tp, .int e te, .int id ti, .bool ext, .ref fk]) Q E s := by
  revert X; k_fill; intro X
  refine wpAny_call ?_
  refine' catching ?k1 ?k2 ?k3 ?k4 ?k5 ?kA ?kF ?kK ?k6 ?k7 ?k8 ?k9 ?kB ?_ ?c2 ?c3 ?c4 ?c5; (case kA => exact rfl); (case kF => exact rfl); (case kK => exact hk); (case k2 => k_asm); (case k1 => k_asm); (case k3 => k_asm); (case k4 => k_asm); (case k5 => k_asm); (case k6 => k_is); (case k7 => k_is); (case k8 => ktr_room); (case k9 => exact BindsTo.of_eq rfl); (case kB => exact locs rfl); (case c2 => exact rfl); (case c3 => exact rfl); (case c4 => exact rfl); (case c5 => decide); k_whole; intro g' L' h' FG' F' N' B' X' T' D'; (try dsimp only); (try k_lift B'); (try k_fold)
  k_steps

  all_goals exact hret _ _ _ (by assumption) (by assumption)
end
end
local macro_rules | `(tactic| walk_at "no such key") => `(tactic| fail)
local macro_rules | `(tactic| walk_at "no such key") => `(tactic| fail)
local macro_rules | `(tactic| walk_at "no such key") => `(tactic| fail)
local macro_rules | `(tactic| walk_at "no such key") => `(tactic| fail)
local macro_rules | `(tactic| walk_at "no such key") => `(tactic| fail)
/- L10 -/
section
open PySem PySem.W PyProof.Rows PySem.Calls
set_option maxRecDepth 100000
set_option maxHeartbeats 4000000
set_option linter.unusedVariables false
theorem quietL10 : True := by w_top off; exact trivial
def TurnN (h₀ : Heap) (L I : Addr) (it : Obj) (J : (PySem.Str → Option Value) → List (Addr × Obj) → Prop) (s₂ : Shared) (f : Flow) (s' : Shared) : Prop :=
  match f with
  | .next | .cont => ∃ h tk m news, s' = { s₂ with heap := h, toks := tk } ∧ Fr h₀ L h m ∧ News h₀ L h ((I, it) :: news) ∧ J m news
  | _ => False
section
variable {prog : Program} {w : World} {A : Around} {s : Shared} {env : Env} {h₀ : Heap} {x : PySem.Str} {body : List Stmt} {Q : Flow → Shared → Prop} {m₀ : PySem.Str → Option Value} {news : List (Addr × Obj)} {I : Addr}
theorem forN {lo st : Int} (n : Nat) (J : Nat → (PySem.Str → Option Value) → List (Addr × Obj) → Prop) (hJ : ∀ i m news, J i m news → NoRit news) (hh : A.handled = none) (hx : env.kindOf x = some .local)
    (hp : (env.scope.kind == .class || (env.scope.kind == .module && env.locals != env.globals)) = false)
    (F : Fr h₀ env.locals s.heap m₀) (N : News h₀ env.locals s.heap ((I, ritO (lo + ((0 : Nat) : Int) * st) ((n : Int) - ((0 : Nat) : Int)) st) :: news)) (h0 : J 0 m₀ news)
    (turn : ∀ i m news t h tk, i < n → J i m news → Fr h₀ env.locals h (fun y => if y = x then some (.int (lo + (i : Int) * st) t) else m y) →
      News h₀ env.locals h ((I, ritO (lo + ((i + 1 : Nat) : Int) * st) ((n : Int) - ((i + 1 : Nat) : Int)) st) :: news) →
      wpAny (model prog w) A (execs body env) (TurnN h₀ env.locals I (ritO (lo + ((i + 1 : Nat) : Int) * st) ((n : Int) - ((i + 1 : Nat) : Int)) st) (J (i + 1)) { s with heap := h, toks := tk }) (fun _ _ => False) { s with heap := h, toks := tk })
    (done : ∀ m news h tk, J n m news → Fr h₀ env.locals h m → News h₀ env.locals h news → Q .next { s with heap := h, toks := tk }) :
    ForOk prog w A env x body Q (fun _ _ => False) (.ref I) s := by
  have moved : ∀ {i m news h h₁}, J i m news → Fr h₀ env.locals h m → News h₀ env.locals h ((I, ritO (lo + (i : Int) * st) ((n : Int) - (i : Int)) st) :: news) → (∀ b o, b ∉ [I] → h.get? b = some o → h₁.get? b = some o) → Fr h₀ env.locals h₁ m ∧ News h₀ env.locals h₁ news := by
    intro i m news h h₁ hj F' N' hk
    have hI := N' _ (.head _)
    have hk' : ∀ b o, b ≠ I → h.get? b = some o → h₁.get? b = some o := fun b o hb e => hk b o (fun q => hb (List.mem_singleton.mp q)) e
    refine ⟨⟨F'.ns.at' fun o e => hk' _ o (fun q => hI.2.1 q.symm) e, fun b o e => hk' b o (fun q => by rw [q, hI.2.2] at e; cases e) (F'.keep b o e), F'.above⟩, fun q hq => ?_⟩
    have x := N' _ (.tail _ hq)
    refine ⟨hk' _ _ (fun e => ?_) x.1, x.2⟩
    have h1 := x.1
    rw [e, hI.1] at h1
    exact hJ i m news hj q hq _ _ _ (Option.some.inj h1).symm
  refine ⟨I, _, _, n, _, _, fun i s' => ∃ h tk m news, s' = { s with heap := h, toks := tk } ∧ Fr h₀ env.locals h m ∧ News h₀ env.locals h ((I, ritO (lo + (i : Int) * st) ((n : Int) - (i : Int)) st) :: news) ∧ J i m news,
    rfl, Walks.range hh I lo st n, ⟨_, _, _, _, rfl, F, N, h0⟩, ?_, ?_, ?_⟩
  · rintro i s' ⟨h, tk, m, news, rfl, F', N', hj⟩
    exact (N' _ (.head _)).1
  · rintro i s' v h₁ tk₁ hi ⟨h, tk, m, news, rfl, F', N', hj⟩ ⟨t, rfl⟩ hst hk
    obtain ⟨F₁, N₁⟩ := moved hj F' N' hk
    have hI := N' _ (.head _)
    have N₂ : News h₀ env.locals h₁ ((I, ritO (lo + ((i + 1 : Nat) : Int) * st) ((n : Int) - ((i + 1 : Nat) : Int)) st) :: news) := fun q hq => by
      rcases List.mem_cons.mp hq with rfl | hq
      · exact ⟨hst, hI.2.1, hI.2.2⟩
      · exact N₁ _ hq
    refine wpAny_storeName_local hx F₁.ns (fun h₂ hn₂ hs₂ => ?_) hp
    refine wpAny_mono (turn i m news t h₂ (tk₁ + 1) hi hj (F₁.set hn₂ hs₂) (N₂.set hs₂)) (fun f s₃ h₃ => ?_) fun _ _ e => e
    cases f with
    | next => exact h₃
    | cont => exact h₃
    | brk => exact h₃.elim
    | ret v => exact h₃.elim
  · rintro s' h₁ tk₁ ⟨h, tk, m, news, rfl, F', N', hj⟩ hk
    obtain ⟨F₁, N₁⟩ := moved hj F' N' hk
    exact done m news h₁ tk₁ hj F₁ N₁
end
end
local macro_rules | `(tactic| walk_at "no such key") => `(tactic| fail)
/- C11 -/
section
open PySem PySem.W PyProof.Rows
set_option maxRecDepth 100000
set_option maxHeartbeats 4000000
set_option linter.unusedVariables false
theorem quietC11 : True := by w_top off; exact trivial
/-- what a call of mask does -/
def MaskCon (w : World) (p : Program) (loose : List PySem.Str) (mean : ExcName → Option Value) (mg mb : PySem.Str → Option Value) (fixed₀ : List (Addr × Obj)) (fm : Addr) (seed : Int) : Prop :=
  ∀ (dp un : Nat) (gd : Option (List Code)) (cn : PySem.Str) (cs : Scope) (a : Addr) (ccd : Value) (cl : List (PySem.Str × Addr)) (outer : List Env) (A₀ : Around) (base h₀ : Heap) (L : Addr) (m : PySem.Str → Option Value) (s : Shared) (Q E : Value → Shared → Prop)
    (news : List (Addr × Obj)) (c : Asked) (t1 t2 t3 t4 : Tok),
    Below A₀ base outer h₀ → CodeHd base 34 30 → Fr h₀ L s.heap m → (hd.heap_39 w.params).In h₀ → Top p loose mean mg mb h₀ → cs.kind = .function → (∀ q ∈ fixed₀, q ∈ news) → News h₀ L s.heap news →
    c.pw.size ≤ 100 → c.sa.size ≤ 100 → 0 ≤ c.ro → c.ro < 2 ^ 64 → 0 ≤ c.le → c.le ≤ 100 → dp + 4 < recursionLimit → un + 32 < cLine →
    (∀ (t : Tok) (h' : Heap) (tk' : Nat), Fr h₀ L h' m → News h₀ L h' news → Q (.bytes (maskE seed c) t) { s with heap := h', toks := tk' }) →
    wpAny (model PySem.Challenge.rw_jb0037_01.row.prog w) (ktrTop dp un gd cn cs L a ccd cl outer) (call (.ref fm) [.bytes c.pw t1, .bytes c.sa t2, .int c.ro t3, .int c.le t4]) Q E s
local macro_rules | `(tactic| mul_fits) => `(tactic| exact mulOk_of (mix_bits (by assumption) (by assumption) (by assumption) (by assumption) (by assumption) (by assumption)) spread_bits)
local macro_rules | `(tactic| k_upd) => `(tactic| (refine' Upd.head ?a; (case a => assumption)))
local macro_rules | `(tactic| ktr_rel) => `(tactic| ((try simp only [Array.size_append, takeE_size, dropE_size, octE_size, bigE_size]); first | omega | l_fact))
local macro_rules | `(tactic| walk_at "call ref") => `(tactic| (k_here; (with_reducible show wpAny _ _ (call (Value.ref 77) [Value.int _ _, Value.int _ _]) _ _ _); k_dflt (refine' oct_con ?B ?F ?X ?N ?T ?kk ?h0 ?h1 ?hd ?hu ?_; (case B => k_asm); (case F => k_asm); (case X => k_asm); (case N => k_asm); (case T => k_asm); (case kk => first | exact rfl | assumption); (case h0 => first | omega | l_fact); (case h1 => first | omega | l_fact); (case hd => ktr_room); (case hu => ktr_units)); intro t9 h9 tk9 F9 N9; (try dsimp only); (try k_fold)))
local macro_rules | `(tactic| walk_at "call ref") => `(tactic| (k_here; (with_reducible show wpAny _ _ (call (Value.ref _) [Value.bytes _ _, Value.str _ _]) _ _ _); k_dflt (refine from_big (by k_asm) (by k_mem) (by ktr_rel) ?_); intro _ _))
local macro_rules | `(tactic| walk_at "binaryOp Add bytes bytes") => `(tactic| (k_here; k_dflt (refine add_bb (by ktr_rel) ?_); intro _ _))
local macro_rules | `(tactic| walk_at "call ref") => `(tactic| (k_here; kn_here; k_dflt (refine wpAny_call ?_; (refine' code_nest ?k1 ?k2 ?k3 ?k4 ?k5 ?kA ?kF ?kK ?k6 ?k7 ?k8 ?k9 ?kB ?_ ?c2 ?c3 ?c4 ?c5; (case kA => exact rfl); (case kF => exact rfl); (case kK => first | exact rfl | assumption); (case k1 => k_asm); (case k2 => k_asm); (case k3 => k_asm); (case k4 => k_asm); (case k5 => k_asm); (case k6 => k_mem); (case k7 => exact codeRec_news (by k_asm) (by k_mem) (by assumption) (by assumption)); (case k8 => ktr_room); (case k9 => exact BindsTo.of_eq rfl); (case c5 => decide); (case kB => exact locs rfl); (case c2 => exact rfl); (case c3 => exact rfl); (case c4 => exact rfl); k_whole; intro g' L' h' FG' F' N' B' X' T'; (try dsimp only); (try k_lift B'); (try k_fold)))))
section
variable {w : World} {p : Program} {loose : List PySem.Str} {mean : ExcName → Option Value} {mg mb : PySem.Str → Option Value}
theorem mask_con {nqm : PySem.Str} {dm pmm ctm : Value} {fm cm cs : Addr} {ocm ocs : Obj} {vsm : Array Value} {tqm ts : Tok} {seed : Int}
    (hm1 : ocm.data = .fields vsm) (hm2 : vsm[1]? = some (.str nqm tqm)) (h1 : ocs.data = .cell (some (.int seed ts))) (hs0 : 0 ≤ seed) (hs1 : seed < 2 ^ 64) :
    ofDef (lawStmt 8) fun nm psm bm scm =>
      MaskCon w p loose mean mg mb [(fm, fnMade nm nqm psm bm scm [(PySem.Str.ofString "seed", cs)] dm pmm cm ctm), (cm, ocm), (cs, ocs)] fm seed := by
  conv in (lawStmt 8) => whnf
  dsimp only [ofDef]
  unfold MaskCon
  intro dp un gd cn csc a ccd cl outer A₀ base h₀ L m s Q E rest c t1 t2 t3 t4 B C F X T hk hsub N₀ hpw hsa hr0 hr1 hl0 hl1 hd hu hret
  have N : News h₀ L s.heap _ := fun q hq => N₀ q ((List.mem_append.mp hq).elim (hsub q) id)
  simp only [List.cons_append, List.nil_append] at N
  clear N₀ hsub
  revert X; k_fill; intro X
  k_steps
  rename News _ _ _ _ => N9
  exact hret _ _ _ (by assumption) fun q hq => N9 q (by repeat first | exact hq | refine List.Mem.tail _ ?_)
end
end
local macro_rules | `(tactic| walk_at "no such key") => `(tactic| fail)
local macro_rules | `(tactic| walk_at "no such key") => `(tactic| fail)
local macro_rules | `(tactic| walk_at "no such key") => `(tactic| fail)
local macro_rules | `(tactic| walk_at "no such key") => `(tactic| fail)
local macro_rules | `(tactic| walk_at "no such key") => `(tactic| fail)
/- C13 -/
section
open PySem PySem.W PyProof.Rows
set_option maxRecDepth 100000
set_option maxHeartbeats 1000000
set_option linter.unusedVariables false
theorem quietC13 : True := by w_top off; exact trivial
def lawBody : List Stmt := match PySem.Challenge.pw_jb0037_01.main.body.getLast? with
  | some (.FunctionDef _ _ b _ _ _ _ _ _ _) => b
  | _ => []
def lawScope : Scope := match PySem.Challenge.pw_jb0037_01.main.body.getLast? with
  | some (.FunctionDef _ _ _ _ _ _ sc _ _ _) => sc
  | _ => default
def loopBody : List Stmt := match lawStmt 16 with
  | .For _ _ b _ _ => b
  | _ => []
theorem Fr.say {h₀ h : Heap} {L : Addr} {M : PySem.Str → Option Value} {x : PySem.Str} {v : Value} (F : Fr h₀ L h M) (e : M x = some v) : Fr h₀ L h (fun y => if y = x then some v else M y) := by
  have : (fun y => if y = x then some v else M y) = M := by
    funext y
    by_cases h : y = x
    · rw [if_pos h, h, e]
    · rw [if_neg h]
  rw [this]; exact F
/-- what the law's turn i asks of the mask -/
def askH (pp : Array UInt8) (e : Int) (salt : Array UInt8) (hf : Int) (i : Int) (y : Int) : Asked := ⟨#[i.toNat.toUInt8] ++ pp, salt ++ octE y hf.toNat, 2500 * 2 ^ e.toNat, hf⟩
/-- the halves number i and i + 1 -/
def hvE (seed : Int) (pp : Array UInt8) (e : Int) (salt : Array UInt8) (hf : Int) (a b : Int) : Nat → Int × Int
  | 0 => (a, b)
  | i + 1 => ((hvE seed pp e salt hf a b i).2, Builtin.bitXor (hvE seed pp e salt hf a b i).1 ((valE (maskE seed (askH pp e salt hf (0 + (i : Int) * 1) (hvE seed pp e salt hf a b i).2)) : Nat) : Int))
def hvL (seed : Int) (pp : Array UInt8) (e : Int) (salt : Array UInt8) (hf : Int) (a b : Int) : Nat → List Int
  | 0 => [a, b]
  | i + 1 => hvL seed pp e salt hf a b i ++ [(hvE seed pp e salt hf a b (i + 1)).2]
def askL (seed : Int) (pp : Array UInt8) (e : Int) (salt : Array UInt8) (hf : Int) (a b : Int) : Nat → List Asked
  | 0 => []
  | i + 1 => askL seed pp e salt hf a b i ++ [askH pp e salt hf (0 + (i : Int) * 1) (hvE seed pp e salt hf a b i).2]
theorem hvL_length (seed : Int) (pp : Array UInt8) (e : Int) (salt : Array UInt8) (hf a b : Int) : ∀ i, (hvL seed pp e salt hf a b i).length = i + 2
  | 0 => rfl
  | i + 1 => by rw [hvL, List.length_append, hvL_length]; rfl
theorem askL_length (seed : Int) (pp : Array UInt8) (e : Int) (salt : Array UInt8) (hf a b : Int) : ∀ i, (askL seed pp e salt hf a b i).length = i
  | 0 => rfl
  | i + 1 => by rw [askL, List.length_append, askL_length]; rfl
theorem hvL_last (seed : Int) (pp : Array UInt8) (e : Int) (salt : Array UInt8) (hf a b : Int) : ∀ i, (hvL seed pp e salt hf a b i).getD (i + 1) 0 = (hvE seed pp e salt hf a b i).2
  | 0 => rfl
  | i + 1 => by
    have h := hvL_length seed pp e salt hf a b i
    rw [hvL, List.getD_eq_getElem?_getD, List.getElem?_append_right (by omega), h]
    simp
theorem hvL_prev (seed : Int) (pp : Array UInt8) (e : Int) (salt : Array UInt8) (hf a b : Int) : ∀ i, (hvL seed pp e salt hf a b i).getD i 0 = (hvE seed pp e salt hf a b i).1
  | 0 => rfl
  | i + 1 => by
    have h := hvL_length seed pp e salt hf a b i
    rw [hvL, List.getD_eq_getElem?_getD, List.getElem?_append_left (by omega), ← List.getD_eq_getElem?_getD, hvL_last]
    rfl
abbrev turnMap (u m₀ : PySem.Str → Option Value) : PySem.Str → Option Value := fun y => if y = PySem.Str.ofString "asked" then u y else if y = PySem.Str.ofString "turn" then u y else m₀ y
theorem turn_next {u m₀ : PySem.Str → Option Value} {va vt : Option Value} : (fun y => if y = PySem.Str.ofString "asked" then va else if y = PySem.Str.ofString "turn" then vt else turnMap u m₀ y) = turnMap (fun y => if y = PySem.Str.ofString "asked" then va else vt) m₀ := by
  funext y
  dsimp only [turnMap]
  by_cases h1 : y = PySem.Str.ofString "asked"
  · simp only [if_pos h1]
  simp only [if_neg h1]
  by_cases h2 : y = PySem.Str.ofString "turn"
  · simp only [if_pos h2]
  simp only [if_neg h2]
abbrev loopMap (m₁ : PySem.Str → Option Value) (dA hA : Addr) (salt pp : Array UInt8) (hf e : Int) (t1 t2 t3 t4 : Tok) : PySem.Str → Option Value := fun y =>
  if y = PySem.Str.ofString "due" then some (.ref dA) else if y = PySem.Str.ofString "halves" then some (.ref hA) else if y = PySem.Str.ofString "salt" then some (.bytes salt t1) else if y = PySem.Str.ofString "half" then some (.int hf t2)
  else if y = PySem.Str.ofString "exponent" then some (.int e t3) else if y = PySem.Str.ofString "passphrase" then some (.bytes pp t4) else m₁ y
section
variable {w : World} {base : Heap} {L fa : Addr} {m₁ : PySem.Str → Option Value} {s : Shared} {Q : Flow → Shared → Prop}
  {p : Program} {loose : List PySem.Str} {mean : ExcName → Option Value} {mg mb : PySem.Str → Option Value} {fixedm keep : List (Addr × Obj)} {fm dA hA r : Addr} {seed : Int} {ocm : Obj}
local macro_rules | `(tactic| ktr_rel) => `(tactic| ((try simp only [Array.size_append, takeE_size, dropE_size, octE_size, bigE_size, byteArr_size, List.size_toArray, List.length_cons, List.length_nil]); first | omega | l_fact))
local macro_rules | `(tactic| walk_at "binaryOp Add bytes bytes") => `(tactic| (k_here; k_dflt (refine add_bb (by ktr_rel) ?_); intro _ _))
local macro_rules | `(tactic| walk_at "call builtin:len") => `(tactic| (k_here; (with_reducible show wpAny _ _ (call (Value.builtin "len") [Value.bytes _ _]) _ _ _); (refine len_b (by ktr_rel) ?_)))
local macro_rules | `(tactic| walk_at "subscriptTail") => `(tactic| (k_here; (with_reducible show wpAny _ _ (subscriptTail _ (Expr.Slice _ _ none _) (Value.bytes _ _) (Value.ref _)) _ _ _); (with_reducible rename Fr _ _ _ _ => F'); (with_reducible rename News _ _ _ _ => N'); (first | refine slice_to (s := ⟨_, _, _, _, _⟩) F' N' (by first | omega | l_fact) (by ktr_rel) ?_ | refine slice_from (s := ⟨_, _, _, _, _⟩) F' N' (by first | omega | l_fact) (by ktr_rel) ?_); intro _ _ _ _ _))
local macro_rules | `(tactic| walk_at "call ref") => `(tactic| (k_here; (with_reducible show wpAny _ _ (call (Value.ref 77) [Value.int _ _, Value.int _ _]) _ _ _); k_dflt (refine' oct_con ?B ?F ?X ?N ?T ?kk ?h0 ?h1 ?hd ?hu ?_; (case B => k_asm); (case F => k_asm); (case X => k_asm); (case N => k_asm); (case T => k_asm); (case kk => first | exact rfl | assumption); (case h0 => first | omega | l_fact); (case h1 => first | omega | l_fact); (case hd => ktr_room); (case hu => ktr_units)); intro t9 h9 tk9 F9 N9; (try dsimp only); (try k_fold)))
local macro_rules | `(tactic| walk_at "call ref") => `(tactic| (k_here; (with_reducible show wpAny _ _ (call (Value.ref _) [Value.bytes _ _, Value.str _ _]) _ _ _); k_dflt (refine from_big (by k_asm) (by k_mem) (by ktr_rel) ?_); intro _ _))
local macro_rules | `(tactic| walk_at "call ref") => `(tactic| (k_here; (with_reducible show wpAny _ _ (call (Value.ref _) [Value.bytes _ _, Value.bytes _ _, Value.int _ _, Value.int _ _]) _ _ _); refine halt ?_))
section
variable {prog : Program} {A : Around} {E : Value → Shared → Prop} {m : PySem.Str → Option Value} {news : List (Addr × Obj)} {D : Addr} {n : Nat} {u : Tok} {vs : List Value} {h₀ : Heap} {e a b hf : Int} {pp salt : Array UInt8} {i : Nat}
theorem hv_sub1 {value slice : PySem.Expr} {Q : Value → Shared → Prop} (N : News h₀ L s.heap news) (hm : (D, listOf vs.toArray n) ∈ news) (hi : IntsAre vs (hvL seed pp e salt hf a b i)) (h4 : i < 4) (h : ∀ t, Q (.int (hvE seed pp e salt hf a b i).2 t) s)
    (hs : subscripted slice false (.ref D) (.int (0 + (i : Int) * 1 + 1) u) = operate [.ref D, .int (0 + (i : Int) * 1 + 1) u] (getItem (.ref D) (.int (0 + (i : Int) * 1 + 1) u)) := by with_unfolding_all rfl) :
    wpAny (model prog w) A (subscriptTail value slice (.ref D) (.int (0 + (i : Int) * 1 + 1) u)) Q E s := by
  refine ksa_sub N hm hi (by omega) (by rw [hvL_length]; omega) (by omega) (fun t => ?_) hs
  rw [show (0 + (i : Int) * 1 + 1).toNat = i + 1 by omega, hvL_last]
  exact h t
theorem hv_sub0 {value slice : PySem.Expr} {Q : Value → Shared → Prop} (N : News h₀ L s.heap news) (hm : (D, listOf vs.toArray n) ∈ news) (hi : IntsAre vs (hvL seed pp e salt hf a b i)) (h4 : i < 4) (h : ∀ t, Q (.int (hvE seed pp e salt hf a b i).1 t) s)
    (hs : subscripted slice false (.ref D) (.int (0 + (i : Int) * 1) u) = operate [.ref D, .int (0 + (i : Int) * 1) u] (getItem (.ref D) (.int (0 + (i : Int) * 1) u)) := by with_unfolding_all rfl) :
    wpAny (model prog w) A (subscriptTail value slice (.ref D) (.int (0 + (i : Int) * 1) u)) Q E s := by
  refine ksa_sub N hm hi (by omega) (by rw [hvL_length]; omega) (by omega) (fun t => ?_) hs
  rw [show (0 + (i : Int) * 1).toNat = i by omega, hvL_prev]
  exact h t
end
local macro_rules | `(tactic| walk_at "subscriptTail") => `(tactic| (k_here; (with_reducible show wpAny _ _ (subscriptTail _ _ (Value.ref _) (Value.int (0 + _ * 1 + 1) _)) _ _ _); k_dflt (refine' hv_sub1 ?k1 ?k2 ?k3 ?k4 ?_ ?k7; (case k1 => k_asm); (case k3 => assumption); (case k2 => k_mem); (case k4 => assumption); (case k7 => with_unfolding_all rfl)); intro _))
local macro_rules | `(tactic| walk_at "subscriptTail") => `(tactic| (k_here; (with_reducible show wpAny _ _ (subscriptTail _ _ (Value.ref _) (Value.int (0 + _ * 1) _)) _ _ _); k_dflt (refine' hv_sub0 ?k1 ?k2 ?k3 ?k4 ?_ ?k7; (case k1 => k_asm); (case k3 => assumption); (case k2 => k_mem); (case k4 => assumption); (case k7 => with_unfolding_all rfl)); intro _))
theorem turn_end {h₀ h' : Heap} {L I x D l fm' cm' : Addr} {it bo lo fo co : Obj} {va vt : Option Value} {u M : PySem.Str → Option Value} {c : Asked} {t1 t2 t3 t4 k : Tok} {refs vs : List Value} {ns : List Int} {as : List Asked} {ats : List (Addr × Obj)} {n1 n2 : Nat} {v : Int} {s₂ : Shared} {tk' : Nat}
    (F9 : Fr h₀ L h' (fun y => if y = PySem.Str.ofString "asked" then va else if y = PySem.Str.ofString "turn" then vt else turnMap u M y))
    (N9 : News h₀ L h' ((x, bo) :: (D, noteObj c t1 t2 t3 t4) :: (l, lo) :: (fm', fo) :: (cm', co) :: (I, it) :: (dA, listOf (refs.toArray.push (.ref D)) n1) :: (hA, listOf (vs.toArray.push (.int v k)) n2) :: (ats ++ keep)))
    (hI : IntsAre vs ns) (hno : Noted ats refs as) (hat : NoRit ats) (hn1 : ∀ q ∈ ats ++ keep, q.1 ≠ dA) (hn2 : ∀ q ∈ ats ++ keep, q.1 ≠ hA) :
    TurnN h₀ L I it (fun m news => ∃ u vs refs n1 n2 ats, m = turnMap u M ∧ news = (dA, listOf refs.toArray n1) :: (hA, listOf vs.toArray n2) :: (ats ++ keep) ∧ IntsAre vs (ns ++ [v]) ∧ Noted ats refs (as ++ [c]) ∧ NoRit ats ∧ (∀ q ∈ ats ++ keep, q.1 ≠ dA) ∧ (∀ q ∈ ats ++ keep, q.1 ≠ hA)) s₂ .next { s₂ with heap := h', toks := tk' } := by
  have eD := (N9 _ (.tail _ (.head _))).1
  have apart : ∀ y, ∀ a n, (y, listOf a n) ∈ ((x, bo) :: (D, noteObj c t1 t2 t3 t4) :: (l, lo) :: (fm', fo) :: (cm', co) :: (I, it) :: (dA, listOf (refs.toArray.push (.ref D)) n1) :: (hA, listOf (vs.toArray.push (.int v k)) n2) :: (ats ++ keep)) → D ≠ y := fun y a n hy e => by
    have h := (N9 _ hy).1
    simp only [← e] at h
    simp only [eD] at h
    have := congrArg (Option.map Obj.cls) h
    simp at this
  have hd := apart dA _ _ (.tail _ (.tail _ (.tail _ (.tail _ (.tail _ (.tail _ (.head _)))))))
  have hh := apart hA _ _ (.tail _ (.tail _ (.tail _ (.tail _ (.tail _ (.tail _ (.tail _ (.head _))))))))
  rw [List.push_toArray, List.push_toArray] at N9
  have both : ∀ {P : Addr × Obj → Prop}, P (D, noteObj c t1 t2 t3 t4) → (∀ q ∈ ats ++ keep, P q) → ∀ q ∈ ((D, noteObj c t1 t2 t3 t4) :: ats) ++ keep, P q := fun hD hr q hq => by
    rcases List.mem_cons.mp hq with rfl | hq
    · exact hD
    · exact hr q hq
  refine ⟨h', tk', _, (dA, listOf (refs ++ [Value.ref D]).toArray n1) :: (hA, listOf (vs ++ [Value.int v k]).toArray n2) :: (((D, noteObj c t1 t2 t3 t4) :: ats) ++ keep), rfl, F9, fun q hq => ?_, _, vs ++ [Value.int v k], refs ++ [Value.ref D], n1, n2, (D, noteObj c t1 t2 t3 t4) :: ats, turn_next, rfl, hI.append (.cons _ _ .nil), hno.snoc (fun q hq => .tail _ hq) (.head _), fun q hq => ?_, both hd hn1, both hh hn2⟩
  · rcases List.mem_cons.mp hq with rfl | hq
    · exact N9 _ (.tail _ (.tail _ (.tail _ (.tail _ (.tail _ (.head _))))))
    rcases List.mem_cons.mp hq with rfl | hq
    · exact N9 _ (.tail _ (.tail _ (.tail _ (.tail _ (.tail _ (.tail _ (.head _)))))))
    rcases List.mem_cons.mp hq with rfl | hq
    · exact N9 _ (.tail _ (.tail _ (.tail _ (.tail _ (.tail _ (.tail _ (.tail _ (.head _))))))))
    rcases List.mem_cons.mp hq with rfl | hq
    · exact N9 _ (.tail _ (.head _))
    · exact N9 _ (.tail _ (.tail _ (.tail _ (.tail _ (.tail _ (.tail _ (.tail _ (.tail _ hq))))))))
  · rcases List.mem_cons.mp hq with rfl | hq
    · exact noRit_data fun _ e => by cases e
    · exact hat q hq
theorem mask_use {dp un : Nat} {gd : Option (List Code)} {cn : PySem.Str} {cs : Scope} {a : Addr} {ccd : Value} {cl : List (PySem.Str × Addr)} {outer : List Env} {A₀ : Around} {h₀ : Heap} {m : PySem.Str → Option Value} {Q E : Value → Shared → Prop} {news : List (Addr × Obj)}
    (MC : MaskCon w p loose mean mg mb fixedm fm seed) (c : Asked) {t1 t2 t3 t4 : Tok} (B : Below A₀ base outer h₀) (C : CodeHd base 34 30) (F : Fr h₀ L s.heap m) (X : (hd.heap_39 w.params).In h₀) (T : Top p loose mean mg mb h₀) (hk : cs.kind = .function)
    (N : News h₀ L s.heap news) (hsub : ∀ q ∈ fixedm, q ∈ news) (hpw : c.pw.size ≤ 100) (hsa : c.sa.size ≤ 100) (hr0 : 0 ≤ c.ro) (hr1 : c.ro < 2 ^ 64) (hl0 : 0 ≤ c.le) (hl1 : c.le ≤ 100) (hd : dp + 4 < recursionLimit) (hu : un + 32 < cLine)
    (hret : ∀ (t : Tok) (h' : Heap) (tk' : Nat), Fr h₀ L h' m → News h₀ L h' news → Q (.bytes (maskE seed c) t) { s with heap := h', toks := tk' }) :
    wpAny (model PySem.Challenge.rw_jb0037_01.row.prog w) (ktrTop dp un gd cn cs L a ccd cl outer) (call (.ref fm) [.bytes c.pw t1, .bytes c.sa t2, .int c.ro t3, .int c.le t4]) Q E s :=
  MC dp un gd cn cs a ccd cl outer A₀ base h₀ L m s Q E news c t1 t2 t3 t4 B C F X T hk hsub N hpw hsa hr0 hr1 hl0 hl1 hd hu hret
theorem ro_in2 {e : Int} (h0 : 0 ≤ e) (h1 : e < 16) : 0 ≤ (2500 * 2 ^ e.toNat : Int) ∧ (2500 * 2 ^ e.toNat : Int) < 2 ^ 64 := by
  have h := ro_in h0 h1
  rw [ro_eq] at h
  exact h
local macro_rules | `(tactic| k_upd) => `(tactic| first | (refine' Upd.head ?updC; (case updC => assumption)) | (refine' Upd.tail ?updA ?updB; (case updA => k_ne); (case updB => k_upd)))
local macro_rules | `(tactic| walk_at "call builtin:list.append") => `(tactic| (k_here; (with_reducible show wpAny _ _ (call (Value.builtin _) [Value.ref _, _]) _ _ _); k_dflt (refine' append_K ?k1 ?k2 ?k3 ?_ ?z; (case k1 => k_asm); (case k2 => k_asm); (case k3 => k_upd); (case z => assumption); k_whole); intro h' F' N'; (try k_sweep)))
theorem law_loop {salt pp : Array UInt8} {hf e a b : Int} {t1 t2 t3 t4 ta tb rt ru rv : Tok} {n1 n2 : Nat} (MC : MaskCon w p loose mean mg mb fixedm fm seed)
    (B : Below callerA base [] base) (C : CodeHd base 34 30) (F : Fr base L s.heap (loopMap m₁ dA hA salt pp hf e t1 t2 t3 t4)) (X : (hd.heap_39 w.params).In base) (T : Top p loose mean mg mb base)
    (N : News base L s.heap ((dA, listOf #[] n1) :: (hA, listOf #[.int a ta, .int b tb] n2) :: keep)) (hsubm : ∀ q ∈ fixedm, q ∈ keep) (hfnm : FnIn fm fixedm) (hm : (L + 1 + 1, ocm) ∈ keep) (hcm : ocm.data = .cell (some (.ref fm))) (hrit : NoRit keep)
    (hlt : @LT.lt Nat _ hA dA) (hkd : ∀ q ∈ keep, q.1 ≠ dA) (hkh : ∀ q ∈ keep, q.1 ≠ hA) (hr : IsRange s.heap r 0 4 1 rt ru rv) (he0 : 0 ≤ e) (he1 : e < 16) (hpp : pp.size ≤ 4) (hsa : salt.size ≤ 8) (hf0 : 0 ≤ hf) (hf1 : hf ≤ 10)
    (hret : ∀ (h' : Heap) (tk' : Nat) (u : PySem.Str → Option Value) (vs refs : List Value) (n1 n2 : Nat) (ats : List (Addr × Obj)), Fr base L h' (turnMap u (loopMap m₁ dA hA salt pp hf e t1 t2 t3 t4)) →
      News base L h' ((dA, listOf refs.toArray n1) :: (hA, listOf vs.toArray n2) :: (ats ++ keep)) → IntsAre vs (hvL seed pp e salt hf a b 4) → Noted ats refs (askL seed pp e salt hf a b 4) → NoRit ats → Q .next { s with heap := h', toks := tk' }) :
    wpAny (model PySem.Challenge.rw_jb0037_01.row.prog w) (callerA.deeper (envOfC (PySem.Str.ofString "law") lawScope L fa (.ref 97))) (pyIter (.ref r)) (ForOk PySem.Challenge.rw_jb0037_01.row.prog w (callerA.deeper (envOfC (PySem.Str.ofString "law") lawScope L fa (.ref 97))) (envOfC (PySem.Str.ofString "law") lawScope L fa (.ref 97)) (PySem.Str.ofString "turn") loopBody Q (fun _ _ => False)) (fun _ _ => False) s := by
  obtain ⟨sc, hsc⟩ : ∃ sc, sc = lawScope := ⟨_, rfl⟩
  obtain ⟨bd, hb⟩ : ∃ b, b = loopBody := ⟨_, rfl⟩
  rw [← hsc, ← hb]
  conv at hsc => rhs; whnf
  conv at hb => rhs; whnf
  subst hsc hb
  refine wpAny_pyIter_range hr (by decide) ?_
  rw [show Builtin.Range.rangeSize 0 4 1 = 4 from by decide]
  refine forN (lo := 0) (st := 1) 4 (fun i m news => ∃ u vs refs n1 n2 ats, m = turnMap u (loopMap m₁ dA hA salt pp hf e t1 t2 t3 t4) ∧ news = (dA, listOf refs.toArray n1) :: (hA, listOf vs.toArray n2) :: (ats ++ keep) ∧ IntsAre vs (hvL seed pp e salt hf a b i) ∧ Noted ats refs (askL seed pp e salt hf a b i) ∧ NoRit ats ∧ (∀ q ∈ ats ++ keep, q.1 ≠ dA) ∧ (∀ q ∈ ats ++ keep, q.1 ≠ hA))
    ?off rfl rfl rfl (F.push _) (News.push F N (ritO 0 4 1)) ?start ?turn ?done
  case off =>
    rintro i m news ⟨u, vs, refs, n1, n2, ats, _, rfl, _, _, hn, _, _⟩ q hq
    rcases List.mem_cons.mp hq with rfl | hq
    · exact noRit_data fun _ e => by cases e
    rcases List.mem_cons.mp hq with rfl | hq
    · exact noRit_data fun _ e => by cases e
    rcases List.mem_append.mp hq with hq | hq
    · exact hn q hq
    · exact hrit q hq
  case start =>
    refine ⟨loopMap m₁ dA hA salt pp hf e t1 t2 t3 t4, _, [], _, _, [], ?_, rfl, ?_, trivial, (fun _ h => nomatch h), hkd, hkh⟩
    · funext y; simp only [turnMap]; split <;> (try split) <;> rfl
    · exact .cons _ _ (.cons _ _ .nil)
  case turn =>
    rintro i m news t h tk hi ⟨u, vs, refs, n1, n2, ats, rfl, rfl, hI, hno, hat, hn1, hn2⟩ F5 N5
    have hd9 : @LT.lt Nat _ dA s.heap.objs.size := Heap.lt_size (N _ (.head _)).1
    have hh9 : @LT.lt Nat _ hA s.heap.objs.size := Heap.lt_size (N _ (.tail _ (.head _))).1
    have hc9 : @Ne Nat (L + 1 + 1) dA := hkd _ hm
    have hc8 : @Ne Nat (L + 1 + 1) hA := hkh _ hm
    obtain ⟨oc9, od9, fd9, sl9, hfm⟩ := hfnm
    have hc7 : @Ne Nat fm dA := hkd _ (hsubm _ hfm)
    have hc6 : @Ne Nat fm hA := hkh _ (hsubm _ hfm)
    have N6 : News base L h ((fm, (⟨oc9, od9, .func fd9, sl9⟩ : Obj)) :: (L + 1 + 1, ocm) :: (s.heap.objs.size, ritO (0 + ((i + 1 : Nat) : Int) * 1) (((4 : Nat) : Int) - ((i + 1 : Nat) : Int)) 1) :: (dA, listOf refs.toArray n1) :: (hA, listOf vs.toArray n2) :: (ats ++ keep)) := fun q hq => by
      rcases List.mem_cons.mp hq with rfl | hq
      · exact N5 _ (.tail _ (.tail _ (.tail _ (List.mem_append_right _ (hsubm _ hfm)))))
      rcases List.mem_cons.mp hq with rfl | hq
      · exact N5 _ (.tail _ (.tail _ (.tail _ (List.mem_append_right _ hm))))
      · exact N5 _ hq
    clear N F hr N5
    revert X; k_fill; intro X
    have hi4 : i < 4 := hi
    have hrl : refs.toArray.size ≤ sizeLine := by rw [List.size_toArray, hno.length, askL_length, sizeLine_eq]; omega
    have hvl : vs.toArray.size ≤ sizeLine := by rw [List.size_toArray, hI.length, hvL_length, sizeLine_eq]; omega
    have hn3 : ∀ q ∈ (hA, listOf vs.toArray n2) :: (ats ++ keep), q.1 ≠ dA := fun q hq => by
      rcases List.mem_cons.mp hq with rfl | hq
      · exact Nat.ne_of_lt hlt
      · exact hn1 q hq
    k_steps
    unfold Halt
    rename News _ _ _ _ => N9
    refine mask_use MC (askH pp e salt hf (0 + (i : Int) * 1) (hvE seed pp e salt hf a b i).2) B C (by assumption) X T rfl N9 (fun q hq => by repeat first | exact List.mem_append_right _ (hsubm q hq) | refine List.Mem.tail _ ?_) ?_ ?_ (ro_in2 he0 he1).1 (ro_in2 he0 he1).2 hf0 (show hf ≤ 100 by omega) (by ktr_room) (by ktr_units) fun t9 h9 tk9 F9 N10 => ?_
    · show (#[((0 : Int) + (i : Int) * 1).toNat.toUInt8] ++ pp).size ≤ 100
      rw [Array.size_append]
      show 1 + pp.size ≤ 100
      omega
    · show (salt ++ octE (hvE seed pp e salt hf a b i).2 hf.toNat).size ≤ 100
      rw [Array.size_append, octE_size]
      omega
    clear N9
    have hmk : (maskE seed (askH pp e salt hf (0 + (i : Int) * 1) (hvE seed pp e salt hf a b i).2)).size ≤ 100 := by
      rw [maskE_size]
      show hf.toNat ≤ 100
      omega
    try dsimp only
    k_steps
    rename News _ _ _ _ => N11
    rename Fr _ _ _ _ => F11
    exact turn_end F11 N11 hI hno hat hn1 hn2
  case done =>
    rintro m news h tk ⟨u, vs, refs, n1, n2, ats, rfl, rfl, hI, hno, hat, _, _⟩ F5 N5
    exact hret _ _ _ _ _ _ _ _ F5 N5 hI hno hat
end
end
local macro_rules | `(tactic| walk_at "no such key") => `(tactic| fail)
local macro_rules | `(tactic| walk_at "no such key") => `(tactic| fail)
local macro_rules | `(tactic| walk_at "no such key") => `(tactic| fail)
local macro_rules | `(tactic| walk_at "no such key") => `(tactic| fail)
local macro_rules | `(tactic| walk_at "no such key") => `(tactic| fail)
local macro_rules | `(tactic| walk_at "no such key") => `(tactic| fail)
local macro_rules | `(tactic| walk_at "no such key") => `(tactic| fail)
local macro_rules | `(tactic| walk_at "no such key") => `(tactic| fail)
local macro_rules | `(tactic| walk_at "no such key") => `(tactic| fail)
local macro_rules | `(tactic| walk_at "no such key") => `(tactic| fail)
/- L11 -/
section
open PySem PySem.W PyProof.Rows PySem.Calls PySem.SeqAt
set_option maxRecDepth 100000
set_option maxHeartbeats 4000000
set_option linter.unusedVariables false
theorem quietL11 : True := by w_top off; exact trivial
section
variable {prog : Program} {w : World} {A : Around} {E : Value → Shared → Prop} {s : Shared}
theorem eqAt_bytes (b : Array UInt8) (t u : Tok) : EqAt A s (.bytes b t) (.bytes b u) true := fun prog w E Q hq => eqBool_bytes (by rw [decide_eq_true rfl]; exact hq)
theorem eqAt_int (a : Int) (t u : Tok) : EqAt A s (.int a t) (.int a u) true := by
  have h := EqAt.int_int (A := A) (s := s) a t a u
  rw [beq_self_eq_true] at h
  exact h
theorem eqAt_note {d1 d2 : Addr} {c : Asked} {t1 t2 t3 t4 u1 u2 u3 u4 : Tok} (h1 : s.heap.get? d1 = some (noteObj c t1 t2 t3 t4)) (h2 : s.heap.get? d2 = some (noteObj c u1 u2 u3 u4)) (hu : A.units < cLine) : EqAt A s (.ref d1) (.ref d2) true := by
  by_cases e : d1 = d2
  · subst e; exact EqAt.same _
  · refine EqAt.of_refs e ?_
    have h := RcAt.tuples (A := A) (s := s) (l := d1) (b := d2) (items := #[.bytes c.pw t1, .bytes c.sa t2, .int c.ro t3, .int c.le t4]) (items2 := #[.bytes c.pw u1, .bytes c.sa u2, .int c.ro u3, .int c.le u4]) (e := fun _ => true) ⟨_, h1, rfl, _, rfl⟩ ⟨_, h2, rfl, _, rfl⟩ hu fun j j1 j2 => by
      match j, j1, j2 with
      | 0, _, _ => exact eqAt_bytes _ _ _
      | 1, _, _ => exact eqAt_bytes _ _ _
      | 2, _, _ => exact eqAt_int _ _ _
      | 3, _, _ => exact eqAt_int _ _ _
      | j + 4, j1, _ => exact absurd (show j + 4 < 4 from j1) (by omega)
    exact h
theorem Noted.at {t1 t2 : List (Addr × Obj)} (k1 : ∀ q ∈ t1, s.heap.get? q.1 = some q.2) (k2 : ∀ q ∈ t2, s.heap.get? q.1 = some q.2) (hu : A.units < cLine) : ∀ {xs ys : List Value} {cs : List Asked}, Noted t1 xs cs → Noted t2 ys cs → ∀ j (h1 : j < xs.length) (h2 : j < ys.length), EqAt A s xs[j] ys[j] true
  | x :: xs, y :: ys, c :: cs, ⟨⟨a, u1, u2, u3, u4, e, m⟩, n1⟩, ⟨⟨b, v1, v2, v3, v4, e', m'⟩, n2⟩, 0, _, _ => by
    subst e e'
    exact eqAt_note (k1 _ m) (k2 _ m') hu
  | x :: xs, y :: ys, c :: cs, ⟨_, n1⟩, ⟨_, n2⟩, j + 1, h1, h2 => Noted.at k1 k2 hu n1 n2 j (Nat.lt_of_succ_lt_succ h1) (Nat.lt_of_succ_lt_succ h2)
  | [], [], [], _, _, j, h1, _ => absurd h1 (Nat.not_lt_zero _)
theorem ne_notes {la dl : Addr} {xs ys : List Value} {t1 t2 : List (Addr × Obj)} {cs : List Asked} {Q : Value → Shared → Prop} (hx : s.heap.IsList la xs.toArray) (hy : s.heap.IsList dl ys.toArray) (n1 : Noted t1 xs cs) (n2 : Noted t2 ys cs)
    (k1 : ∀ q ∈ t1, s.heap.get? q.1 = some q.2) (k2 : ∀ q ∈ t2, s.heap.get? q.1 = some q.2) (hu : A.units + 8 < cLine) (h : Q (.bool false) s) : wpAny (model prog w) A (compareOp .NotEq (.ref la) (.ref dl)) Q E s := by
  have hl : xs.length = ys.length := n1.length.trans n2.length.symm
  refine RcNeAt.lists (e := fun _ => true) hx hy (by simpa using hl) (by omega) (fun j j1 j2 => ?_) prog w E Q ?_
  · have := Noted.at (A := A.in1) (s := s) k1 k2 (by show A.units + 1 < cLine; omega) n1 n2 j (by simpa using j1) (by simpa using j2)
    simpa using this
  · have e : (!((List.range xs.toArray.size).all fun _ => true)) = false := by simp
    rw [e]; exact h
theorem ne_bytes_same {b c : Array UInt8} {t u : Tok} {Q : Value → Shared → Prop} (e : b = c) (h : Q (.bool false) s) : wpAny (model prog w) A (compareOp .NotEq (.bytes b t) (.bytes c u)) Q E s := by
  subst e
  refine ne_bytes ?_
  rw [show (b.toList != b.toList) = false from bne_self_eq_false _]
  exact h
theorem eq_bytes_same {b c : Array UInt8} {t u : Tok} {Q : Value → Shared → Prop} (e : b = c) (h : Q (.bool true) s) : wpAny (model prog w) A (compareOp .Eq (.bytes b t) (.bytes c u)) Q E s := by
  subst e
  refine eq_bytes ?_
  rw [show (b.toList == b.toList) = true from beq_self_eq_true _]
  exact h
end
theorem Noted.append {t : List (Addr × Obj)} : ∀ {xs ys : List Value} {as bs : List Asked}, Noted t xs as → Noted t ys bs → Noted t (xs ++ ys) (as ++ bs)
  | [], _, [], _, _, h => h
  | _ :: _, _, _ :: _, _, h, k => ⟨h.1, h.2.append k⟩
  | [], _, _ :: _, _, h, _ => h.elim
  | _ :: _, _, [], _, h, _ => h.elim
/-- a note joins the fixed part -/
theorem Book.addNote {h₀ h : Heap} {L la D : Addr} {c : Asked} {t1 t2 t3 t4 : Tok} {fixed : List (Addr × Obj)} {tr : List Asked} (hB : Book h₀ L h fixed la tr) (h1 : h.get? D = some (noteObj c t1 t2 t3 t4)) (h2 : D ≠ L) (h3 : h₀.get? D = none) : Book h₀ L h ((D, noteObj c t1 t2 t3 t4) :: fixed) la tr := by
  have hx : D ≠ la ∧ D ≠ 30 := by
    obtain ⟨ps, refs, n, tups, N, _⟩ := hB
    have e30 := (N _ (.tail _ (.head _))).1
    have el := (N _ (.head _)).1
    refine ⟨fun q => ?_, fun q => ?_⟩
    · simp only [q] at h1
      rw [el] at h1
      have := congrArg (Option.map Obj.cls) h1
      simp at this
    · simp only [q] at h1
      rw [e30] at h1; cases h1
  exact hB.add h1 h2 h3 hx.1 hx.2
end
local macro_rules | `(tactic| walk_at "no such key") => `(tactic| fail)
/- C14 -/
section
open PySem PySem.W PyProof.Rows
set_option maxRecDepth 100000
set_option maxHeartbeats 4000000
set_option linter.unusedVariables false
theorem quietC14 : True := by w_top off; exact trivial
theorem halfE_even {ms : Array UInt8} (hev : ((ms.size : Nat) : Int).fmod 2 = 0) : 2 * halfE ms = ms.size := by
  have h1 : ((ms.size : Nat) : Int).fmod 2 = (ms.size : Int) % 2 := Int.fmod_eq_emod_of_nonneg _ (by decide)
  have h2 : ((ms.size : Nat) : Int).fdiv 2 = (ms.size : Int) / 2 := Int.fdiv_eq_ediv_of_nonneg _ (by decide)
  unfold halfE
  omega
theorem feisE_size {seed : Int} {pp : Array UInt8} {e : Int} {salt : Array UInt8} {a c : Int} {ms : Array UInt8} (hev : ((ms.size : Nat) : Int).fmod 2 = 0) : (feisE seed pp e salt a c ms).size = ms.size := by
  have hh := halfE_even hev
  have h := rndsE_size seed pp e salt a c (l := takeE ms (halfE ms)) (r := dropE ms (halfE ms)) (k := halfE ms) (by rw [takeE_size]; omega) (by rw [dropE_size]; omega) 4
  unfold feisE
  rw [Array.size_append, h.1, h.2]
  omega
section
variable {prog : Program} {w : World} {A : Around} {E : Value → Shared → Prop} {s : Shared}
theorem ne_book {h₀ : Heap} {L la dl : Addr} {fixed : List (Addr × Obj)} {tr : List Asked} {ys : List Value} {n : Nat} {Q : Value → Shared → Prop} (hB : Book h₀ L s.heap fixed la tr) (hy : s.heap.get? dl = some (listOf ys.toArray n)) (n2 : Noted fixed ys tr) (hu : A.units + 8 < cLine) (h : Q (.bool false) s) :
    wpAny (model prog w) A (compareOp .NotEq (.ref la) (.ref dl)) Q E s := by
  have k2 : ∀ q ∈ fixed, s.heap.get? q.1 = some q.2 := fun q hq => (hB.mem hq).1
  obtain ⟨ps, refs, m, tups, N, _, hno, _⟩ := hB
  exact ne_notes ⟨_, (N _ (.head _)).1, rfl, _, rfl⟩ ⟨_, hy, rfl, _, rfl⟩ hno n2 (fun q hq => (N _ (.tail _ (.tail _ (List.mem_append_right _ hq)))).1) k2 hu h
end
abbrev endMap (m₂ : PySem.Str → Option Value) (dA hA fk : Addr) (hf id e : Int) (sealed pp oct : Array UInt8) (ext : Bool) (th ts ti te tp to : Tok) : PySem.Str → Option Value := fun y =>
  if y = PySem.Str.ofString "due" then some (.ref dA) else if y = PySem.Str.ofString "halves" then some (.ref hA) else if y = PySem.Str.ofString "half" then some (.int hf th) else if y = PySem.Str.ofString "sealed" then some (.bytes sealed ts)
  else if y = PySem.Str.ofString "kdf" then some (.ref fk) else if y = PySem.Str.ofString "extendable" then some (.bool ext) else if y = PySem.Str.ofString "identifier" then some (.int id ti)
  else if y = PySem.Str.ofString "exponent" then some (.int e te) else if y = PySem.Str.ofString "passphrase" then some (.bytes pp tp) else if y = PySem.Str.ofString "octets" then some (.bytes oct to) else m₂ y
section
variable {w : World} {base : Heap} {L fa : Addr} {m₂ : PySem.Str → Option Value} {s : Shared} {Q : Flow → Shared → Prop}
  {p : Program} {loose : List PySem.Str} {mean : ExcName → Option Value} {mg mb : PySem.Str → Option Value} {fixed₀ fixed : List (Addr × Obj)} {fk la dA hA : Addr} {seed : Int} {oca : Obj}
local macro_rules | `(tactic| ktr_rel) => `(tactic| ((try simp only [Array.size_append, takeE_size, dropE_size, octE_size, bigE_size, byteArr_size, List.size_toArray, List.length_cons, List.length_nil]); first | omega | l_fact))
local macro_rules | `(tactic| walk_at "binaryOp Add bytes bytes") => `(tactic| (k_here; k_dflt (refine add_bb (by ktr_rel) ?_); intro _ _))
local macro_rules | `(tactic| walk_at "call builtin:len") => `(tactic| (k_here; (with_reducible show wpAny _ _ (call (Value.builtin "len") [Value.bytes _ _]) _ _ _); (refine len_b (by ktr_rel) ?_)))
local macro_rules | `(tactic| walk_at "subscriptTail") => `(tactic| (k_here; (with_reducible show wpAny _ _ (subscriptTail _ (Expr.Slice _ _ none _) (Value.bytes _ _) (Value.ref _)) _ _ _); (with_reducible rename Fr _ _ _ _ => F'); (with_reducible rename News _ _ _ _ => N'); (first | refine slice_to (s := ⟨_, _, _, _, _⟩) F' N' (by first | omega | l_fact) (by ktr_rel) ?_ | refine slice_from (s := ⟨_, _, _, _, _⟩) F' N' (by first | omega | l_fact) (by ktr_rel) ?_); intro _ _ _ _ _))
local macro_rules | `(tactic| walk_at "call ref") => `(tactic| (k_here; (with_reducible show wpAny _ _ (call (Value.ref 77) [Value.int _ _, Value.int _ _]) _ _ _); k_dflt (refine' oct_con ?B ?F ?X ?N ?T ?kk ?h0 ?h1 ?hd ?hu ?_; (case B => k_asm); (case F => k_asm); (case X => k_asm); (case N => k_asm); (case T => k_asm); (case kk => first | exact rfl | assumption); (case h0 => first | omega | l_fact); (case h1 => first | omega | l_fact); (case hd => ktr_room); (case hu => ktr_units)); intro t9 h9 tk9 F9 N9; (try dsimp only); (try k_fold)))
local macro_rules | `(tactic| walk_at "call ref") => `(tactic| (k_here; (with_reducible show wpAny _ _ (call (Value.ref _) [Value.bytes _ _, Value.str _ _]) _ _ _); k_dflt (refine from_big (by k_asm) (by k_mem) (by ktr_rel) ?_); intro _ _))
local macro_rules | `(tactic| walk_at "call ref") => `(tactic| (k_here; (with_reducible show wpAny _ _ (call (Value.ref 84) _) _ _ _); refine halt ?_))
local macro_rules | `(tactic| walk_at "call ref") => `(tactic| (k_here; (with_reducible show wpAny _ _ (call (Value.ref 91) _) _ _ _); refine halt ?_))
local macro_rules | `(tactic| walk_at "exec For Name Call cons nil") => `(tactic| (k_here; (with_unfolding_all refine my_for ?_)))
local macro_rules | `(tactic| walk_at "compareOp NotEq bytes bytes") => `(tactic| (k_here; refine halt ?_))
local macro_rules | `(tactic| walk_at "compareOp Eq bytes bytes") => `(tactic| (k_here; refine halt ?_))
local macro_rules | `(tactic| walk_at "compareOp NotEq ref ref") => `(tactic| (k_here; refine halt ?_))
theorem pick_ref {prog : Program} {A : Around} {E : Value → Shared → Prop} {h₀ : Heap} {Lx D : Addr} {news : List (Addr × Obj)} {its : List Value} {n : Nat} {value slice : PySem.Expr} {k : Int} {u : Tok} {v : Value} {Q : Value → Shared → Prop} (N : News h₀ Lx s.heap news) (hm : (D, listOf its.toArray n) ∈ news) (h0 : 0 ≤ k) (hfit : k < 2 ^ 63) (hx : its[k.toNat]? = some v) (h : Q v s)
    (hs : subscripted slice false (.ref D) (.int k u) = operate [.ref D, .int k u] (getItem (.ref D) (.int k u)) := by with_unfolding_all rfl) : wpAny (model prog w) A (subscriptTail value slice (.ref D) (.int k u)) Q E s :=
  item_listR (items := its.toArray) ⟨_, (N _ hm).1, rfl, _, rfl⟩ h0 hfit (by simpa using hx) h hs
local macro_rules | `(tactic| walk_at "subscriptTail") => `(tactic| (k_here; (with_reducible show wpAny _ _ (subscriptTail _ _ (Value.ref _) (Value.int _ _)) _ _ _); k_dflt (refine' pick_ref ?k1 ?k2 ?k3 ?k4 ?k5 ?_ ?k7; (case k1 => k_asm); (case k2 => k_mem); (case k3 => decide); (case k4 => decide); (case k5 => rfl); (case k7 => with_unfolding_all rfl))))
local macro_rules | `(tactic| walk_at "newList") => `(tactic| (k_here; k_dflt (refine' newList_K ?k1 ?k2 ?_ ?kz; (case k1 => k_asm); (case k2 => k_asm); (case kz => exact Nat.le_of_ble_eq_true rfl); k_whole); intro l' h' F' N' l1; (try k_lt l1)))
local macro_rules | `(tactic| walk_at "binaryOp Add ref ref") => `(tactic| (k_here; (with_reducible show wpAny _ _ (binaryOp _ (Value.ref _) (Value.ref _)) _ _ _); k_dflt (refine' kmk_add_lit ?F ?N ?a ?b ?e ?_ ?z; (case F => k_asm); (case N => k_asm); (case a => exact News.isList (by k_asm) (by k_mem)); (case b => exact News.isList (by k_asm) (by k_mem)); (case e => kl_lit); (case z => exact Nat.le_of_ble_eq_true rfl)); intro D' h' F' N' l1; (try k_lt l1)))
theorem cmp_tail {sealed oct pp : Array UInt8} {e id hf : Int} {ext : Bool} {th ts ti te tp to y0 y1 y2 y3 y4 y5 a0 a1 a2 a3 b0 b1 b2 b3 c0 c1 c2 c3 d0 d1 d2 d3 : Tok} {x0 x1 x2 x3 x4 x5 : Int} {k0 k1 k2 k3 : Asked} {D0 D1 D2 D3 : Addr} {n1 n2 : Nat} (KC : KdfCon w p loose mean mg mb fixed₀ fk la seed) (hfn : FnIn fk fixed₀) (hrit : NoRit fixed)
    (B : Below callerA base [] base) (C : CodeHd base 34 30) (F : Fr base L s.heap (endMap m₂ dA hA fk hf id e sealed pp oct ext th ts ti te tp to)) (X : (hd.heap_39 w.params).In base) (T : Top p loose mean mg mb base)
    (hsub : ∀ q ∈ fixed₀, q ∈ fixed) (ha : (L + 1, oca) ∈ fixed) (hca : oca.data = .cell (some (.ref la))) (hdu : (dA, listOf #[.ref D0, .ref D1, .ref D2, .ref D3] n1) ∈ fixed) (hha : (hA, listOf #[.int x0 y0, .int x1 y1, .int x2 y2, .int x3 y3, .int x4 y4, .int x5 y5] n2) ∈ fixed)
    (g0 : (D0, noteObj k0 a0 a1 a2 a3) ∈ fixed) (g1 : (D1, noteObj k1 b0 b1 b2 b3) ∈ fixed) (g2 : (D2, noteObj k2 c0 c1 c2 c3) ∈ fixed) (g3 : (D3, noteObj k3 d0 d1 d2 d3) ∈ fixed)
    (hB : Book base L s.heap fixed la [k0, k1, k2, k3]) (G : AllBare s.gens) (he0 : 0 ≤ e) (he1 : e < 16) (hi0 : 0 ≤ id) (hi1 : id < 32768) (hpp : pp.size ≤ 4) (hoct : oct.size ≤ 20) (hev : ((oct.size : Nat) : Int).fmod 2 = 0) (hf0 : 0 ≤ hf) (hf1 : hf ≤ 10) (hss : sealed.size = oct.size)
    (q1 : sealed = octE x5 hf.toNat ++ octE x4 hf.toNat) (q2 : feisE seed pp e (saltE id ext) 3 (-1) sealed = oct) (q3 : traceE seed pp e (saltE id ext) 3 (-1) sealed = [k3, k2, k1, k0]) (q4 : feisE seed pp e (saltE id ext) 0 1 (feisE seed pp e (saltE id ext) 3 (-1) oct) = oct)
    (hret : ∀ (h' : Heap) (g' : Array GenState) (tk' : Nat) (m' : PySem.Str → Option Value) (tr : List Asked), Fr base L h' m' → Book base L h' fixed la tr → AllBare g' → Q (.ret (.bool true)) { s with heap := h', gens := g', toks := tk' }) :
    wpAny (model PySem.Challenge.rw_jb0037_01.row.prog w) (callerA.deeper (envOfC (PySem.Str.ofString "law") lawScope L fa (.ref 97))) (execs (lawBody.drop 17) (envOfC (PySem.Str.ofString "law") lawScope L fa (.ref 97))) Q (fun _ _ => False) s := by
  obtain ⟨sc, hsc⟩ : ∃ sc, sc = lawScope := ⟨_, rfl⟩
  obtain ⟨b, hb⟩ : ∃ b, b = lawBody.drop 17 := ⟨_, rfl⟩
  rw [← hsc, ← hb]
  conv at hsc => rhs; whnf
  conv at hb => rhs; whnf
  subst hsc hb
  have hevs : ((sealed.size : Nat) : Int).fmod 2 = 0 := by rw [hss]; exact hev
  have lay : ∀ {h tr}, Book base L h fixed la tr → ∃ rest, News base L h ((dA, listOf #[.ref D0, .ref D1, .ref D2, .ref D3] n1) :: (hA, listOf #[.int x0 y0, .int x1 y1, .int x2 y2, .int x3 y3, .int x4 y4, .int x5 y5] n2) :: (L + 1, oca) :: rest) ∧ ∀ h', News base L h' rest → Book base L h' fixed la tr := by
    intro h tr hB
    obtain ⟨rest, N, back⟩ := hB.lay
    refine ⟨rest, fun q hq => ?_, fun h' => back base L h'⟩
    rcases List.mem_cons.mp hq with rfl | hq
    · exact hB.mem hdu
    rcases List.mem_cons.mp hq with rfl | hq
    · exact hB.mem hha
    rcases List.mem_cons.mp hq with rfl | hq
    · exact hB.mem ha
    · exact N _ hq
  obtain ⟨rest, N, back⟩ := lay hB
  revert X; k_fill; intro X
  k_steps
  unfold Halt
  refine ne_bytes_same q1 ?_
  k_steps
  unfold Halt
  rename News _ _ _ _ => N9
  have B9 := back _ (fun q hq => N9 q (.tail _ (.tail _ (.tail _ hq))))
  refine ne_book B9 (N9 _ (.head _)).1 ⟨⟨D0, _, _, _, _, rfl, g0⟩, ⟨D1, _, _, _, _, rfl, g1⟩, ⟨D2, _, _, _, _, rfl, g2⟩, ⟨D3, _, _, _, _, rfl, g3⟩, trivial⟩ (by ktr_units) ?_
  k_steps
  unfold Halt
  rename News _ _ _ _ => N10
  refine open_even KC hfn hrit B C (by assumption) (by assumption) (by assumption) rfl hsub (back _ (fun q hq => N10 q (.tail _ (.tail _ (.tail _ hq))))) G (show 4 ≤ 90 by decide) he0 he1 hi0 hi1 (by omega) (by omega) hevs (by ktr_room) (by ktr_units) fun t11 h11 g11 tk11 F11 B11 G11 => ?_
  clear N10 B9 back N hB
  rw [q3] at B11
  rw [q2]
  obtain ⟨rest11, N11, back11⟩ := lay B11
  try dsimp only
  k_steps
  unfold Halt
  refine ne_bytes_same rfl ?_
  k_steps
  unfold Halt
  rename News _ _ _ _ => N12
  have B12 := back11 _ (fun q hq => N12 q (by repeat first | exact hq | refine List.Mem.tail _ ?_))
  refine ne_book B12 (N12 _ (.head _)).1 ⟨⟨D0, _, _, _, _, rfl, g0⟩, ⟨D1, _, _, _, _, rfl, g1⟩, ⟨D2, _, _, _, _, rfl, g2⟩, ⟨D3, _, _, _, _, rfl, g3⟩, ⟨D3, _, _, _, _, rfl, g3⟩, ⟨D2, _, _, _, _, rfl, g2⟩, ⟨D1, _, _, _, _, rfl, g1⟩, ⟨D0, _, _, _, _, rfl, g0⟩, trivial⟩ (by ktr_units) ?_
  k_steps
  unfold Halt
  rename News _ _ _ _ => N13
  refine open_even KC hfn hrit B C (by assumption) (by assumption) (by assumption) rfl hsub (back11 _ (fun q hq => N13 q (by repeat first | exact hq | refine List.Mem.tail _ ?_))) G11 (show 8 ≤ 90 by decide) he0 he1 hi0 hi1 (by omega) (by omega) hev (by ktr_room) (by ktr_units) fun t14 h14 g14 tk14 F14 B14 G14 => ?_
  clear N13 B12 back11 N11 B11
  have hso := feisE_size (seed := seed) (pp := pp) (e := e) (salt := saltE id ext) (a := 3) (c := -1) hev
  obtain ⟨rest14, N14, back14⟩ := lay B14
  try dsimp only
  k_steps
  unfold Halt
  rename News _ _ _ _ => N15
  refine seal_even KC hfn hrit B C (by assumption) (by assumption) (by assumption) rfl hsub (back14 _ (fun q hq => N15 q (by repeat first | exact hq | refine List.Mem.tail _ ?_))) G14 ?_ he0 he1 hi0 hi1 (by omega) (by rw [hso]; omega) (by rw [hso]; exact hev) (by ktr_room) (by ktr_units) fun t16 h16 g16 tk16 F16 B16 G16 => ?_
  · show (8 + (traceE seed pp e (saltE id ext) 3 (-1) oct).length) ≤ 90
    unfold traceE
    rw [asksE_length]
    decide
  clear N15 back14 B14
  obtain ⟨rest16, N16, back16⟩ := lay B16
  try dsimp only
  k_steps
  unfold Halt
  refine eq_bytes_same q4 ?_
  k_steps
  exact hret _ _ _ _ _ F16 B16 G16
end
end
local macro_rules | `(tactic| walk_at "no such key") => `(tactic| fail)
local macro_rules | `(tactic| walk_at "no such key") => `(tactic| fail)
local macro_rules | `(tactic| walk_at "no such key") => `(tactic| fail)
local macro_rules | `(tactic| walk_at "no such key") => `(tactic| fail)
local macro_rules | `(tactic| walk_at "no such key") => `(tactic| fail)
local macro_rules | `(tactic| walk_at "no such key") => `(tactic| fail)
local macro_rules | `(tactic| walk_at "no such key") => `(tactic| fail)
local macro_rules | `(tactic| walk_at "no such key") => `(tactic| fail)
local macro_rules | `(tactic| walk_at "no such key") => `(tactic| fail)
local macro_rules | `(tactic| walk_at "no such key") => `(tactic| fail)
local macro_rules | `(tactic| walk_at "no such key") => `(tactic| fail)
local macro_rules | `(tactic| walk_at "no such key") => `(tactic| fail)
local macro_rules | `(tactic| walk_at "no such key") => `(tactic| fail)
local macro_rules | `(tactic| walk_at "no such key") => `(tactic| fail)
local macro_rules | `(tactic| walk_at "no such key") => `(tactic| fail)
/- L12 -/
section
open PySem PySem.W PyProof.Rows PySem.Calls
set_option maxRecDepth 100000
set_option maxHeartbeats 4000000
set_option linter.unusedVariables false
theorem quietL12 : True := by w_top off; exact trivial
theorem Book.lay2 {h₀ h : Heap} {L la : Addr} {fixed : List (Addr × Obj)} {tr : List Asked} (hB : Book h₀ L h fixed la tr) (hf : NoRit fixed) : ∃ rest, News h₀ L h rest ∧ (∀ q ∈ fixed, q ∈ rest) ∧ NoRit rest ∧ (∃ o, (la, o) ∈ rest) ∧ (∃ o, (30, o) ∈ rest) ∧ ∀ h₁ L₁ h', News h₁ L₁ h' rest → Book h₁ L₁ h' fixed la tr := by
  obtain ⟨ps, refs, n, tups, N, g1, g2, g3, g4⟩ := hB
  have sub : ∀ q ∈ tups.filter (fun q => q.2.cls == .type "tuple"), q ∈ tups := fun q hq => (List.mem_filter.mp hq).1
  refine ⟨(la, listOf refs.toArray n) :: (30, tabObj ps) :: (fixed ++ tups.filter (fun q => q.2.cls == .type "tuple")), fun q hq => N q ?_, fun q hq => .tail _ (.tail _ (List.mem_append_left _ hq)), fun q hq => ?_, ⟨_, .head _⟩, ⟨_, .tail _ (.head _)⟩,
    fun h₁ L₁ h' N' => ⟨ps, refs, n, _, N', g1, g2.tidy fun a c t1 t2 t3 t4 => by rfl, fun q hq => g3 q ?_, fun q hq => g4 q ?_⟩⟩
  · rcases List.mem_cons.mp hq with rfl | hq
    · exact .head _
    rcases List.mem_cons.mp hq with rfl | hq
    · exact .tail _ (.head _)
    rcases List.mem_append.mp hq with hq | hq
    · exact .tail _ (.tail _ (List.mem_append_left _ hq))
    · exact .tail _ (.tail _ (List.mem_append_right _ (sub q hq)))
  · rcases List.mem_cons.mp hq with rfl | hq
    · exact noRit_data fun _ e => by cases e
    rcases List.mem_cons.mp hq with rfl | hq
    · exact noRit_cls (show Value.none ≠ .type "range_iterator" by decide)
    rcases List.mem_append.mp hq with hq | hq
    · exact hf q hq
    · refine noRit_cls fun e => ?_
      have h3 := (List.mem_filter.mp hq).2
      rw [e] at h3
      exact absurd h3 (by decide)
  · rcases List.mem_cons.mp hq with rfl | hq
    · exact .head _
    rcases List.mem_append.mp hq with hq | hq
    · exact .tail _ (List.mem_append_left _ hq)
    · exact .tail _ (List.mem_append_right _ (sub q hq))
  · rcases List.mem_append.mp hq with hq | hq
    · exact List.mem_append_left _ hq
    · exact List.mem_append_right _ (sub q hq)
theorem lt_of_all {d : Nat} : ∀ {l : List (Addr × Obj)}, AllLt d l → ∀ q ∈ l, @LT.lt Nat _ q.1 d
  | _ :: _, h, _, hq => by
    rcases List.mem_cons.mp hq with rfl | hq
    · exact h.1
    · exact lt_of_all h.2 _ hq
  | [], _, _, hq => nomatch hq
theorem keep_ne {D x1 x2 c1 c2 : Addr} {o1 o2 o3 o4 : Obj} {rest : List (Addr × Obj)} (h : @LT.lt Nat _ x1 D ∧ @LT.lt Nat _ x2 D ∧ @LT.lt Nat _ c1 D ∧ @LT.lt Nat _ c2 D ∧ AllLt D rest) : ∀ q ∈ (x1, o1) :: (x2, o2) :: (c1, o3) :: (c2, o4) :: rest, q.1 ≠ D := fun q hq => by
  rcases List.mem_cons.mp hq with rfl | hq
  · exact Nat.ne_of_lt h.1
  rcases List.mem_cons.mp hq with rfl | hq
  · exact Nat.ne_of_lt h.2.1
  rcases List.mem_cons.mp hq with rfl | hq
  · exact Nat.ne_of_lt h.2.2.1
  rcases List.mem_cons.mp hq with rfl | hq
  · exact Nat.ne_of_lt h.2.2.2.1
  · exact Nat.ne_of_lt (lt_of_all h.2.2.2.2 q hq)
theorem Noted.four {ats : List (Addr × Obj)} {refs : List Value} {k0 k1 k2 k3 : Asked} (h : Noted ats refs [k0, k1, k2, k3]) : ∃ D0 D1 D2 D3 a0 a1 a2 a3 b0 b1 b2 b3 c0 c1 c2 c3 d0 d1 d2 d3, refs = [.ref D0, .ref D1, .ref D2, .ref D3] ∧ (D0, noteObj k0 a0 a1 a2 a3) ∈ ats ∧ (D1, noteObj k1 b0 b1 b2 b3) ∈ ats ∧ (D2, noteObj k2 c0 c1 c2 c3) ∈ ats ∧ (D3, noteObj k3 d0 d1 d2 d3) ∈ ats := by
  match refs, h with
  | [r0, r1, r2, r3], ⟨⟨D0, a0, a1, a2, a3, e0, m0⟩, ⟨D1, b0, b1, b2, b3, e1, m1⟩, ⟨D2, c0, c1, c2, c3, e2, m2⟩, ⟨D3, d0, d1, d2, d3, e3, m3⟩, _⟩ =>
    subst e0 e1 e2 e3
    exact ⟨D0, D1, D2, D3, a0, a1, a2, a3, b0, b1, b2, b3, c0, c1, c2, c3, d0, d1, d2, d3, rfl, m0, m1, m2, m3⟩
theorem ints_six {vs : List Value} {x0 x1 x2 x3 x4 x5 : Int} (h : IntsAre vs [x0, x1, x2, x3, x4, x5]) : ∃ y0 y1 y2 y3 y4 y5, vs = [.int x0 y0, .int x1 y1, .int x2 y2, .int x3 y3, .int x4 y4, .int x5 y5] := by
  obtain ⟨y0, v0, e0, h0⟩ := h.cons_inv
  obtain ⟨y1, v1, e1, h1⟩ := h0.cons_inv
  obtain ⟨y2, v2, e2, h2⟩ := h1.cons_inv
  obtain ⟨y3, v3, e3, h3⟩ := h2.cons_inv
  obtain ⟨y4, v4, e4, h4⟩ := h3.cons_inv
  obtain ⟨y5, v5, e5, h5⟩ := h4.cons_inv
  rw [e0, e1, e2, e3, e4, e5, h5.nil_inv]
  exact ⟨_, _, _, _, _, _, rfl⟩
end
local macro_rules | `(tactic| walk_at "no such key") => `(tactic| fail)
/- C15 -/
section
open PySem PySem.W PyProof.Rows
set_option maxRecDepth 100000
set_option maxHeartbeats 4000000
set_option linter.unusedVariables false
theorem quietC15 : True := by w_top off; exact trivial
abbrev lawMap (m₀ : PySem.Str → Option Value) (fk : Addr) (ext : Bool) (id e : Int) (pp oct : Array UInt8) (ti te tp to ts : Tok) : PySem.Str → Option Value := fun y =>
  if y = PySem.Str.ofString "kdf" then some (.ref fk) else if y = PySem.Str.ofString "extendable" then some (.bool ext) else if y = PySem.Str.ofString "identifier" then some (.int id ti)
  else if y = PySem.Str.ofString "exponent" then some (.int e te) else if y = PySem.Str.ofString "passphrase" then some (.bytes pp tp) else if y = PySem.Str.ofString "octets" then some (.bytes oct to)
  else if y = PySem.Str.ofString "size" then some (.int ((oct.size : Nat) : Int) ts) else m₀ y
/-- what the plain law says of an even text -/
def PlainOk (seed : Int) (pp : Array UInt8) (e : Int) (salt oct : Array UInt8) : Prop :=
  traceE seed pp e salt 0 1 oct = askL seed pp e salt (((oct.size : Nat) : Int).fdiv 2) ((valE (takeE oct (halfE oct)) : Nat) : Int) ((valE (dropE oct (halfE oct)) : Nat) : Int) 4 ∧
  feisE seed pp e salt 0 1 oct = octE (hvE seed pp e salt (((oct.size : Nat) : Int).fdiv 2) ((valE (takeE oct (halfE oct)) : Nat) : Int) ((valE (dropE oct (halfE oct)) : Nat) : Int) 4).2 (((oct.size : Nat) : Int).fdiv 2).toNat
      ++ octE (hvE seed pp e salt (((oct.size : Nat) : Int).fdiv 2) ((valE (takeE oct (halfE oct)) : Nat) : Int) ((valE (dropE oct (halfE oct)) : Nat) : Int) 3).2 (((oct.size : Nat) : Int).fdiv 2).toNat ∧
  feisE seed pp e salt 3 (-1) (feisE seed pp e salt 0 1 oct) = oct ∧ traceE seed pp e salt 3 (-1) (feisE seed pp e salt 0 1 oct) = (traceE seed pp e salt 0 1 oct).reverse ∧
  feisE seed pp e salt 0 1 (feisE seed pp e salt 3 (-1) oct) = oct
theorem askL_four (seed : Int) (pp : Array UInt8) (e : Int) (salt : Array UInt8) (hf a b : Int) : ∃ k0 k1 k2 k3, askL seed pp e salt hf a b 4 = [k0, k1, k2, k3] := ⟨_, _, _, _, rfl⟩
theorem hvL_six (seed : Int) (pp : Array UInt8) (e : Int) (salt : Array UInt8) (hf a b : Int) : hvL seed pp e salt hf a b 4 = [a, b, (hvE seed pp e salt hf a b 1).2, (hvE seed pp e salt hf a b 2).2, (hvE seed pp e salt hf a b 3).2, (hvE seed pp e salt hf a b 4).2] := rfl
section
variable {w : World} {base : Heap} {L fa : Addr} {m₀ : PySem.Str → Option Value} {s : Shared} {Q Q' : Flow → Shared → Prop}
  {p : Program} {loose : List PySem.Str} {mean : ExcName → Option Value} {mg mb : PySem.Str → Option Value} {fixed₀ fixedm fixed rest : List (Addr × Obj)} {fk fm la dA hA x1 x2 r : Addr} {seed : Int} {oca ocm o8 o9 : Obj}
theorem even_rest {oct pp : Array UInt8} {e id : Int} {ext : Bool} {ti te tp to ts t1 t2 t3 ta tb rt ru rv : Tok} {n1 n2 : Nat} (KC : KdfCon w p loose mean mg mb fixed₀ fk la seed) (MC : MaskCon w p loose mean mg mb fixedm fm seed) (hfn : FnIn fk fixed₀) (hrit : NoRit fixed)
    (B : Below callerA base [] base) (C : CodeHd base 34 30)
    (F12 : Fr base L s.heap (fun y => if y = PySem.Str.ofString "due" then some (.ref dA) else if y = PySem.Str.ofString "halves" then some (.ref hA) else if y = PySem.Str.ofString "salt" then some (.bytes (saltE id ext) t1) else if y = PySem.Str.ofString "half" then some (.int (((oct.size : Nat) : Int).fdiv 2) t2)
      else if y = PySem.Str.ofString "sealed" then some (.bytes (feisE seed pp e (saltE id ext) 0 1 oct) t3) else lawMap m₀ fk ext id e pp oct ti te tp to ts y)) (X : (hd.heap_39 w.params).In base) (T : Top p loose mean mg mb base)
    (hsub : ∀ q ∈ fixed₀, q ∈ fixed) (hsubm : ∀ q ∈ fixedm, q ∈ fixed) (hfnm : FnIn fm fixedm) (ha : (L + 1, oca) ∈ fixed) (hm : (L + 1 + 1, ocm) ∈ fixed) (hca : oca.data = .cell (some (.ref la))) (hcm : ocm.data = .cell (some (.ref fm)))
    (N12 : News base L s.heap ((dA, listOf #[] n1) :: (hA, listOf #[.int ((valE (takeE oct (halfE oct)) : Nat) : Int) ta, .int ((valE (dropE oct (halfE oct)) : Nat) : Int) tb] n2) :: (x1, KFB.bound) :: (x2, KFB.bound) :: (L + 1, oca) :: (L + 1 + 1, ocm) :: rest))
    (l6 : @LT.lt Nat _ hA dA ∧ @LT.lt Nat _ x1 dA ∧ @LT.lt Nat _ x2 dA ∧ @LT.lt Nat _ (L + 1) dA ∧ @LT.lt Nat _ (L + 1 + 1) dA ∧ AllLt dA rest) (l5 : @LT.lt Nat _ x1 hA ∧ @LT.lt Nat _ x2 hA ∧ @LT.lt Nat _ (L + 1) hA ∧ @LT.lt Nat _ (L + 1 + 1) hA ∧ AllLt hA rest)
    (sub8 : ∀ q ∈ fixed, q ∈ rest) (rit8 : NoRit rest) (in8 : (la, o8) ∈ rest) (in9 : (30, o9) ∈ rest) (back8 : ∀ h₁ L₁ h', News h₁ L₁ h' rest → Book h₁ L₁ h' fixed la (traceE seed pp e (saltE id ext) 0 1 oct)) (G8 : AllBare s.gens)
    (hr12 : IsRange s.heap r 0 4 1 rt ru rv) (he0 : 0 ≤ e) (he1 : e < 16) (hi0 : 0 ≤ id) (hi1 : id < 32768) (hpp : pp.size ≤ 4) (hoct : oct.size ≤ 20) (hev : ((oct.size : Nat) : Int).fmod 2 = 0) (hP : PlainOk seed pp e (saltE id ext) oct)
    (hQ : ∀ s', wpAny (model PySem.Challenge.rw_jb0037_01.row.prog w) (callerA.deeper (envOfC (PySem.Str.ofString "law") lawScope L fa (.ref 97))) (execs (lawBody.drop 17) (envOfC (PySem.Str.ofString "law") lawScope L fa (.ref 97))) Q (fun _ _ => False) s' → Q' .next s')
    (hret : ∀ (h' : Heap) (g' : Array GenState) (tk' : Nat) (m' : PySem.Str → Option Value) (tr : List Asked), Fr base L h' m' → Book base L h' fixed la tr → AllBare g' → Q (.ret (.bool true)) { s with heap := h', gens := g', toks := tk' }) :
    wpAny (model PySem.Challenge.rw_jb0037_01.row.prog w) (callerA.deeper (envOfC (PySem.Str.ofString "law") lawScope L fa (.ref 97))) (pyIter (.ref r)) (ForOk PySem.Challenge.rw_jb0037_01.row.prog w (callerA.deeper (envOfC (PySem.Str.ofString "law") lawScope L fa (.ref 97))) (envOfC (PySem.Str.ofString "law") lawScope L fa (.ref 97)) (PySem.Str.ofString "turn") loopBody Q' (fun _ _ => False)) (fun _ _ => False) s := by
  have hh0 : 0 ≤ ((oct.size : Nat) : Int).fdiv 2 := by rw [Int.fdiv_eq_ediv_of_nonneg _ (by decide)]; omega
  have hh1 : ((oct.size : Nat) : Int).fdiv 2 ≤ 10 := by rw [Int.fdiv_eq_ediv_of_nonneg _ (by decide)]; omega
  have E1 := Fr.say (x := PySem.Str.ofString "passphrase") F12 rfl
  have E2 := Fr.say (x := PySem.Str.ofString "exponent") E1 rfl
  have E3 := Fr.say (x := PySem.Str.ofString "half") E2 rfl
  have E4 := Fr.say (x := PySem.Str.ofString "salt") E3 rfl
  have E5 := Fr.say (x := PySem.Str.ofString "halves") E4 rfl
  have E6 := Fr.say (x := PySem.Str.ofString "due") E5 rfl
  clear E1 E2 E3 E4 E5
  have hrk : NoRit ((x1, KFB.bound) :: (x2, KFB.bound) :: (L + 1, oca) :: (L + 1 + 1, ocm) :: rest) := fun q hq => by
    rcases List.mem_cons.mp hq with rfl | hq
    · exact noRit_cls (show Value.type "builtin_function_or_method" ≠ .type "range_iterator" by decide)
    rcases List.mem_cons.mp hq with rfl | hq
    · exact noRit_cls (show Value.type "builtin_function_or_method" ≠ .type "range_iterator" by decide)
    rcases List.mem_cons.mp hq with rfl | hq
    · exact hrit _ ha
    rcases List.mem_cons.mp hq with rfl | hq
    · exact hrit _ hm
    · exact rit8 _ hq
  refine law_loop MC B C E6 X T N12 (fun q hq => .tail _ (.tail _ (.tail _ (.tail _ (sub8 q (hsubm q hq)))))) hfnm (.tail _ (.tail _ (.tail _ (.head _)))) hcm hrk l6.1 (keep_ne l6.2) (keep_ne l5) hr12 he0 he1 hpp (saltE_size _ _) hh0 hh1 ?_
  intro h' tk' u vs refs m1 m2 ats F13 N13 hI13 hno13 hat13
  refine hQ _ ?_
  clear E6 F12 N12
  obtain ⟨P1, q1, q2, q3, q4⟩ := hP
  obtain ⟨k0, k1, k2, k3, hk⟩ := askL_four seed pp e (saltE id ext) (((oct.size : Nat) : Int).fdiv 2) ((valE (takeE oct (halfE oct)) : Nat) : Int) ((valE (dropE oct (halfE oct)) : Nat) : Int)
  rw [hk] at hno13 P1
  rw [P1] at q3 back8
  rw [hvL_six] at hI13
  obtain ⟨D0, D1, D2, D3, a0, a1, a2, a3, b0, b1, b2, b3, c0, c1, c2, c3, d0, d1, d2, d3, rfl, g0, g1, g2, g3⟩ := hno13.four
  obtain ⟨y0, y1, y2, y3, y4, y5, rfl⟩ := ints_six hI13
  have inA : ∀ q ∈ ats, q ∈ (dA, listOf #[.ref D0, .ref D1, .ref D2, .ref D3] m1) :: (hA, listOf #[.int ((valE (takeE oct (halfE oct)) : Nat) : Int) y0, .int ((valE (dropE oct (halfE oct)) : Nat) : Int) y1, .int (hvE seed pp e (saltE id ext) (((oct.size : Nat) : Int).fdiv 2) ((valE (takeE oct (halfE oct)) : Nat) : Int) ((valE (dropE oct (halfE oct)) : Nat) : Int) 1).2 y2, .int (hvE seed pp e (saltE id ext) (((oct.size : Nat) : Int).fdiv 2) ((valE (takeE oct (halfE oct)) : Nat) : Int) ((valE (dropE oct (halfE oct)) : Nat) : Int) 2).2 y3, .int (hvE seed pp e (saltE id ext) (((oct.size : Nat) : Int).fdiv 2) ((valE (takeE oct (halfE oct)) : Nat) : Int) ((valE (dropE oct (halfE oct)) : Nat) : Int) 3).2 y4, .int (hvE seed pp e (saltE id ext) (((oct.size : Nat) : Int).fdiv 2) ((valE (takeE oct (halfE oct)) : Nat) : Int) ((valE (dropE oct (halfE oct)) : Nat) : Int) 4).2 y5] m2) :: (ats ++ ((x1, KFB.bound) :: (x2, KFB.bound) :: (L + 1, oca) :: (L + 1 + 1, ocm) :: rest)) := fun q hq => .tail _ (.tail _ (List.mem_append_left _ hq))
  have B13 := back8 base L h' fun q hq => N13 q (.tail _ (.tail _ (List.mem_append_right _ (.tail _ (.tail _ (.tail _ (.tail _ hq)))))))
  have nH := N13 _ (.tail _ (.head _))
  have nD := N13 _ (.head _)
  have z0 := N13 _ (inA _ g0)
  have z1 := N13 _ (inA _ g1)
  have z2 := N13 _ (inA _ g2)
  have z3 := N13 _ (inA _ g3)
  have B14 := ((((((B13.add nH.1 nH.2.1 nH.2.2 (Nat.ne_of_gt (lt_of_all l5.2.2.2.2 _ in8)) (Nat.ne_of_gt (lt_of_all l5.2.2.2.2 _ in9))).add nD.1 nD.2.1 nD.2.2 (Nat.ne_of_gt (lt_of_all l6.2.2.2.2.2 _ in8)) (Nat.ne_of_gt (lt_of_all l6.2.2.2.2.2 _ in9))).addNote z0.1 z0.2.1 z0.2.2).addNote z1.1 z1.2.1 z1.2.2).addNote z2.1 z2.2.1 z2.2.2).addNote z3.1 z3.2.1 z3.2.2)
  have E1 := Fr.say (x := PySem.Str.ofString "octets") F13 rfl
  have E2 := Fr.say (x := PySem.Str.ofString "passphrase") E1 rfl
  have E3 := Fr.say (x := PySem.Str.ofString "exponent") E2 rfl
  have E4 := Fr.say (x := PySem.Str.ofString "identifier") E3 rfl
  have E5 := Fr.say (x := PySem.Str.ofString "extendable") E4 rfl
  have E6 := Fr.say (x := PySem.Str.ofString "kdf") E5 rfl
  have E7 := Fr.say (x := PySem.Str.ofString "sealed") E6 rfl
  have E8 := Fr.say (x := PySem.Str.ofString "half") E7 rfl
  have E9 := Fr.say (x := PySem.Str.ofString "halves") E8 rfl
  have E10 := Fr.say (x := PySem.Str.ofString "due") E9 rfl
  clear E1 E2 E3 E4 E5 E6 E7 E8 E9 F13
  refine cmp_tail KC hfn ?rit B C E10 X T (fun q hq => .tail _ (.tail _ (.tail _ (.tail _ (.tail _ (.tail _ (hsub q hq))))))) (.tail _ (.tail _ (.tail _ (.tail _ (.tail _ (.tail _ ha)))))) hca (.tail _ (.tail _ (.tail _ (.tail _ (.head _))))) (.tail _ (.tail _ (.tail _ (.tail _ (.tail _ (.head _)))))) (.tail _ (.tail _ (.tail _ (.head _)))) (.tail _ (.tail _ (.head _))) (.tail _ (.head _)) (.head _) B14 G8 he0 he1 hi0 hi1 hpp hoct hev hh0 hh1 (feisE_size hev) q1 q2 q3 q4
    fun h'' g'' tk'' m'' tr F15 B15 G15 => hret h'' g'' tk'' m'' tr F15 B15.drop.drop.drop.drop.drop.drop G15
  case rit =>
    intro q hq
    rcases List.mem_cons.mp hq with rfl | hq
    · exact noRit_data fun _ e => by cases e
    rcases List.mem_cons.mp hq with rfl | hq
    · exact noRit_data fun _ e => by cases e
    rcases List.mem_cons.mp hq with rfl | hq
    · exact noRit_data fun _ e => by cases e
    rcases List.mem_cons.mp hq with rfl | hq
    · exact noRit_data fun _ e => by cases e
    rcases List.mem_cons.mp hq with rfl | hq
    · exact noRit_data fun _ e => by cases e
    rcases List.mem_cons.mp hq with rfl | hq
    · exact noRit_data fun _ e => by cases e
    · exact hrit q hq
end
end
local macro_rules | `(tactic| walk_at "no such key") => `(tactic| fail)
/- C12 -/
section
open PySem PySem.W PyProof.Rows
set_option maxRecDepth 100000
set_option maxHeartbeats 4000000
set_option linter.unusedVariables false
theorem quietC12 : True := by w_top off; exact trivial
def SaltPost (h₀ : Heap) (L : Addr) (m : PySem.Str → Option Value) (news : List (Addr × Obj)) (v : Array UInt8) (s : Shared) (f : Flow) (s' : Shared) : Prop :=
  f = .next ∧ ∃ t h' tk', s' = { s with heap := h', toks := tk' } ∧ Fr h₀ L h' (fun y => if y = PySem.Str.ofString "salt" then some (.bytes v t) else m y) ∧ News h₀ L h' news
theorem salt_mid {M : Model} {A : Around} {E : Value → Shared → Prop} {t : Sem Flow} {h₀ : Heap} {L : Addr} {m : PySem.Str → Option Value} {news : List (Addr × Obj)} {s : Shared} {Q : Flow → Shared → Prop} (v : Array UInt8) (F : Fr h₀ L s.heap m) (N : News h₀ L s.heap news)
    (key : wpAny M A t (SaltPost h₀ L m news v s) E s) (h : ∀ t h' tk', Fr h₀ L h' (fun y => if y = PySem.Str.ofString "salt" then some (.bytes v t) else m y) → News h₀ L h' news → Q .next { s with heap := h', toks := tk' }) : wpAny M A t Q E s := by
  refine wpAny_mono key ?_ fun _ _ x => x
  rintro f s' ⟨rfl, t, h', tk', rfl, F', N'⟩
  exact h t h' tk' F' N'
section
variable {w : World} {base : Heap} {L fa : Addr} {m₀ : PySem.Str → Option Value} {s : Shared} {Q : Flow → Shared → Prop}
  {p : Program} {loose : List PySem.Str} {mean : ExcName → Option Value} {mg mb : PySem.Str → Option Value} {fixed₀ fixedm fixed : List (Addr × Obj)} {fk fm la : Addr} {seed : Int} {oca ocm : Obj}
local macro_rules | `(tactic| ktr_rel) => `(tactic| ((try simp only [Array.size_append, takeE_size, dropE_size, octE_size, bigE_size, byteArr_size, List.size_toArray, List.length_cons, List.length_nil]); first | omega | l_fact))
local macro_rules | `(tactic| walk_at "binaryOp Add bytes bytes") => `(tactic| (k_here; k_dflt (refine add_bb (by ktr_rel) ?_); intro _ _))
local macro_rules | `(tactic| walk_at "call builtin:len") => `(tactic| (k_here; (with_reducible show wpAny _ _ (call (Value.builtin "len") [Value.bytes _ _]) _ _ _); (refine len_b (by ktr_rel) ?_)))
local macro_rules | `(tactic| walk_at "subscriptTail") => `(tactic| (k_here; (with_reducible show wpAny _ _ (subscriptTail _ (Expr.Slice _ _ none _) (Value.bytes _ _) (Value.ref _)) _ _ _); (with_reducible rename Fr _ _ _ _ => F'); (with_reducible rename News _ _ _ _ => N'); (first | refine slice_to (s := ⟨_, _, _, _, _⟩) F' N' (by first | omega | l_fact) (by ktr_rel) ?_ | refine slice_from (s := ⟨_, _, _, _, _⟩) F' N' (by first | omega | l_fact) (by ktr_rel) ?_); intro _ _ _ _ _))
local macro_rules | `(tactic| walk_at "call ref") => `(tactic| (k_here; (with_reducible show wpAny _ _ (call (Value.ref 77) [Value.int _ _, Value.int _ _]) _ _ _); k_dflt (refine' oct_con ?B ?F ?X ?N ?T ?kk ?h0 ?h1 ?hd ?hu ?_; (case B => k_asm); (case F => k_asm); (case X => k_asm); (case N => k_asm); (case T => k_asm); (case kk => first | exact rfl | assumption); (case h0 => first | omega | l_fact); (case h1 => first | omega | l_fact); (case hd => ktr_room); (case hu => ktr_units)); intro t9 h9 tk9 F9 N9; (try dsimp only); (try k_fold)))
local macro_rules | `(tactic| walk_at "call ref") => `(tactic| (k_here; (with_reducible show wpAny _ _ (call (Value.ref _) [Value.bytes _ _, Value.str _ _]) _ _ _); k_dflt (refine from_big (by k_asm) (by k_mem) (by ktr_rel) ?_); intro _ _))
local macro_rules | `(tactic| walk_at "call ref") => `(tactic| (k_here; (with_reducible show wpAny _ _ (call (Value.ref 84) _) _ _ _); refine halt ?_))
local macro_rules | `(tactic| walk_at "call ref") => `(tactic| (k_here; (with_reducible show wpAny _ _ (call (Value.ref 91) _) _ _ _); refine halt ?_))
local macro_rules | `(tactic| walk_at "exec For Name Call cons nil") => `(tactic| (k_here; (with_unfolding_all refine my_for ?_)))

local macro_rules | `(tactic| walk_at "exec Assign") => `(tactic| (k_here; (with_reducible rename Halt True => hStop); (with_reducible show wpAny _ _ (exec (Stmt.Assign [Expr.Name _ _] (Expr.IfExp _ _ _ _) _) _) _ _ _); refine halt ?_))
local macro_rules | `(tactic| walk_at "newList") => `(tactic| (k_here; k_dflt (refine' newList_K ?k1 ?k2 ?_ ?kz; (case k1 => k_asm); (case k2 => k_asm); (case kz => exact Nat.le_of_ble_eq_true rfl); k_whole); intro l' h' F' N' l1; (try k_lt l1)))
theorem octE_in {id : Int} (h0 : 0 ≤ id) (h1 : id < 32768) : octE id (Int.toNat 2) = bigE 2 id.toNat := by
  show bigE 2 (id.fmod (256 ^ 2)).toNat = _
  rw [Int.fmod_eq_emod_of_nonneg _ (by decide), Int.emod_eq_of_lt h0 (by omega)]
theorem even_tail {oct pp : Array UInt8} {e id : Int} {ext : Bool} {ti te tp to ts : Tok} (KC : KdfCon w p loose mean mg mb fixed₀ fk la seed) (MC : MaskCon w p loose mean mg mb fixedm fm seed) (hfn : FnIn fk fixed₀) (hrit : NoRit fixed)
    (B : Below callerA base [] base) (C : CodeHd base 34 30) (F : Fr base L s.heap (lawMap m₀ fk ext id e pp oct ti te tp to ts)) (X : (hd.heap_39 w.params).In base) (T : Top p loose mean mg mb base)
    (hsub : ∀ q ∈ fixed₀, q ∈ fixed) (hsubm : ∀ q ∈ fixedm, q ∈ fixed) (ha : (L + 1, oca) ∈ fixed) (hm : (L + 1 + 1, ocm) ∈ fixed) (hca : oca.data = .cell (some (.ref la))) (hcm : ocm.data = .cell (some (.ref fm)))
    (hB : Book base L s.heap fixed la []) (G : AllBare s.gens) (he0 : 0 ≤ e) (he1 : e < 16) (hi0 : 0 ≤ id) (hi1 : id < 32768) (hpp : pp.size ≤ 4) (hoct : oct.size ≤ 20) (hev : ((oct.size : Nat) : Int).fmod 2 = 0)
    (hfnm : FnIn fm fixedm)
    (hP : PlainOk seed pp e (saltE id ext) oct)
    (hret : ∀ (h' : Heap) (g' : Array GenState) (tk' : Nat) (m' : PySem.Str → Option Value) (tr : List Asked), Fr base L h' m' → Book base L h' fixed la tr → AllBare g' → Q (.ret (.bool true)) { s with heap := h', gens := g', toks := tk' }) :
    wpAny (model PySem.Challenge.rw_jb0037_01.row.prog w) (callerA.deeper (envOfC (PySem.Str.ofString "law") lawScope L fa (.ref 97))) (execs (lawBody.drop 10) (envOfC (PySem.Str.ofString "law") lawScope L fa (.ref 97))) Q (fun _ _ => False) s := by
  obtain ⟨sc, hsc⟩ : ∃ sc, sc = lawScope := ⟨_, rfl⟩
  obtain ⟨b, hb⟩ : ∃ b, b = lawBody.drop 10 := ⟨_, rfl⟩
  rw [← hsc, ← hb]
  conv at hsc => rhs; whnf
  conv at hb => rhs; whnf
  subst hsc hb
  obtain ⟨rest, N₀, back⟩ := hB.lay
  have N : News base L s.heap ((L + 1, oca) :: (L + 1 + 1, ocm) :: rest) := fun q hq => by
    rcases List.mem_cons.mp hq with rfl | hq
    · exact hB.mem ha
    · rcases List.mem_cons.mp hq with rfl | hq
      · exact hB.mem hm
      · exact N₀ _ hq
  clear N₀
  revert X; k_fill; intro X
  k_steps
  unfold Halt
  refine seal_even KC hfn hrit B C F X T rfl hsub hB G (by decide) he0 he1 hi0 hi1 (by omega) (by omega) hev (by ktr_room) (by ktr_units) fun t8 h8 g8 tk8 F8 B8 G8 => ?_
  rw [List.nil_append] at B8
  clear N back hB
  obtain ⟨rest8, N₀, sub8, rit8, ⟨o8, in8⟩, ⟨o9, in9⟩, back8⟩ := B8.lay2 hrit
  have N8 : News base L h8 ((L + 1, oca) :: (L + 1 + 1, ocm) :: rest8) := fun q hq => by
    rcases List.mem_cons.mp hq with rfl | hq
    · exact B8.mem ha
    · rcases List.mem_cons.mp hq with rfl | hq
      · exact B8.mem hm
      · exact N₀ _ hq
  clear N₀
  have hev2 : (((oct.size : Nat) : Int).fmod 2 != 0) = false := by rw [hev]; rfl
  have hStop : Halt True := True.intro
  try dsimp only
  k_steps
  unfold Halt
  rename Halt True => hStop
  clear hStop
  rename Fr _ _ _ _ => F9
  rename News _ _ _ _ => N9
  refine salt_mid (saltE id ext) F9 N9 ?_ fun t9 h9 tk9 F10 N10 => ?_
  · clear B8 back8
    cases ext
    · k_steps
      rename Fr _ _ _ _ => F11
      rw [octE_in hi0 hi1] at F11
      exact ⟨rfl, _, _, _, rfl, F11, by assumption⟩
    · k_steps
      exact ⟨rfl, _, _, _, rfl, by assumption, by assumption⟩
  clear F9 N9
  k_steps
  rename IsRange _ _ _ _ _ _ _ _ => hr12
  rename Fr _ _ _ _ => F12
  rename News _ _ _ _ => N12
  exact even_rest KC MC hfn hrit B C F12 X T hsub hsubm hfnm ha hm hca hcm N12 (by assumption) (by assumption) sub8 rit8 in8 in9 back8 G8 hr12 he0 he1 hi0 hi1 hpp hoct hev hP (fun _ h => h) hret
end
end
local macro_rules | `(tactic| walk_at "no such key") => `(tactic| fail)
local macro_rules | `(tactic| walk_at "no such key") => `(tactic| fail)
local macro_rules | `(tactic| walk_at "no such key") => `(tactic| fail)
local macro_rules | `(tactic| walk_at "no such key") => `(tactic| fail)
local macro_rules | `(tactic| walk_at "no such key") => `(tactic| fail)
local macro_rules | `(tactic| walk_at "no such key") => `(tactic| fail)
local macro_rules | `(tactic| walk_at "no such key") => `(tactic| fail)
local macro_rules | `(tactic| walk_at "no such key") => `(tactic| fail)
local macro_rules | `(tactic| walk_at "no such key") => `(tactic| fail)
local macro_rules | `(tactic| walk_at "no such key") => `(tactic| fail)
local macro_rules | `(tactic| walk_at "no such key") => `(tactic| fail)
/- C16 -/
section
open PySem PySem.W PyProof.Rows
set_option maxRecDepth 100000
set_option maxHeartbeats 4000000
set_option linter.unusedVariables false
theorem quietC16 : True := by w_top off; exact trivial
section
variable {w : World} {base : Heap} {L fa : Addr} {m₀ : PySem.Str → Option Value} {s : Shared} {Q : Flow → Shared → Prop}
  {p : Program} {loose : List PySem.Str} {mean : ExcName → Option Value} {mg mb : PySem.Str → Option Value} {fixed₀ fixedm fixed : List (Addr × Obj)} {fk fm la : Addr} {seed : Int} {oca ocm : Obj}
local macro_rules | `(tactic| ktr_rel) => `(tactic| ((try simp only [Array.size_append, takeE_size, dropE_size, octE_size, bigE_size, byteArr_size, List.size_toArray, List.length_cons, List.length_nil]); first | omega | l_fact))
local macro_rules | `(tactic| walk_at "binaryOp Add bytes bytes") => `(tactic| (k_here; k_dflt (refine add_bb (by ktr_rel) ?_); intro _ _))
local macro_rules | `(tactic| walk_at "call builtin:len") => `(tactic| (k_here; (with_reducible show wpAny _ _ (call (Value.builtin "len") [Value.bytes _ _]) _ _ _); (refine len_b (by ktr_rel) ?_)))
local macro_rules | `(tactic| walk_at "subscriptTail") => `(tactic| (k_here; (with_reducible show wpAny _ _ (subscriptTail _ (Expr.Slice _ _ none _) (Value.bytes _ _) (Value.ref _)) _ _ _); (with_reducible rename Fr _ _ _ _ => F'); (with_reducible rename News _ _ _ _ => N'); (first | refine slice_to (s := ⟨_, _, _, _, _⟩) F' N' (by first | omega | l_fact) (by ktr_rel) ?_ | refine slice_from (s := ⟨_, _, _, _, _⟩) F' N' (by first | omega | l_fact) (by ktr_rel) ?_); intro _ _ _ _ _))
local macro_rules | `(tactic| walk_at "call ref") => `(tactic| (k_here; (with_reducible show wpAny _ _ (call (Value.ref 77) [Value.int _ _, Value.int _ _]) _ _ _); k_dflt (refine' oct_con ?B ?F ?X ?N ?T ?kk ?h0 ?h1 ?hd ?hu ?_; (case B => k_asm); (case F => k_asm); (case X => k_asm); (case N => k_asm); (case T => k_asm); (case kk => first | exact rfl | assumption); (case h0 => first | omega | l_fact); (case h1 => first | omega | l_fact); (case hd => ktr_room); (case hu => ktr_units)); intro t9 h9 tk9 F9 N9; (try dsimp only); (try k_fold)))
local macro_rules | `(tactic| walk_at "call ref") => `(tactic| (k_here; (with_reducible show wpAny _ _ (call (Value.ref _) [Value.bytes _ _, Value.str _ _]) _ _ _); k_dflt (refine from_big (by k_asm) (by k_mem) (by ktr_rel) ?_); intro _ _))
local macro_rules | `(tactic| walk_at "call ref") => `(tactic| (k_here; (with_reducible show wpAny _ _ (call (Value.ref 84) _) _ _ _); refine halt ?_))
local macro_rules | `(tactic| walk_at "call ref") => `(tactic| (k_here; (with_reducible show wpAny _ _ (call (Value.ref 91) _) _ _ _); refine halt ?_))

local macro_rules | `(tactic| walk_at "newList") => `(tactic| (k_here; k_dflt (refine' newList_K ?k1 ?k2 ?_ ?kz; (case k1 => k_asm); (case k2 => k_asm); (case kz => exact Nat.le_of_ble_eq_true rfl); k_whole); intro l' h' F' N' l1; (try k_lt l1)))
theorem odd_tail {oct pp : Array UInt8} {e id : Int} {ext : Bool} {ti te tp to ts : Tok} (hfn : FnIn fk fixed)
    (B : Below callerA base [] base) (C : CodeHd base 34 30) (F : Fr base L s.heap (lawMap m₀ fk ext id e pp oct ti te tp to ts)) (X : (hd.heap_39 w.params).In base) (T : Top p loose mean mg mb base)
    (ha : (L + 1, oca) ∈ fixed) (hca : oca.data = .cell (some (.ref la)))
    (hB : Book base L s.heap fixed la []) (hoct : oct.size ≤ 20) (hod : (((oct.size : Nat) : Int).fmod 2 != 0) = true)
    (hret : ∀ (h' : Heap) (tk' : Nat) (m' : PySem.Str → Option Value) (tr : List Asked), Fr base L h' m' → Book base L h' fixed la tr → Q (.ret (.bool true)) { s with heap := h', toks := tk' }) :
    wpAny (model PySem.Challenge.rw_jb0037_01.row.prog w) (callerA.deeper (envOfC (PySem.Str.ofString "law") lawScope L fa (.ref 97))) (execs (lawBody.drop 10) (envOfC (PySem.Str.ofString "law") lawScope L fa (.ref 97))) Q (fun _ _ => False) s := by
  obtain ⟨sc, hsc⟩ : ∃ sc, sc = lawScope := ⟨_, rfl⟩
  obtain ⟨b, hb⟩ : ∃ b, b = lawBody.drop 10 := ⟨_, rfl⟩
  rw [← hsc, ← hb]
  conv at hsc => rhs; whnf
  conv at hb => rhs; whnf
  subst hsc hb
  have hca' := hB.mem ha
  obtain ⟨ps, refs, n, tups, N₀, htr, hno, hne, hne2⟩ := hB
  have hrefs : refs = [] := by
    have := hno.length
    exact List.length_eq_zero_iff.mp this
  subst hrefs
  have N : News base L s.heap ((L + 1, oca) :: (la, listOf #[] n) :: ((30, tabObj ps) :: (fixed ++ tups))) := fun q hq => by
    rcases List.mem_cons.mp hq with rfl | hq
    · exact hca'
    · exact N₀ _ hq
  generalize hrest : ((30, tabObj ps) :: (fixed ++ tups) : List (Addr × Obj)) = rest at N
  clear N₀
  revert X; k_fill; intro X
  k_steps
  unfold Halt
  refine seal_odd B F X N T rfl X T (by omega) hod (by ktr_room) (by ktr_units) fun t8 h8 tk8 F8 N8 => ?_
  clear N
  try dsimp only
  k_steps
  unfold Halt
  rename News _ _ _ _ => N9
  refine open_odd B (by assumption) X N9 T rfl X T (by omega) hod (by ktr_room) (by ktr_units) fun t10 h10 tk10 F10 N10 => ?_
  clear N9
  try dsimp only
  k_steps
  rename News _ _ _ _ => N11
  rename Fr _ _ _ _ => F11
  exact hret _ _ _ [] F11 ⟨ps, [], n, tups, fun q hq => N11 q (.tail _ (.tail _ (by rw [hrest] at hq; exact hq))), htr, hno, hne, hne2⟩
end
end
local macro_rules | `(tactic| walk_at "no such key") => `(tactic| fail)
local macro_rules | `(tactic| walk_at "no such key") => `(tactic| fail)
local macro_rules | `(tactic| walk_at "no such key") => `(tactic| fail)
local macro_rules | `(tactic| walk_at "no such key") => `(tactic| fail)
local macro_rules | `(tactic| walk_at "no such key") => `(tactic| fail)
local macro_rules | `(tactic| walk_at "no such key") => `(tactic| fail)
local macro_rules | `(tactic| walk_at "no such key") => `(tactic| fail)
local macro_rules | `(tactic| walk_at "no such key") => `(tactic| fail)
local macro_rules | `(tactic| walk_at "no such key") => `(tactic| fail)
/- P1 -/
section
open PySem PySem.W PyProof.Rows
set_option maxRecDepth 100000
set_option maxHeartbeats 1000000
set_option linter.unusedVariables false
theorem quietP1 : True := by w_top off; exact trivial
/-! ## the plain law -/
theorem xor_step {a b c d : Nat} (hc : c < 256) (hd : d < 256) : (a * 256 + c) ^^^ (b * 256 + d) = (a ^^^ b) * 256 + (c ^^^ d) := by
  have hx : c ^^^ d < 2 ^ 8 := Nat.xor_lt_two_pow (n := 8) (by omega) (by omega)
  have ea : a * 256 + c = 2 ^ 8 * a + c := by omega
  have eb : b * 256 + d = 2 ^ 8 * b + d := by omega
  have ex : (a ^^^ b) * 256 + (c ^^^ d) = 2 ^ 8 * (a ^^^ b) + (c ^^^ d) := by omega
  rw [ea, eb, ex]
  apply Nat.eq_of_testBit_eq
  intro j
  rw [Nat.testBit_xor, Nat.testBit_two_pow_mul_add a (b := c) (i := 8) (by omega), Nat.testBit_two_pow_mul_add b (b := d) (i := 8) (by omega), Nat.testBit_two_pow_mul_add _ hx]
  split
  · rw [Nat.testBit_xor]
  · rw [Nat.testBit_xor]
theorem fold_xor : ∀ (x z : List UInt8) (a b : Nat), x.length = z.length →
    (List.zipWith (fun p q => p ^^^ q) x z).foldl (fun a c => a * 256 + c.toNat) (a ^^^ b) = x.foldl (fun a c => a * 256 + c.toNat) a ^^^ z.foldl (fun a c => a * 256 + c.toNat) b
  | [], [], _, _, _ => rfl
  | p :: x, q :: z, a, b, h => by
    simp only [List.zipWith_cons_cons, List.foldl_cons]
    have e : (a ^^^ b) * 256 + (p ^^^ q).toNat = (a * 256 + p.toNat) ^^^ (b * 256 + q.toNat) := by
      rw [xor_step p.toNat_lt q.toNat_lt, UInt8.toNat_xor]
    rw [e]
    exact fold_xor x z _ _ (by simpa using h)
  | [], _ :: _, _, _, h => by simp at h
  | _ :: _, [], _, _, h => by simp at h
theorem xorE_list (x z : Array UInt8) : (xorE x z).toList = List.zipWith (fun p q => p ^^^ q) x.toList z.toList := by
  unfold xorE byteArr zipInts
  rw [List.map_zipWith]
  have h : (fun p q : UInt8 => (Builtin.bitXor ((p.toNat : Nat) : Int) ((q.toNat : Nat) : Int)).toNat.toUInt8) = fun p q => p ^^^ q := by
    funext p q
    rw [bitXor_nat, Int.toNat_natCast, ← UInt8.toNat_xor]
    exact UInt8.ofNat_toNat
  rw [h]
theorem valE_xor {x z : Array UInt8} (h : x.size = z.size) : valE (xorE x z) = valE x ^^^ valE z := by
  unfold valE valL
  rw [xorE_list]
  have := fold_xor x.toList z.toList 0 0 (by simpa using h)
  rw [Nat.xor_self] at this
  exact this
theorem zip_cancel : ∀ (x z : List UInt8), x.length = z.length → List.zipWith (fun p q => p ^^^ q) (List.zipWith (fun p q => p ^^^ q) x z) z = x
  | [], [], _ => rfl
  | p :: x, q :: z, h => by
    simp only [List.zipWith_cons_cons]
    rw [zip_cancel x z (by simpa using h), UInt8.xor_assoc, UInt8.xor_self, UInt8.xor_zero]
  | [], _ :: _, h => by simp at h
  | _ :: _, [], h => by simp at h
theorem xorE_cancel {x z : Array UInt8} (h : x.size = z.size) : xorE (xorE x z) z = x := by
  apply Array.toList_inj.mp
  rw [xorE_list, xorE_list]
  exact zip_cancel _ _ (by simpa using h)
theorem bigL_rev : ∀ (r : List UInt8), bigL r.length (valL r.reverse) = r.reverse
  | [] => rfl
  | c :: r => by
    have ih := bigL_rev r
    have e1 : valL (r.reverse ++ [c]) = valL r.reverse * 256 + c.toNat := by
      unfold valL
      rw [List.foldl_append]; rfl
    have hc := c.toNat_lt
    rw [List.reverse_cons, e1]
    show bigL r.length ((valL r.reverse * 256 + c.toNat) / 256) ++ [((valL r.reverse * 256 + c.toNat) % 256).toUInt8] = r.reverse ++ [c]
    have e2 : (valL r.reverse * 256 + c.toNat) / 256 = valL r.reverse := by omega
    have e3 : (valL r.reverse * 256 + c.toNat) % 256 = c.toNat := by omega
    rw [e2, e3, ih]
    congr 2
    exact UInt8.ofNat_toNat
theorem bigL_val (l : List UInt8) : bigL l.length (valL l) = l := by
  have h := bigL_rev l.reverse
  rw [List.reverse_reverse, List.length_reverse] at h
  exact h
theorem octE_val (r : Array UInt8) : octE ((valE r : Nat) : Int) r.size = r := by
  have hlt := valE_lt r
  have hp : ((256 : Int) ^ r.size) = ((256 ^ r.size : Nat) : Int) := by rw [Int.natCast_pow]; rfl
  unfold octE
  rw [Int.fmod_eq_emod_of_nonneg _ (by rw [hp]; omega), hp, ← Int.natCast_emod, Int.toNat_natCast, Nat.mod_eq_of_lt hlt]
  unfold bigE valE
  rw [← Array.length_toList, bigL_val]

section
variable (seed : Int) (pp : Array UInt8) (e : Int) (salt : Array UInt8)
/-- the rounds backward -/
theorem back_rnds {a c a' c' : Int} {l r : Array UInt8} {k : Nat} (hl : l.size = k) (hr : r.size = k) (hord : ∀ n : Nat, n < 4 → a' + (n : Int) * c' = a + ((3 - n : Nat) : Int) * c) : ∀ n : Nat, n ≤ 4 →
    rndsE seed pp e salt a' c' (rndsE seed pp e salt a c l r 4).2 (rndsE seed pp e salt a c l r 4).1 n = ((rndsE seed pp e salt a c l r (4 - n)).2, (rndsE seed pp e salt a c l r (4 - n)).1)
  | 0, _ => rfl
  | n + 1, h => by
    have ih := back_rnds hl hr hord n (by omega)
    have hm : 4 - n = (3 - n) + 1 := by omega
    have hn : 4 - (n + 1) = 3 - n := by omega
    have hz := rndsE_size seed pp e salt a c hl hr (3 - n)
    rw [rndsE, ih, hord n (by omega), hm, hn]
    show ((rndsE seed pp e salt a c l r (3 - n)).2, xorE (xorE (rndsE seed pp e salt a c l r (3 - n)).1 (maskE seed (askE (a + ((3 - n : Nat) : Int) * c) pp e salt (rndsE seed pp e salt a c l r (3 - n)).2))) (maskE seed (askE (a + ((3 - n : Nat) : Int) * c) pp e salt (rndsE seed pp e salt a c l r (3 - n)).2))) = _
    rw [xorE_cancel]
    rw [maskE_size, hz.1]
    show k = (((rndsE seed pp e salt a c l r (3 - n)).2.size : Nat) : Int).toNat
    rw [hz.2, Int.toNat_natCast]
theorem asks_four (a c : Int) (l r : Array UInt8) : asksE seed pp e salt a c l r 4 = [askE (a + ((0 : Nat) : Int) * c) pp e salt (rndsE seed pp e salt a c l r 0).2, askE (a + ((1 : Nat) : Int) * c) pp e salt (rndsE seed pp e salt a c l r 1).2, askE (a + ((2 : Nat) : Int) * c) pp e salt (rndsE seed pp e salt a c l r 2).2, askE (a + ((3 : Nat) : Int) * c) pp e salt (rndsE seed pp e salt a c l r 3).2] := rfl
theorem back_asks {a c a' c' : Int} {l r : Array UInt8} {k : Nat} (hl : l.size = k) (hr : r.size = k) (hord : ∀ n : Nat, n < 4 → a' + (n : Int) * c' = a + ((3 - n : Nat) : Int) * c) :
    asksE seed pp e salt a' c' (rndsE seed pp e salt a c l r 4).2 (rndsE seed pp e salt a c l r 4).1 4 = (asksE seed pp e salt a c l r 4).reverse := by
  have h := back_rnds seed pp e salt hl hr hord
  rw [asks_four, asks_four, h 0 (by omega), h 1 (by omega), h 2 (by omega), h 3 (by omega), hord 0 (by omega), hord 1 (by omega), hord 2 (by omega), hord 3 (by omega)]
  rfl
theorem halves_of {l r : Array UInt8} {k : Nat} (hl : l.size = k) (hr : r.size = k) : takeE (l ++ r) (halfE (l ++ r)) = l ∧ dropE (l ++ r) (halfE (l ++ r)) = r := by
  have hk : halfE (l ++ r) = l.toList.length := by
    unfold halfE
    rw [Array.size_append, hl, hr, Int.fdiv_eq_ediv_of_nonneg _ (by decide), Array.length_toList, hl]
    omega
  constructor
  · apply Array.toList_inj.mp
    rw [hk]
    unfold takeE
    simp
  · apply Array.toList_inj.mp
    rw [hk]
    unfold dropE
    simp
theorem back_feis {a c a' c' : Int} {ms : Array UInt8} (hev : ((ms.size : Nat) : Int).fmod 2 = 0) (hord : ∀ n : Nat, n < 4 → a' + (n : Int) * c' = a + ((3 - n : Nat) : Int) * c) :
    feisE seed pp e salt a' c' (feisE seed pp e salt a c ms) = ms ∧ traceE seed pp e salt a' c' (feisE seed pp e salt a c ms) = (traceE seed pp e salt a c ms).reverse := by
  have hh := halfE_even hev
  have hl : (takeE ms (halfE ms)).size = halfE ms := by rw [takeE_size]; omega
  have hr : (dropE ms (halfE ms)).size = halfE ms := by rw [dropE_size]; omega
  have hz := rndsE_size seed pp e salt a c hl hr 4
  have hs := halves_of hz.2 hz.1
  have e1 : feisE seed pp e salt a c ms = (rndsE seed pp e salt a c (takeE ms (halfE ms)) (dropE ms (halfE ms)) 4).2 ++ (rndsE seed pp e salt a c (takeE ms (halfE ms)) (dropE ms (halfE ms)) 4).1 := rfl
  rw [e1]
  constructor
  · unfold feisE
    rw [hs.1, hs.2, back_rnds seed pp e salt hl hr hord 4 (Nat.le_refl _)]
    show takeE ms (halfE ms) ++ dropE ms (halfE ms) = ms
    apply Array.toList_inj.mp
    unfold takeE dropE
    simp
  · unfold traceE
    rw [hs.1, hs.2]
    exact back_asks seed pp e salt hl hr hord
/-- the halves as numbers -/
theorem hv_rnds {l r : Array UInt8} {k : Nat} (hl : l.size = k) (hr : r.size = k) : ∀ n : Nat, hvE seed pp e salt (k : Int) ((valE l : Nat) : Int) ((valE r : Nat) : Int) n = (((valE (rndsE seed pp e salt 0 1 l r n).1 : Nat) : Int), ((valE (rndsE seed pp e salt 0 1 l r n).2 : Nat) : Int)) ∧
      askH pp e salt (k : Int) (0 + (n : Int) * 1) (hvE seed pp e salt (k : Int) ((valE l : Nat) : Int) ((valE r : Nat) : Int) n).2 = askE (0 + (n : Int) * 1) pp e salt (rndsE seed pp e salt 0 1 l r n).2 := by
  have ask : ∀ (i : Int) (r : Array UInt8), r.size = k → askH pp e salt (k : Int) i ((valE r : Nat) : Int) = askE i pp e salt r := fun i r h => by
    unfold askH askE
    rw [Int.toNat_natCast, ← h, octE_val, ro_eq]
  intro n
  induction n with
  | zero => exact ⟨rfl, ask _ _ hr⟩
  | succ n ih =>
    have hz := rndsE_size seed pp e salt 0 1 hl hr n
    have hz' := rndsE_size seed pp e salt 0 1 hl hr (n + 1)
    have e1 : hvE seed pp e salt (k : Int) ((valE l : Nat) : Int) ((valE r : Nat) : Int) (n + 1) = (((valE (rndsE seed pp e salt 0 1 l r (n + 1)).1 : Nat) : Int), ((valE (rndsE seed pp e salt 0 1 l r (n + 1)).2 : Nat) : Int)) := by
      rw [hvE, ih.2, ih.1, bitXor_nat, ← valE_xor]
      · rfl
      · rw [maskE_size, hz.1]
        show k = (((rndsE seed pp e salt 0 1 l r n).2.size : Nat) : Int).toNat
        rw [hz.2, Int.toNat_natCast]
    refine ⟨e1, ?_⟩
    rw [e1]
    exact ask _ _ hz'.2
theorem plain_ok {oct : Array UInt8} (hev : ((oct.size : Nat) : Int).fmod 2 = 0) : PlainOk seed pp e salt oct := by
  have hh := halfE_even hev
  have hl : (takeE oct (halfE oct)).size = halfE oct := by rw [takeE_size]; omega
  have hr : (dropE oct (halfE oct)).size = halfE oct := by rw [dropE_size]; omega
  have hf : ((oct.size : Nat) : Int).fdiv 2 = ((halfE oct : Nat) : Int) := by
    unfold halfE
    rw [Int.fdiv_eq_ediv_of_nonneg _ (by decide)]
    omega
  have hv := hv_rnds seed pp e salt hl hr
  have z3 := rndsE_size seed pp e salt 0 1 hl hr 3
  have z4 := rndsE_size seed pp e salt 0 1 hl hr 4
  have o1 : ∀ n : Nat, n < 4 → (3 : Int) + (n : Int) * (-1) = 0 + ((3 - n : Nat) : Int) * 1 := fun n h => by omega
  have o2 : ∀ n : Nat, n < 4 → (0 : Int) + (n : Int) * 1 = 3 + ((3 - n : Nat) : Int) * (-1) := fun n h => by omega
  have b1 := back_feis seed pp e salt hev o1
  have b2 := back_feis seed pp e salt hev o2
  unfold PlainOk
  rw [hf]
  refine ⟨?_, ?_, b1.1, b1.2, b2.1⟩
  · unfold traceE
    rw [asks_four]
    show _ = [askH pp e salt _ (0 + ((0 : Nat) : Int) * 1) _, askH pp e salt _ (0 + ((1 : Nat) : Int) * 1) _, askH pp e salt _ (0 + ((2 : Nat) : Int) * 1) _, askH pp e salt _ (0 + ((3 : Nat) : Int) * 1) _]
    rw [(hv 0).2, (hv 1).2, (hv 2).2, (hv 3).2]
  · rw [(hv 4).1, (hv 3).1, Int.toNat_natCast]
    show _ = octE ((valE (rndsE seed pp e salt 0 1 _ _ 4).2 : Nat) : Int) _ ++ octE ((valE (rndsE seed pp e salt 0 1 _ _ 3).2 : Nat) : Int) _
    have e4 := octE_val (rndsE seed pp e salt 0 1 (takeE oct (halfE oct)) (dropE oct (halfE oct)) 4).2
    have e3 := octE_val (rndsE seed pp e salt 0 1 (takeE oct (halfE oct)) (dropE oct (halfE oct)) 3).2
    rw [z4.2] at e4
    rw [z3.2] at e3
    rw [e4, e3]
    rfl
end
end
local macro_rules | `(tactic| walk_at "no such key") => `(tactic| fail)
/- C17 -/
section
open PySem PySem.W PyProof.Rows
set_option maxRecDepth 100000
set_option maxHeartbeats 4000000
set_option linter.unusedVariables false
theorem quietC17 : True := by w_top off; exact trivial
theorem my_post {M : Model} {A : Around} {cd : Code} {s s₁ : Shared} {cw : ClaimW} {cl : PySem.Str → Option Addr} {mean : ExcName → Option Value} {args : List WData} {tabs : List (Addr × Addr)} (hT : TabsAt tabs s₁.heap) (hr : ∀ a x, cw.raises a x = false) (hp : cw.post args (.bool true) args = true)
    (h : codeAny M A cd (fun r s' => r = .ok (.ret (.bool true)) ∧ (∀ b o, (ghostOf s₁.heap tabs).get? b = some o → s'.heap.get? b = some o) ∧ s'.os = s₁.os ∧ AllBare s'.gens ∧ GrownAll tabs s'.heap) s) : codeAny M A cd (GoodWG cw cl mean args s₁) s := by
  refine codeAny_mono h fun r s' hs => ?_
  obtain ⟨rfl, hk, hos, hb, hg⟩ := hs
  have tab : ∀ b o, b ∈ tabs.map (·.2) → s₁.heap.get? b = some o → isCodeTable s₁.heap b ∧ o = tabObj #[] ∧ ∃ ps, s'.heap.get? b = some (tabObj ps) := by
    intro b o hm e
    obtain ⟨q, hq, rfl⟩ := List.mem_map.mp hm
    have hq2 := hT q hq
    have e2 := hq2.2
    rw [e] at e2
    exact ⟨(hq2.1.tab hq2.2).isCodeTable, Option.some.inj e2, hg.get q hq⟩
  refine ⟨.inl ⟨.bool true, .bool true, [], rfl, fun x => hr _ x, .bool true, hp, fun _ => ⟨List.nodup_nil, fun a ha => nomatch ha⟩⟩, ⟨fun b o e => ?_, fun b o e => ?_⟩, hos, hb⟩
  · by_cases hm : b ∈ tabs.map (·.2)
    · obtain ⟨h1, rfl, ps, h2⟩ := tab b o hm e
      exact .inr (.inl ⟨h1, rfl, #[], ps, rfl, by rw [Array.empty_append]; exact h2⟩)
    · exact .inl (hk b o (ghost_ne e hm))
  · by_cases hm : b ∈ tabs.map (·.2)
    · obtain ⟨_, _, ps, h2⟩ := tab b o hm e
      exact ⟨_, h2⟩
    · exact ⟨o, hk b o (ghost_ne e hm)⟩

theorem noRit_code {o : Obj} {vs : Array Value} {q : PySem.Str} {t : Tok} (h1 : o.data = .fields vs) (h2 : vs[1]? = some (.str q t)) : ∀ x left step, o ≠ ritO x left step := fun x left step e => by
  have e1 := congrArg Obj.data e
  rw [h1] at e1
  have e2 : vs = #[rawInt x, rawInt left, rawInt step] := by injection e1
  rw [e2] at h2
  have e3 := Option.some.inj h2
  cases e3
section
variable {w : World} {base : Heap} {L fa : Addr} {M : PySem.Str → Option Value} {s : Shared} {Q : Flow → Shared → Prop}
  {p : Program} {loose : List PySem.Str} {mean : ExcName → Option Value} {mg mb : PySem.Str → Option Value}
theorem tail_of {fd1 fd2 : FuncData} {cl1 cl2 : Value} {di1 di2 : Option Addr} {sl1 sl2 : Array (Option Value)} {nqk nqm : PySem.Str} {fk ck fm cm la : Addr} {ock ocm oca occ ocs : Obj} {vsk vsm T93 : Array Value} {tqk tqm tsd : Tok} {seed K : Int} {n : Nat} {oct pp : Array UInt8} {e id : Int} {ext : Bool} {ti te tp to ts : Tok}
    (KC : KdfCon w p loose mean mg mb [(fk, (⟨cl1, di1, .func fd1, sl1⟩ : Obj)), (ck, ock), (fm, (⟨cl2, di2, .func fd2, sl2⟩ : Obj)), (cm, ocm), (L + 1 + 1 + 1, ocs), (L + 1 + 1, occ), (L + 1, oca)] fk la seed)
    (MC : MaskCon w p loose mean mg mb [(fm, (⟨cl2, di2, .func fd2, sl2⟩ : Obj)), (cm, ocm), (L + 1 + 1 + 1, ocs)] fm seed)
    (hk1 : ock.data = .fields vsk) (hk2 : vsk[1]? = some (.str nqk tqk)) (hm1 : ocm.data = .fields vsm) (hm2 : vsm[1]? = some (.str nqm tqm)) (hcs : ocs.data = .cell (some (.int seed tsd))) (hca : oca.data = .cell (some (.ref la))) (hcc : occ.data = .cell (some (.ref fm)))
    (N : News base L s.heap [(fk, (⟨cl1, di1, .func fd1, sl1⟩ : Obj)), (ck, ock), (fm, (⟨cl2, di2, .func fd2, sl2⟩ : Obj)), (cm, ocm), (la, listOf #[] n), (L + 1 + 1 + 1, ocs), (L + 1 + 1, occ), (L + 1, oca), (93, tabObj T93), (30, tabObj #[])])
    (B : Below callerA base [] base) (C : CodeHd base 34 30) (F : Fr base L s.heap M) (X : (hd.heap_39 w.params).In base) (T : Top p loose mean mg mb base)
    (e1 : M (PySem.Str.ofString "kdf") = some (.ref fk)) (e2 : M (PySem.Str.ofString "extendable") = some (.bool ext)) (e3 : M (PySem.Str.ofString "identifier") = some (.int id ti)) (e4 : M (PySem.Str.ofString "exponent") = some (.int e te)) (e5 : M (PySem.Str.ofString "passphrase") = some (.bytes pp tp)) (e6 : M (PySem.Str.ofString "octets") = some (.bytes oct to)) (e7 : M (PySem.Str.ofString "size") = some (.int K ts))
    (hK : K = ((oct.size : Nat) : Int)) (o0 : @LT.lt Nat _ 93 L) (o1 : @LT.lt Nat _ (L + 1 + 1 + 1) la) (o2 : @LT.lt Nat _ la cm) (o3 : @LT.lt Nat _ cm fm) (o4 : @LT.lt Nat _ fm ck) (o5 : @LT.lt Nat _ ck fk) (G : AllBare s.gens) (he0 : 0 ≤ e) (he1 : e < 16) (hi0 : 0 ≤ id) (hi1 : id < 32768) (hpp : pp.size ≤ 4) (hoct : oct.size ≤ 20)
    (hret : ∀ (h' : Heap) (g' : Array GenState) (tk' : Nat), (∀ b o, base.get? b = some o → h'.get? b = some o) → AllBare g' → GrownAll [(97, 93), (34, 30)] h' → Q (.ret (.bool true)) { s with heap := h', gens := g', toks := tk' }) :
    wpAny (model PySem.Challenge.rw_jb0037_01.row.prog w) (callerA.deeper (envOfC (PySem.Str.ofString "law") lawScope L fa (.ref 97))) (execs (lawBody.drop 10) (envOfC (PySem.Str.ofString "law") lawScope L fa (.ref 97))) Q (fun _ _ => False) s := by
  subst hK
  have hrit : NoRit [(fk, (⟨cl1, di1, .func fd1, sl1⟩ : Obj)), (ck, ock), (fm, (⟨cl2, di2, .func fd2, sl2⟩ : Obj)), (cm, ocm), (L + 1 + 1 + 1, ocs), (L + 1 + 1, occ), (L + 1, oca), (93, tabObj T93)] := by
    intro q hq
    simp only [List.mem_cons, List.not_mem_nil, or_false] at hq
    rcases hq with rfl | rfl | rfl | rfl | rfl | rfl | rfl | rfl
    · exact noRit_data fun _ h => by cases h
    · exact noRit_code hk1 hk2
    · exact noRit_data fun _ h => by cases h
    · exact noRit_code hm1 hm2
    · exact noRit_data fun _ h => by rw [hcs] at h; cases h
    · exact noRit_data fun _ h => by rw [hcc] at h; cases h
    · exact noRit_data fun _ h => by rw [hca] at h; cases h
    · exact noRit_cls (show Value.none ≠ .type "range_iterator" by decide)
  have hB : Book base L s.heap [(fk, (⟨cl1, di1, .func fd1, sl1⟩ : Obj)), (ck, ock), (fm, (⟨cl2, di2, .func fd2, sl2⟩ : Obj)), (cm, ocm), (L + 1 + 1 + 1, ocs), (L + 1 + 1, occ), (L + 1, oca), (93, tabObj T93)] la [] := by
    refine ⟨#[], [], n, [], fun q hq => N q ?_, ?_, trivial, fun q hq => ?_, fun q hq => ?_⟩
    · simp only [List.append_nil, List.mem_cons, List.not_mem_nil, or_false] at hq ⊢
      rcases hq with h | h | h | h | h | h | h | h | h | h <;> simp [h]
    · trivial
    · simp only [List.append_nil, List.mem_cons, List.not_mem_nil, or_false] at hq
      rcases hq with rfl | rfl | rfl | rfl | rfl | rfl | rfl | rfl | rfl <;> (refine neN ?_; dsimp only; omega)
    · simp only [List.append_nil, List.mem_cons, List.not_mem_nil, or_false] at hq
      rcases hq with rfl | rfl | rfl | rfl | rfl | rfl | rfl | rfl <;> (refine neN ?_; dsimp only; omega)
  have E7 := Fr.say F e7
  have E6 := Fr.say (x := PySem.Str.ofString "octets") (v := .bytes oct to) E7 (by rw [if_neg (by decide)]; exact e6)
  have E5 := Fr.say (x := PySem.Str.ofString "passphrase") (v := .bytes pp tp) E6 (by rw [if_neg (by decide), if_neg (by decide)]; exact e5)
  have E4 := Fr.say (x := PySem.Str.ofString "exponent") (v := .int e te) E5 (by rw [if_neg (by decide), if_neg (by decide), if_neg (by decide)]; exact e4)
  have E3 := Fr.say (x := PySem.Str.ofString "identifier") (v := .int id ti) E4 (by rw [if_neg (by decide), if_neg (by decide), if_neg (by decide), if_neg (by decide)]; exact e3)
  have E2 := Fr.say (x := PySem.Str.ofString "extendable") (v := .bool ext) E3 (by rw [if_neg (by decide), if_neg (by decide), if_neg (by decide), if_neg (by decide), if_neg (by decide)]; exact e2)
  have E1 := Fr.say (x := PySem.Str.ofString "kdf") (v := .ref fk) E2 (by rw [if_neg (by decide), if_neg (by decide), if_neg (by decide), if_neg (by decide), if_neg (by decide), if_neg (by decide)]; exact e1)
  clear E7 E6 E5 E4 E3 E2
  have hgrown : ∀ {h' : Heap} {tr : List Asked}, Book base L h' [(fk, (⟨cl1, di1, .func fd1, sl1⟩ : Obj)), (ck, ock), (fm, (⟨cl2, di2, .func fd2, sl2⟩ : Obj)), (cm, ocm), (L + 1 + 1 + 1, ocs), (L + 1 + 1, occ), (L + 1, oca), (93, tabObj T93)] la tr → GrownAll [(97, 93), (34, 30)] h' := by
    intro h' tr hb
    have h93 := (hb.mem (x := (93, tabObj T93)) (by simp)).1
    obtain ⟨ps, refs, m, tups, Nb, _⟩ := hb
    exact ⟨⟨T93, h93⟩, ⟨ps, (Nb _ (.tail _ (.head _))).1⟩, trivial⟩
  have hfk : FnIn fk [(fk, (⟨cl1, di1, .func fd1, sl1⟩ : Obj)), (ck, ock), (fm, (⟨cl2, di2, .func fd2, sl2⟩ : Obj)), (cm, ocm), (L + 1 + 1 + 1, ocs), (L + 1 + 1, occ), (L + 1, oca)] := ⟨_, _, _, _, .head _⟩
  have hfm : FnIn fm [(fm, (⟨cl2, di2, .func fd2, sl2⟩ : Obj)), (cm, ocm), (L + 1 + 1 + 1, ocs)] := ⟨_, _, _, _, .head _⟩
  by_cases hev : ((oct.size : Nat) : Int).fmod 2 = 0
  · exact even_tail KC MC hfk hrit B C E1 X T (fun q hq => by simp only [List.mem_cons, List.not_mem_nil, or_false] at hq ⊢; rcases hq with h | h | h | h | h | h | h <;> simp [h])
      (fun q hq => by simp only [List.mem_cons, List.not_mem_nil, or_false] at hq ⊢; rcases hq with h | h | h <;> simp [h]) (by simp) (by simp) hca hcc hB G he0 he1 hi0 hi1 hpp hoct hev hfm (plain_ok seed pp e (saltE id ext) hev)
      fun h' g' tk' m' tr F' B' G' => hret h' g' tk' F'.keep G' (hgrown B')
  · exact odd_tail ⟨_, _, _, _, .head _⟩ B C E1 X T (by simp) hca hB hoct (by simpa using hev) fun h' tk' m' tr F' B' => hret h' s.gens tk' F'.keep G (hgrown B')
theorem law_tail {nqk nqm : PySem.Str} {dk pk dm pm ctk ctm : Value} {fk ck fm cm la : Addr} {ock ocm oca occ ocs : Obj} {vsk vsm T93 : Array Value} {tqk tqm tsd : Tok} {seed K : Int} {n : Nat} {oct pp : Array UInt8} {e id : Int} {ext : Bool} {ti te tp to ts : Tok}
    (hk1 : ock.data = .fields vsk) (hk2 : vsk[1]? = some (.str nqk tqk)) (hm1 : ocm.data = .fields vsm) (hm2 : vsm[1]? = some (.str nqm tqm)) (hcs : ocs.data = .cell (some (.int seed tsd))) (hca : oca.data = .cell (some (.ref la))) (hcc : occ.data = .cell (some (.ref fm))) (hs0 : 0 ≤ seed) (hs1 : seed < 2 ^ 64) :
    ofDef (lawStmt 9) fun nk psk bk sck => ofDef (lawStmt 8) fun nm psm bm scm =>
      News base L s.heap [(fk, fnMade nk nqk psk bk sck [(PySem.Str.ofString "mask", L + 1 + 1), (PySem.Str.ofString "calls", L + 1)] dk pk ck ctk), (ck, ock), (fm, fnMade nm nqm psm bm scm [(PySem.Str.ofString "seed", L + 1 + 1 + 1)] dm pm cm ctm), (cm, ocm), (la, listOf #[] n), (L + 1 + 1 + 1, ocs), (L + 1 + 1, occ), (L + 1, oca), (93, tabObj T93), (30, tabObj #[])] →
      Below callerA base [] base → CodeHd base 34 30 → Fr base L s.heap M → (hd.heap_39 w.params).In base → Top p loose mean mg mb base →
      M (PySem.Str.ofString "kdf") = some (.ref fk) → M (PySem.Str.ofString "extendable") = some (.bool ext) → M (PySem.Str.ofString "identifier") = some (.int id ti) → M (PySem.Str.ofString "exponent") = some (.int e te) → M (PySem.Str.ofString "passphrase") = some (.bytes pp tp) → M (PySem.Str.ofString "octets") = some (.bytes oct to) → M (PySem.Str.ofString "size") = some (.int K ts) →
      K = ((oct.size : Nat) : Int) → @LT.lt Nat _ 93 L → @LT.lt Nat _ (L + 1 + 1 + 1) la → @LT.lt Nat _ la cm → @LT.lt Nat _ cm fm → @LT.lt Nat _ fm ck → @LT.lt Nat _ ck fk → AllBare s.gens → 0 ≤ e → e < 16 → 0 ≤ id → id < 32768 → pp.size ≤ 4 → oct.size ≤ 20 →
      (∀ (h' : Heap) (g' : Array GenState) (tk' : Nat), (∀ b o, base.get? b = some o → h'.get? b = some o) → AllBare g' → GrownAll [(97, 93), (34, 30)] h' → Q (.ret (.bool true)) { s with heap := h', gens := g', toks := tk' }) →
      wpAny (model PySem.Challenge.rw_jb0037_01.row.prog w) (callerA.deeper (envOfC (PySem.Str.ofString "law") lawScope L fa (.ref 97))) (execs (lawBody.drop 10) (envOfC (PySem.Str.ofString "law") lawScope L fa (.ref 97))) Q (fun _ _ => False) s := by
  have KC := kdf_con (w := w) (p := p) (loose := loose) (mean := mean) (mg := mg) (mb := mb) (dk := dk) (pm := pk) (dm := dm) (pmm := pm) (ctk := ctk) (ctm := ctm) (fk := fk) (ck := ck) (cm := cm) (cs := L + 1 + 1 + 1) (ca := L + 1) (cc := L + 1 + 1) hk1 hk2 hm1 hm2 hcs hca hcc hs0 hs1
  have MC := mask_con (w := w) (p := p) (loose := loose) (mean := mean) (mg := mg) (mb := mb) (dm := dm) (pmm := pm) (ctm := ctm) (fm := fm) (cm := cm) (cs := L + 1 + 1 + 1) hm1 hm2 hcs hs0 hs1
  revert KC MC
  generalize lawStmt 9 = st9
  generalize lawStmt 8 = st8
  cases st9 <;> (try (intro KC; exact KC.elim))
  cases st8 <;> (try (intro KC; exact KC.elim))
  dsimp only [ofDef]
  intro KC MC N B C F X T e1 e2 e3 e4 e5 e6 e7 hK o0 o1 o2 o3 o4 o5 G he0 he1 hi0 hi1 hpp hoct hret
  exact tail_of KC MC hk1 hk2 hm1 hm2 hcs hca hcc N B C F X T e1 e2 e3 e4 e5 e6 e7 hK o0 o1 o2 o3 o4 o5 G he0 he1 hi0 hi1 hpp hoct hret
end
end
local macro_rules | `(tactic| walk_at "no such key") => `(tactic| fail)
/- W4 -/
section
open PySem PySem.W PyProof.Rows
set_option maxRecDepth 100000
set_option maxHeartbeats 8000000
set_option linter.unusedVariables false
theorem quietW4 : True := by w_top off; exact trivial
local macro_rules | `(tactic| mul_fits) => `(tactic| exact mulOk_of (numE_bits (by assumption) (by decide) (by decide)) spread_bits)
local macro_rules | `(tactic| walk_at "call ref") => `(tactic| (k_here; (with_reducible show wpAny _ _ (call (Value.ref 77) [Value.int _ _, Value.int _ _]) _ _ _); k_dflt (refine' oct_con ?B ?F ?X ?N ?T ?kk ?h0 ?h1 ?hd ?hu ?_; (case B => k_asm); (case F => k_asm); (case X => k_asm); (case N => k_asm); (case T => k_asm); (case kk => first | exact rfl | assumption); (case h0 => first | omega | l_fact); (case h1 => first | omega | l_fact); (case hd => ktr_room); (case hu => ktr_units)); intro t9 h9 tk9 F9 N9; (try dsimp only); (try k_fold)))
local macro_rules | `(tactic| walk_at "call ref") => `(tactic| (k_here; (with_reducible show wpAny _ _ (call (Value.ref 70) [Value.ref _, Value.int _ _]) _ _ _); k_dflt (refine' num_con ?B ?F ?X ?N ?T ?kk ?l ?i ?f ?h0 ?h1 ?hd ?hu ?_; (case B => k_asm); (case F => k_asm); (case X => k_asm); (case N => k_asm); (case T => k_asm); (case kk => first | exact rfl | assumption); (case l => k_asm); (case i => l_ints); (case f => l_fit); (case h0 => first | decide | omega | l_fact); (case h1 => first | decide | omega | l_fact); (case hd => ktr_room); (case hu => ktr_units)); intro t9 h9 tk9 F9 N9; (try dsimp only); (try k_fold)))
local macro_rules | `(tactic| walk_at "eval Call") => `(tactic| (k_here; refine Call_ ?_))
local macro_rules | `(tactic| ktr_rel) => `(tactic| ((try simp only [Array.size_append, takeE_size, dropE_size, octE_size, bigE_size]); first | omega | l_fact))
local macro_rules | `(tactic| walk_at "subscriptTail") => `(tactic| (k_here; (with_reducible show wpAny _ _ (subscriptTail _ (Expr.Slice _ _ none _) (Value.bytes _ _) (Value.ref _)) _ _ _); (with_reducible rename Fr _ _ _ _ => F'); (with_reducible rename News _ _ _ _ => N'); (first | refine slice_to (s := ⟨_, _, _, _, _⟩) F' N' (by first | omega | l_fact) (by ktr_rel) ?_ | refine slice_from (s := ⟨_, _, _, _, _⟩) F' N' (by first | omega | l_fact) (by ktr_rel) ?_); intro _ _ _ _ _))
local macro_rules | `(tactic| walk_at "execs cons") => `(tactic| (k_here; (with_reducible show wpAny _ _ (execs (Stmt.Assign [Expr.Name _ _] (PySem.Expr.Call (Expr.Name _ _) [_, _, _, _, _, _] _ _) _ :: _) _) _ _ _); refine halt ?_))
theorem size_le (x : Int) : (1 + x.fmod 20).toNat ≤ 20 := by
  have h1 := fmod_lo x (show (0 : Int) < 20 by decide)
  have h2 := fmod_hi x (show (0 : Int) < 20 by decide)
  omega
theorem w4 : PySem.Challenge.rw_jb0037_01.Holds := hd (by w_strict (
  k_fill
  intro w s₀ s₁ mg mb G Y fa o pm cd doc dV kV ho hd hcd hD hmg hg args vals as hpre hlay hrd hwl hlo
  have KX := km_in_of Y
  km_tabs Y
  have X := (Ground.X G).1
  have V := (Ground.X G).2
  refine Ground.open G ?_
  intro T B D TE TW
  try (refine guard_noD D (by decide +kernel) ?_; clear D)
  have hT9 : TabsAt ([(97, 93), (34, 30)] : List (Addr × Addr)) _ := List.forall_mem_cons.mpr ⟨⟨codeHd_of_K (c := 97) (P := 93) KX (by kernel_rfl), hT8 93 (by k_mem)⟩,
    List.forall_mem_cons.mpr ⟨tab_of (x := PySem.Str.ofString "_xor") (c := 34) (P := 30) T KX rfl (by kernel_rfl), fun _ h => nomatch h⟩⟩
  have he9 : cd = PySem.Value.ref 97 := law_code (x := PySem.Str.ofString "law") (c := 97) (P := 93) KX (Top.g T) (by kernel_rfl) hmg ho hd
  subst he9
  clear hmg
  wrow_args hpre hlay hrd hwl hlo
  all_goals (
    first | refine callC_kw (enter_call ?_) | refine enter_call ?_
    w_top on
    refine my_post hT9 (fun _ _ => rfl) (by first | wrow_post | kc_post) ?_
    w_call any ho hd hcd hD T F
    clear hd
    kn_ghosts F T
    k_drop
    skip)
  (try k_fold)
  k_steps
  unfold Halt
  refine wpAny_noRaise ?_
  rename Fr _ _ _ _ => F9
  rename News _ _ _ _ => N9
  refine' law_tail ?hk1 ?hk2 ?hm1 ?hm2 ?hcs ?hca ?hcc ?hs0 ?hs1 N9 (by assumption) (by assumption) F9 (by assumption) (by assumption) rfl rfl rfl rfl rfl rfl rfl ?hK ?o0 ?o1 ?o2 ?o3 ?o4 ?o5 ?G ?a1 ?a2 ?a3 ?a4 ?a5 ?a6 ?ret
  case hk1 => assumption
  case hk2 => assumption
  case hm1 => assumption
  case hm2 => assumption
  case hcs => assumption
  case hca => assumption
  case hcc => assumption
  case hs0 => exact fmod_lo _ (by decide)
  case hs1 => exact Int.lt_of_lt_of_le (fmod_hi _ (by decide)) (by decide)
  case hK => rw [octE_size, Int.toNat_of_nonneg (Int.add_nonneg (by decide) (fmod_lo _ (by decide)))]
  case o0 => omega
  case o1 => omega
  case o2 => omega
  case o3 => omega
  case o4 => omega
  case o5 => omega
  case G => exact AllBare.of_eq (by assumption)
  case a1 => exact fmod_lo _ (by decide)
  case a2 => exact fmod_hi _ (by decide)
  case a3 => exact fmod_lo _ (by decide)
  case a4 => exact fmod_hi _ (by decide)
  case a5 => rw [takeE_size, octE_size]; exact Nat.min_le_right _ _
  case a6 => rw [octE_size]; exact size_le _
  case ret =>
    intro h' g' tk' keep G' gr
    exact ⟨rfl, keep, rfl, G', gr⟩))
end
end Mine
theorem PySem.Challenge.cw_jb0037_01_holds : PySem.Challenge.rw_jb0037_01.Holds := by
  exact Mine.w4
