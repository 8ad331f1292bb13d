import PyProof.Rows.All
import Wide.All
import OpenK.AllK
import OpenK.XGo
import KE.KSortAsk
import KE.KSortKey
import Wide.FinOn
import PySem.Challenge.RW_xc0001_01

set_option Elab.async false
set_option compiler.extract_closed false

open PySem PySem.W PySem.W.X PyProof.Rows

-- HD
namespace Mine
set_option maxRecDepth 100000 in
set_option maxHeartbeats 8000000 in
open_top hd for PySem.Challenge.rw_xc0001_01
noncomputable def topK : Params → Frag := by first | exact hd.heap_39 | exact hd.heap_46
def A0 : Around := { depth := 800, units := 3000 }
abbrev PG : Program := PySem.Challenge.rw_xc0001_01.prog
end Mine

-- Mini
namespace Mine
inductive SetAt (a : Addr) (o o' : Obj) : List (Addr × Obj) → List (Addr × Obj) → Prop where
  | here {b l} (e : b = a) : SetAt a o o' ((b, o) :: l) ((b, o') :: l)
  | there {x l l'} : SetAt a o o' l l' → SetAt a o o' (x :: l) (x :: l')
theorem SetAt.mem {a : Addr} {o o' : Obj} {l l' : List (Addr × Obj)} (h : SetAt a o o' l l') : (a, o) ∈ l := by
  induction h with
  | here e => subst e; exact .head _
  | there _ ih => exact .tail _ ih
theorem SetAt.keys {a : Addr} {o o' : Obj} {l l' : List (Addr × Obj)} (h : SetAt a o o' l l') : l'.map (·.1) = l.map (·.1) := by
  induction h with
  | here => rfl
  | there _ ih => simp [ih]
theorem SetAt.of {a : Addr} {o o' : Obj} {l l' : List (Addr × Obj)} (h : SetAt a o o' l l') (hn : (l.map (·.1)).Nodup) : ∀ p ∈ l', p = (a, o') ∨ (p ∈ l ∧ p.1 ≠ a) := by
  induction h with
  | @here b l e =>
    subst e
    intro p hp
    rcases List.mem_cons.mp hp with rfl | hp
    · exact .inl rfl
    · refine .inr ⟨.tail _ hp, fun e => ?_⟩
      simp only [List.map_cons, List.nodup_cons] at hn
      exact hn.1 (e ▸ List.mem_map_of_mem hp)
  | @there x l l' U ih =>
    intro p hp
    simp only [List.map_cons, List.nodup_cons] at hn
    rcases List.mem_cons.mp hp with rfl | hp
    · refine .inr ⟨.head _, fun e => hn.1 ?_⟩
      rw [e]; exact List.mem_map_of_mem (f := (·.1)) U.mem
    · rcases ih hn.2 p hp with h | h
      · exact .inl h
      · exact .inr ⟨.tail _ h.1, h.2⟩

def Keeps (h h' : Heap) : Prop := ∀ b o, h.get? b = some o → h'.get? b = some o
theorem Keeps.refl (h : Heap) : Keeps h h := fun _ _ e => e
theorem Keeps.trans {a b c : Heap} (h : Keeps a b) (k : Keeps b c) : Keeps a c := fun x o e => k x o (h x o e)

/-- the ledger: what stands in h, made since h₀ or (at the addresses of but) turned since -/
structure Lg (but : List Addr) (h₀ h : Heap) (news : List (Addr × Obj)) : Prop where
  keep : ∀ b o, h₀.get? b = some o → b ∉ but → h.get? b = some o
  nw : ∀ p ∈ news, h.get? p.1 = some p.2 ∧ (p.1 ∈ but ∨ h₀.get? p.1 = none)
  nd : (news.map (·.1)).Nodup
theorem Lg.start (h : Heap) : Lg [] h h [] := ⟨fun _ _ e _ => e, fun _ hp => (nomatch hp), List.nodup_nil⟩
theorem Lg.start1 {h : Heap} {a : Addr} {o : Obj} (e : h.get? a = some o) : Lg [a] h h [(a, o)] :=
  { keep := fun _ _ e _ => e, nw := (fun p hp => by rw [List.mem_singleton.mp hp]; exact ⟨e, .inl (.head _)⟩), nd := by simp }
section
variable {but : List Addr} {h₀ h h' : Heap} {news : List (Addr × Obj)}
theorem Lg.hit (L : Lg but h₀ h news) {a : Addr} {o : Obj} (hm : (a, o) ∈ news) : h.get? a = some o := (L.nw _ hm).1
theorem Lg.base (L : Lg but h₀ h news) {a : Addr} {o : Obj} (e : h₀.get? a = some o) (hb : a ∉ but) : h.get? a = some o := L.keep _ _ e hb
theorem Lg.base0 (L : Lg [] h₀ h news) {a : Addr} {o : Obj} (e : h₀.get? a = some o) : h.get? a = some o := L.keep _ _ e (fun h => (nomatch h))
theorem Lg.neOld (L : Lg [] h₀ h news) {a b : Addr} {o ob : Obj} (hm : (a, o) ∈ news) (e : h₀.get? b = some ob) : a ≠ b := by
  rintro rfl
  rcases (L.nw _ hm).2 with q | q
  · cases q
  · rw [q] at e; cases e
theorem Lg.base16 {h₀ h : Heap} {news : List (Addr × Obj)} (L : Lg [16] h₀ h news) {a : Addr} {o : Obj} (e : h₀.get? a = some o) (hb : Nat.beq a 16 = false) : h.get? a = some o :=
  L.keep _ _ e (fun hm => by rw [List.mem_singleton.mp hm] at hb; cases hb)
theorem Lg.neOld1 (L : Lg but h₀ h news) {a b : Addr} {o ob : Obj} (hm : (a, o) ∈ news) (e : h₀.get? b = some ob) (hb : a ∉ but) : a ≠ b := by
  rintro rfl
  rcases (L.nw _ hm).2 with q | q
  · exact hb q
  · rw [q] at e; cases e
theorem Lg.add (L : Lg but h₀ h news) (k : Keeps h h') {a : Addr} {o : Obj} (hn : h.get? a = none) (e : h'.get? a = some o) : Lg but h₀ h' ((a, o) :: news) := by
  refine ⟨fun b o' q hb => k _ _ (L.keep b o' q hb), fun p hp => ?_, ?_⟩
  · rcases List.mem_cons.mp hp with rfl | hp
    · refine ⟨e, ?_⟩
      by_cases hb : a ∈ but
      · exact .inl hb
      · right
        cases q : h₀.get? a with
        | none => rfl
        | some o' => rw [L.keep a o' q hb] at hn; cases hn
    · exact ⟨k _ _ (L.nw p hp).1, (L.nw p hp).2⟩
  · rw [List.map_cons, List.nodup_cons]
    refine ⟨fun hm => ?_, L.nd⟩
    obtain ⟨p, hp, e'⟩ := List.mem_map.mp hm
    have := (L.nw p hp).1
    rw [e', hn] at this; cases this
theorem Lg.grow (L : Lg but h₀ h news) (k : Keeps h h') : Lg but h₀ h' news :=
  ⟨fun b o' q hb => k _ _ (L.keep b o' q hb), fun p hp => ⟨k _ _ (L.nw p hp).1, (L.nw p hp).2⟩, L.nd⟩
theorem Keeps.push (h : Heap) (o : Obj) : Keeps h (h.push o) := fun _ _ e => Heap.get?_push_of_some _ e
theorem get?_size (h : Heap) : h.get? h.objs.size = none := by
  cases q : h.get? h.objs.size with
  | none => rfl
  | some o => exact absurd (Heap.lt_size q) (Nat.lt_irrefl _)
theorem Lg.alloc (L : Lg but h₀ h news) {o : Obj} (hf : o.isFreed = false) : Lg but h₀ (h.push o) ((h.objs.size, o) :: news) :=
  L.add (Keeps.push h o) (get?_size h) (Heap.get?_push_size _ hf)
theorem Lg.update (L : Lg but h₀ h news) {a : Addr} {o o' : Obj} {f : Obj → Obj} {news' : List (Addr × Obj)} (U : SetAt a o o' news news') (e : f o = o') (hf : o'.isFreed = false) : Lg but h₀ (h.update a f) news' := by
  subst e
  have hs : Heap.SameBut a h (h.update a f) := Heap.SameBut.update ..
  have ho := L.hit U.mem
  have ge : (h.update a f).get? a = some (f o) := Heap.get?_update_self f ho hf
  refine ⟨fun b ob q hb => ?_, fun p hp => ?_, by rw [U.keys]; exact L.nd⟩
  · by_cases z : b = a
    · subst z
      rcases (L.nw _ U.mem).2 with y | y
      · exact absurd y hb
      · rw [y] at q; cases q
    · exact (hs.2 b z).trans (L.keep b ob q hb)
  · rcases U.of L.nd p hp with rfl | ⟨h1, h2⟩
    · exact ⟨ge, (L.nw _ U.mem).2⟩
    · exact ⟨(hs.2 _ h2).trans (L.nw p h1).1, (L.nw p h1).2⟩
theorem Keeps.ofMem {news} (D : Mem h h' [] news) : Keeps h h' := fun b o e => D.keep b o e (by simp [away])
end
section
variable {α : Type} {prog : Program} {w : World} {A : Around} {E : Value → Shared → Prop} {Q : α → Shared → Prop}
theorem m_load {s : Shared} {a : Addr} {q : Option Value} {k : Obj → Sem α} {o : Obj} (ho : s.heap.get? a = some o) (h : wpAny (model prog w) A (k o) Q E s) : wpAny (model prog w) A (.load a q k) Q E s := x_load ho h
theorem m_loadAlive {s : Shared} {a : Addr} {k : Option Obj → Sem α} {o : Obj} (ho : s.heap.get? a = some o) (h : wpAny (model prog w) A (k (some o)) Q E s) : wpAny (model prog w) A (.loadIfAlive a k) Q E s :=
  fun Γ p hΓ => by
    have := h Γ p hΓ
    show Sem.wp _ _ (k (s.heap.get? a)) _ _ _ _
    rw [ho]; exact this
theorem m_alloc {but : List Addr} {h₀ h : Heap} {news : List (Addr × Obj)} {g d t os} {o : Obj} {k : Addr → Sem α} (L : Lg but h₀ h news) (hf : o.isFreed = false)
    (x : ∀ a h', Lg but h₀ h' ((a, o) :: news) → wpAny (model prog w) A (k a) Q E ⟨h', g, d, t, os⟩) : wpAny (model prog w) A (.alloc o k) Q E ⟨h, g, d, t, os⟩ :=
  wpAny_bind (m := alloc o) (f := k) (wpAny_alloc (x _ _ (L.alloc hf)))
theorem m_allocN {but : List Addr} {h₀ h : Heap} {news : List (Addr × Obj)} {g d t os} {o o' : Obj} {k : Addr → Sem α} (L : Lg but h₀ h news) (e : o = o') (hf : o'.isFreed = false)
    (x : ∀ a h', Lg but h₀ h' ((a, o') :: news) → wpAny (model prog w) A (k a) Q E ⟨h', g, d, t, os⟩) : wpAny (model prog w) A (.alloc o k) Q E ⟨h, g, d, t, os⟩ := by
  subst e; exact m_alloc L hf x
theorem m_update {but : List Addr} {h₀ h : Heap} {news news' : List (Addr × Obj)} {g d t os} {a : Addr} {q : Option Value} {f : Obj → Obj} {k : Unit → Sem α} {o o' : Obj} (L : Lg but h₀ h news) (U : SetAt a o o' news news') (e : f o = o')
    (hf : o'.isFreed = false) (x : ∀ h', Lg but h₀ h' news' → wpAny (model prog w) A (k ()) Q E ⟨h', g, d, t, os⟩) : wpAny (model prog w) A (.update a q f k) Q E ⟨h, g, d, t, os⟩ :=
  wpAny_bind (m := updatePart a q f) (f := k) (wpAny_updatePart (L.hit U.mem) (x _ (L.update U e hf)))
theorem m_updateD {but : List Addr} {h₀ h : Heap} {news news' : List (Addr × Obj)} {g d t os} {a : Addr} {q : Option Value} {f : Obj → Obj} {k : Unit → Sem α} {es : Array DictEntry} {n : Nat} {o' : Obj} (L : Lg but h₀ h news) (U : SetAt a { cls := .type "dict", data := .dict es n } o' news news') (e : f { cls := .type "dict", data := .dict es n } = o')
    (hf : o'.isFreed = false) (x : ∀ h', Lg but h₀ h' news' → wpAny (model prog w) A (k ()) Q E ⟨h', g, d, t, os⟩) : wpAny (model prog w) A (.update a q f k) Q E ⟨h, g, d, t, os⟩ := m_update L U e hf x
theorem m_updateF {but : List Addr} {h₀ h : Heap} {news news' : List (Addr × Obj)} {g d t os} {a : Addr} {q : Option Value} {f : Obj → Obj} {k : Unit → Sem α} {vs : Array Value} {o' : Obj} (L : Lg but h₀ h news) (U : SetAt a { cls := .none, data := .fields vs } o' news news') (e : f { cls := .none, data := .fields vs } = o')
    (hf : o'.isFreed = false) (x : ∀ h', Lg but h₀ h' news' → wpAny (model prog w) A (k ()) Q E ⟨h', g, d, t, os⟩) : wpAny (model prog w) A (.update a q f k) Q E ⟨h, g, d, t, os⟩ := m_update L U e hf x
theorem m_updHas {but : List Addr} {h₀ h : Heap} {news news' : List (Addr × Obj)} {g d t os} {a : Addr} {q : Option Value} {f : ClassData → ClassData} {k : Unit → Sem α} {o : Obj} (L : Lg but h₀ h news) (U : SetAt a o (Obj.mapCls (fun c => { c with mro := [.ref a, .type "object"], hasDel := false }) o) news news')
    (e : Obj.mapCls f o = Obj.mapCls (fun c => { c with mro := [.ref a, .type "object"], hasDel := false }) o) (hf : (Obj.mapCls (fun c => { c with mro := [.ref a, .type "object"], hasDel := false }) o).isFreed = false) (x : ∀ h', Lg but h₀ h' news' → wpAny (model prog w) A (k ()) Q E ⟨h', g, d, t, os⟩) : wpAny (model prog w) A (.update a q (Obj.mapCls f) k) Q E ⟨h, g, d, t, os⟩ := m_update L U e hf x
theorem m_fresh {h g d t os} {k : Tok → Sem α} (x : wpAny (model prog w) A (k t) Q E ⟨h, g, d, t + 1, os⟩) : wpAny (model prog w) A (.fresh k) Q E ⟨h, g, d, t, os⟩ := fun Γ p hΓ => x Γ p hΓ
theorem m_call {s : Shared} {c : Code} {hd : Option Value} {g : Bool} {l : List Value} {k : Result → Sem α} (hc : codeAny (model prog w) (A.mark hd) c (fun r s' => wpAny (model prog w) A (k r) Q E s') s) (hnb : hd ≠ some byPass := by intro h; cases h) :
    wpAny (model prog w) A (.call c hd g l k) Q E s := x_call hc hnb
theorem m_bind {β : Type} {s : Shared} {m : Sem β} {f : β → Sem α} (h : wpAny (model prog w) A m (fun a s' => wpAny (model prog w) A (f a) Q E s') E s) : wpAny (model prog w) A (Sem.bind m f) Q E s := wpAny_bind h
theorem m_is {s : Shared} {m m' : Sem α} (e : m = m') (h : wpAny (model prog w) A m' Q E s) : wpAny (model prog w) A m Q E s := e ▸ h
theorem m_val {s : Shared} {m : Sem α} {a : α} (e : m = Sem.pure a) (h : Q a s) : wpAny (model prog w) A m Q E s := by rw [e]; exact wpAny_pure h
theorem m_iteF {s : Shared} {c : Prop} [Decidable c] {t e : Sem α} (hc : ¬ c) (h : wpAny (model prog w) A e Q E s) : wpAny (model prog w) A (if c then t else e) Q E s := by rw [if_neg hc]; exact h
theorem m_iteT {s : Shared} {c : Prop} [Decidable c] {t e : Sem α} (hc : c) (h : wpAny (model prog w) A t Q E s) : wpAny (model prog w) A (if c then t else e) Q E s := by rw [if_pos hc]; exact h
theorem m_iteB {s : Shared} {b : Bool} {t e : Sem α} (hb : b = true) (h : wpAny (model prog w) A t Q E s) : wpAny (model prog w) A (if b = true then t else e) Q E s := by rw [if_pos hb]; exact h
theorem m_iteN {s : Shared} {b : Bool} {t e : Sem α} (hb : b = false) (h : wpAny (model prog w) A e Q E s) : wpAny (model prog w) A (if b = true then t else e) Q E s := by rw [if_neg (by rw [hb]; exact Bool.false_ne_true)]; exact h
theorem m_slot {s : Shared} {a : Addr} {i : Nat} {v : Option Value} {Q : Unit → Shared → Prop} (hi : (decide (i ≥ sizeLine)) = false) (h : wpAny (model prog w) A (updatePart a (some (slotPart i)) fun o => { o with slots := (o.slots ++ Array.replicate (i + 1 - o.slots.size) none).setIfInBounds i v }) Q E s) : wpAny (model prog w) A (setSlotAt a i v) Q E s := by
  unfold setSlotAt
  rw [if_neg (by simpa using hi)]
  exact h
theorem m_try {s : Shared} {m : Sem α} {k : Value → Sem α} (h : wpAny (model prog w) A m Q (fun e s' => wpAny (model prog w) A (k e) Q E s') s) : wpAny (model prog w) A (Sem.tryCatch m k) Q E s := wpAny_tryCatch h
theorem m_keep {s : Shared} {vs : List Value} {m : Sem α} (h : wpAny (model prog w) A m Q E s) : wpAny (model prog w) A (Sem.keep vs m) Q E s := fun Γ p hΓ => by rw [Sem.wp_keep]; exact h Γ p hΓ
theorem m_holding {s : Shared} {vs : List Value} {m : Sem α} (h : wpAny (model prog w) A m Q E s) : wpAny (model prog w) A (holding vs m) Q E s := wpAny_holding h
end
theorem run_of_runValue {M : Model} {A : Around} {E : Value → Shared → Prop} {s : Shared} {c : Code} {Q : Flow → Shared → Prop} (h : wpAny M A (runValue c) (fun v s' => Q (.ret v) s') E s) : wpAny M A (run c) Q E s := fun Γ p hΓ => by
  have z := h Γ p hΓ
  unfold runValue at z
  rw [Sem.wp_bind'] at z
  refine Sem.wp_mono M Γ _ (fun fl p' s' y => ?_) (fun _ _ _ y => y) p s z
  cases fl with
  | ret v => exact y
  | next => exact absurd y (by simp [unsupported])
  | brk => exact absurd y (by simp [unsupported])
  | cont => exact absurd y (by simp [unsupported])
theorem run_of_call {M : Model} {A : Around} {E : Value → Shared → Prop} {s : Shared} {f : Value} {pos : List Value} {kw : List (Str × Value)} {Q : Flow → Shared → Prop} (h : wpAny M A (PySem.call f pos kw) (fun v s' => Q (.ret v) s') E s) : wpAny M A (run (.call f ⟨pos, kw⟩)) Q E s := run_of_runValue h
/-- more room asked than stands: a proof for a deep place serves a shallower one -/
theorem in_le {Γ : PySem.Ctx} {A B : Around} (h : Γ.In A) (hh : A.handled = B.handled) (hd : A.depth ≤ B.depth) (hu : A.units ≤ B.units) (hf : B.frames = none) (hg : B.guards = none) : Γ.In B :=
  ⟨h.1.trans hh, Nat.le_trans h.2.1 hd, fun l (e : B.frames = some l) => (by rw [hf] at e; cases e), fun g (e : B.guards = some g) => (by rw [hg] at e; cases e), Nat.le_trans h.2.2.2.2 hu⟩
theorem wpAny_le {α : Type} {M : Model} {A B : Around} {t : Sem α} {Q : α → Shared → Prop} {E : Value → Shared → Prop} {s : Shared} (h : wpAny M B t Q E s)
    (hh : A.handled = B.handled) (hd : A.depth ≤ B.depth) (hu : A.units ≤ B.units) (hf : B.frames = none) (hg : B.guards = none) : wpAny M A t Q E s :=
  fun Γ p hΓ => h Γ p (in_le hΓ hh hd hu hf hg)
structure Shallow (A : Around) : Prop where
  handled : A.handled = none
  depth : A.depth ≤ 800
  units : A.units ≤ 3000
theorem wpAny_sh {α : Type} {M : Model} {A : Around} {t : Sem α} {Q : α → Shared → Prop} {E : Value → Shared → Prop} {s : Shared} (S : Shallow A) (h : wpAny M A0 t Q E s) : wpAny M A t Q E s :=
  wpAny_le h S.handled S.depth S.units rfl rfl
/-- room to spare -/
structure Deep (A : Around) : Prop where
  handled : A.handled = none
  depth : A.depth + 100 ≤ 800
  units : A.units + 100 ≤ 3000
theorem Shallow.go {A B : Around} (S : Deep A) (hh : B.handled = A.handled) (hd : B.depth ≤ A.depth + 100) (hu : B.units ≤ A.units + 100) : Shallow B :=
  ⟨hh.trans S.handled, Nat.le_trans hd S.depth, Nat.le_trans hu S.units⟩
theorem Deep.sh {A : Around} (S : Deep A) : Shallow A := Shallow.go S rfl (Nat.le_add_right _ _) (Nat.le_add_right _ _)
theorem Deep.in1 {A : Around} (S : Deep A) : Shallow (A.mark none).in1 := Shallow.go S rfl (Nat.le_add_right _ _) (Nat.add_le_add_left (show 1 ≤ 100 by decide) A.units)
theorem Deep.in2 {A : Around} (S : Deep A) : Shallow (((A.mark none).in1).mark none).in1 := Shallow.go S rfl (Nat.le_add_right _ _) (Nat.add_le_add_left (show 2 ≤ 100 by decide) A.units)
theorem Lg.sub {but : List Addr} {h₀ h : Heap} {news news' : List (Addr × Obj)} (L : Lg but h₀ h news) (s : news'.Sublist news) : Lg but h₀ h news' :=
  ⟨L.keep, fun p hp => L.nw p (s.subset hp), L.nd.sublist (s.map _)⟩
theorem Lg.keeps {h₀ h : Heap} {news : List (Addr × Obj)} (L : Lg [] h₀ h news) : Keeps h₀ h := fun b o e => L.keep b o e (fun h => (nomatch h))
theorem Lg.fresh0 {h₀ h : Heap} {news : List (Addr × Obj)} (L : Lg [] h₀ h news) {a : Addr} {o : Obj} (hm : (a, o) ∈ news) : h₀.get? a = none := by
  rcases (L.nw _ hm).2 with q | q
  · cases q
  · exact q
structure Deep2 (A : Around) : Prop where
  handled : A.handled = none
  depth : A.depth + 200 ≤ 800
  units : A.units + 200 ≤ 3000
theorem Deep.go {A B : Around} (S : Deep2 A) (hh : B.handled = A.handled) (hd : B.depth ≤ A.depth + 100) (hu : B.units ≤ A.units + 100) : Deep B :=
  ⟨hh.trans S.handled, Nat.le_trans (Nat.add_le_add_right hd 100) S.depth, Nat.le_trans (Nat.add_le_add_right hu 100) S.units⟩
theorem Deep2.deep {A : Around} (S : Deep2 A) : Deep A := Deep.go S rfl (Nat.le_add_right _ _) (Nat.le_add_right _ _)
theorem Deep2.lt {A B : Around} (S : Deep2 A) (hd : B.depth ≤ A.depth + 100) : B.depth < recursionLimit :=
  Nat.lt_of_le_of_lt hd (Nat.lt_of_le_of_lt (Nat.le_trans (Nat.add_le_add_left (show 100 ≤ 200 by decide) A.depth) S.depth) (by decide))
theorem noLimit {h : Heap} (h2 : h.get? 2 = some { cls := .none, data := .dict #[] 0 }) : h.NoLimit := ⟨nsFind #[], ⟨_, _, _, h2, rfl, (by intro _ h; simp at h), fun _ => rfl⟩, rfl⟩
theorem Lg.trans {but : List Addr} {h₀ h h' : Heap} {news news' : List (Addr × Obj)} (L : Lg but h₀ h news) (L' : Lg [] h h' news') : Lg but h₀ h' (news' ++ news) := by
  refine ⟨fun b o e hb => L'.keeps _ _ (L.keep b o e hb), fun p hp => ?_, ?_⟩
  · rcases List.mem_append.mp hp with hp | hp
    · refine ⟨(L'.nw p hp).1, ?_⟩
      by_cases hb : p.1 ∈ but
      · exact .inl hb
      · right
        cases q : h₀.get? p.1 with
        | none => rfl
        | some o => rcases (L'.nw p hp).2 with y | y
                    · cases y
                    · rw [L.keep _ _ q hb] at y; cases y
    · exact ⟨L'.keeps _ _ (L.nw p hp).1, (L.nw p hp).2⟩
  · rw [List.map_append, List.nodup_append]
    refine ⟨L'.nd, L.nd, fun a ha b hb e => ?_⟩
    subst e
    obtain ⟨p, hp, rfl⟩ := List.mem_map.mp ha
    obtain ⟨q, hq, e⟩ := List.mem_map.mp hb
    have h1 := (L.nw q hq).1
    rcases (L'.nw p hp).2 with y | y
    · cases y
    · rw [e, y] at h1; cases h1
theorem Deep.lt {A : Around} (S : Deep A) : A.depth < recursionLimit :=
  Nat.lt_of_le_of_lt (Nat.le_trans (Nat.le_add_right _ _) S.depth) (by decide)
theorem Lg.cast {but : List Addr} {h₀ h : Heap} {news news' : List (Addr × Obj)} (L : Lg but h₀ h news) (e : news = news') : Lg but h₀ h news' := e ▸ L
structure Deep3 (A : Around) : Prop where
  handled : A.handled = none
  depth : A.depth + 300 ≤ 800
  units : A.units + 300 ≤ 3000
theorem Deep2.go {A B : Around} (S : Deep3 A) (hh : B.handled = A.handled) (hd : B.depth ≤ A.depth + 100) (hu : B.units ≤ A.units + 100) : Deep2 B :=
  ⟨hh.trans S.handled, Nat.le_trans (Nat.add_le_add_right hd 200) S.depth, Nat.le_trans (Nat.add_le_add_right hu 200) S.units⟩
theorem Deep3.deep2 {A : Around} (S : Deep3 A) : Deep2 A := Deep2.go S rfl (Nat.le_add_right _ _) (Nat.le_add_right _ _)
theorem Deep3.in1 {A : Around} (S : Deep3 A) : Deep2 A.in1 := Deep2.go S rfl (Nat.le_add_right _ _) (Nat.add_le_add_left (show 1 ≤ 100 by decide) A.units)
theorem Deep3.deeper {A : Around} (S : Deep3 A) (env : Env) : Deep2 (A.deeper env) := Deep2.go S rfl (Nat.add_le_add_left (show 1 ≤ 100 by decide) A.depth) (Nat.add_le_add_left (show 3 ≤ 100 by decide) A.units)
theorem Deep2.deeper {A : Around} (S : Deep2 A) (env : Env) : Deep ((A.mark none).deeper env) := Deep.go S rfl (Nat.add_le_add_left (show 1 ≤ 100 by decide) A.depth) (Nat.add_le_add_left (show 3 ≤ 100 by decide) A.units)
end Mine

-- TM
namespace Mine
set_option maxRecDepth 100000
set_option maxHeartbeats 4000000
theorem c2 : typeOf (.type "object") = Sem.pure (.type "type") := by kernel_rfl
theorem c4 : Builtin.extendedBase [.type "object"] = Sem.pure (.type "object") := by kernel_rfl
theorem c5 : Builtin.notOverATurnedClass [.type "object"] = Sem.pure () := by kernel_rfl
theorem c7 : Builtin.mroHook? (.type "type") = Sem.pure none := by kernel_rfl
theorem c9 : Builtin.Slots.givesWeak (.type "object") = Sem.pure false := by kernel_rfl
theorem l1 : typeLookup (.type "dict") (Str.ofString "__iter__") = Sem.pure (some (.builtin "dict.__iter__")) := by kernel_rfl
theorem l2 : Builtin.Slots.bestBase [.type "object"] = Sem.pure (.type "object") := by kernel_rfl
theorem l3 : PySem.Builtin.Slots.slotNamesOf (.type "object") = Sem.pure [] := by kernel_rfl
theorem l4 : Builtin.Slots.givesDict (.type "object") = Sem.pure false := by kernel_rfl
theorem l5 : Builtin.Slots.varSize (.type "object") = Sem.pure false := by kernel_rfl
theorem sn_str : typeLookup (.type "str") (Str.ofString "__set_name__") = Sem.pure none := by kernel_rfl
theorem sn_int : typeLookup (.type "int") (Str.ofString "__set_name__") = Sem.pure none := by kernel_rfl
theorem sn_list : typeLookup (.type "list") (Str.ofString "__set_name__") = Sem.pure none := by kernel_rfl
theorem sn_function : typeLookup (.type "function") (Str.ofString "__set_name__") = Sem.pure none := by kernel_rfl
theorem sn_NoneType : typeLookup (.type "NoneType") (Str.ofString "__set_name__") = Sem.pure none := by kernel_rfl
theorem sn_tuple : typeLookup (.type "tuple") (Str.ofString "__set_name__") = Sem.pure none := by kernel_rfl
theorem sn_mem : typeLookup (.type "member_descriptor") (Str.ofString "__set_name__") = Sem.pure none := by kernel_rfl
end Mine

-- TSD
namespace Mine
/-- the class K -/
def oK (C ns basesA : Addr) (tn v1 : Tok) : Obj := { cls := .type "type", data := .cls { name := ⟨#[75]⟩, bases := [.type "object"], mro := [.ref C, .type "object"], ns := ns, qualname := ⟨#[99, 109, 112, 95, 116, 111, 95, 107, 101, 121, 46, 60, 108, 111, 99, 97, 108, 115, 62, 46, 75]⟩, hasDict := false, slotNames := [⟨#[111, 98, 106]⟩], subclasses := [], abstract := false, collection := none, hasDel := false }, slots := #[some (.ref basesA), none, some (.str ⟨#[75]⟩ tn), some (.str ⟨#[99, 109, 112, 95, 116, 111, 95, 107, 101, 121, 46, 60, 108, 111, 99, 97, 108, 115, 62, 46, 75]⟩ v1), some (.builtin "object.__new__"), some (.bool false)] }
/-- its one slot's descriptor -/
def oMd (C : Addr) (x : Tok) : Obj := { cls := .type "member_descriptor", data := .fields #[.str ⟨#[111, 98, 106]⟩ x, .ref C, .builtin "proto.slot", .builtin "proto.slot#set", .int 0 0] }
/-- its names -/
def oNs (w : World) (md slA saA f0 f1 f2 f3 f4 f5 : Addr) (hh0 hh2 hh3 hh4 hh5 hh6 hh7 hh8 hh9 hh10 hh11 : Int) (t0 t2 t3 t4 t5 t6 t7 t8 t9 t10 t11 v0 v2 x : Tok) : Obj :=
  { cls := .type "dict", data := .dict #[⟨hh0, .str ⟨#[95, 95, 109, 111, 100, 117, 108, 101, 95, 95]⟩ t0, .str ⟨#[99, 112, 121, 51, 49, 51, 46, 102, 117, 110, 99, 116, 111, 111, 108, 115]⟩ v0⟩, ⟨hh2, .str ⟨#[95, 95, 102, 105, 114, 115, 116, 108, 105, 110, 101, 110, 111, 95, 95]⟩ t2, .int 4 v2⟩, ⟨hh3, .str ⟨#[95, 95, 115, 108, 111, 116, 115, 95, 95]⟩ t3, .ref slA⟩, ⟨hh4, .str ⟨#[95, 95, 105, 110, 105, 116, 95, 95]⟩ t4, .ref f0⟩, ⟨hh5, .str ⟨#[95, 95, 108, 116, 95, 95]⟩ t5, .ref f1⟩, ⟨hh6, .str ⟨#[95, 95, 103, 116, 95, 95]⟩ t6, .ref f2⟩, ⟨hh7, .str ⟨#[95, 95, 101, 113, 95, 95]⟩ t7, .ref f3⟩, ⟨hh8, .str ⟨#[95, 95, 108, 101, 95, 95]⟩ t8, .ref f4⟩, ⟨hh9, .str ⟨#[95, 95, 103, 101, 95, 95]⟩ t9, .ref f5⟩, ⟨hh10, .str ⟨#[95, 95, 104, 97, 115, 104, 95, 95]⟩ t10, .none⟩, ⟨hh11, .str ⟨#[95, 95, 115, 116, 97, 116, 105, 99, 95, 97, 116, 116, 114, 105, 98, 117, 116, 101, 115, 95, 95]⟩ t11, .ref saA⟩, ⟨reduceHash (w.params.strHash #[111, 98, 106]), .str ⟨#[111, 98, 106]⟩ (x + 1), .ref md⟩, ⟨reduceHash (w.params.strHash #[95, 95, 100, 111, 99, 95, 95]), .str ⟨#[95, 95, 100, 111, 99, 95, 95]⟩ (x + 2), .none⟩] 3 }
theorem Lg.cast4 {but h₀ h a1 a2 a3 a4 o1 o2 o3 o4 p1 p2 p3 p4} (L : Lg but h₀ h [(a1, o1), (a2, o2), (a3, o3), (a4, o4)]) (e1 : o1 = p1) (e2 : o2 = p2) (e3 : o3 = p3) (e4 : o4 = p4) : Lg but h₀ h [(a1, p1), (a2, p2), (a3, p3), (a4, p4)] := by
  subst e1 e2 e3 e4; exact L
end Mine

-- Mini2
namespace Mine
/-- wpAny, closed to the unifier's eyes -/
structure WP {α : Type} (M : Model) (A : Around) (t : Sem α) (Q : α → Shared → Prop) (E : Value → Shared → Prop) (s : Shared) : Prop where
  out : wpAny M A t Q E s
section
variable {α β : Type} {prog : Program} {w : World} {A : Around} {E : Value → Shared → Prop} {Q : α → Shared → Prop}
theorem WP.mono {M : Model} {t : Sem α} {Q' : α → Shared → Prop} {s : Shared} (h : WP M A t Q' E s) (k : ∀ a s', Q' a s' → Q a s') : WP M A t Q E s := ⟨wpAny_mono h.out k fun _ _ e => e⟩
/-- what follows, under one name: the binders of a lambda would write all of it anew -/
@[reducible] def BQ (M : Model) (A : Around) (f : β → Sem α) (Q : α → Shared → Prop) (E : Value → Shared → Prop) : β → Shared → Prop := fun a s' => WP M A (f a) Q E s'
@[reducible] def OkQ (Q : Except Value α → Shared → Prop) : α → Shared → Prop := fun a => Q (.ok a)
@[reducible] def ErQ (Q : Except Value α → Shared → Prop) : Value → Shared → Prop := fun e => Q (.error e)
@[reducible] def OnQ (M : Model) (A : Around) (k : Value → Sem Unit) (E : Value → Shared → Prop) : Value → Shared → Prop := fun e s' => WP M A (k e) (fun _ s'' => E e s'') E s'
theorem p_bind {M : Model} {s : Shared} {m : Sem β} {f : β → Sem α} (h : WP M A m (BQ M A f Q E) E s) : WP M A (m >>= f) Q E s :=
  ⟨wpAny_bind (wpAny_mono h.out (fun _ _ x => x.out) fun _ _ e => e)⟩
theorem p_sbind {M : Model} {s : Shared} {m : Sem β} {f : β → Sem α} (h : WP M A m (BQ M A f Q E) E s) : WP M A (Sem.bind m f) Q E s := p_bind h
theorem p_pure {s : Shared} {a : α} (h : Q a s) : WP (model prog w) A (Sem.pure a) Q E s := ⟨wpAny_pure h⟩
theorem p_raise {s : Shared} {e : Value} (h : E e s) : WP (model prog w) A (Sem.raise e : Sem α) Q E s := ⟨wpAny_throw h⟩
theorem p_rule {s : Shared} {t : String} {k : Unit → Sem α} (h : WP (model prog w) A (k ()) Q E s) : WP (model prog w) A (.rule t k) Q E s := ⟨x_rule h.out⟩
theorem p_at {s : Shared} {q : Pos} {k : Unit → Sem α} (h : WP (model prog w) A (k ()) Q E s) : WP (model prog w) A (.at q k) Q E s := ⟨x_at h.out⟩
theorem p_point {s : Shared} {l : List Value} {k : Unit → Sem α} (h : WP (model prog w) A (k ()) Q E s) : WP (model prog w) A (.point l k) Q E s := ⟨x_point h.out⟩
theorem p_ask {s : Shared} {k : Setting → Sem α} (h : WP (model prog w) A (k ⟨prog, w.params⟩) Q E s) : WP (model prog w) A (.ask k) Q E s := ⟨x_ask h.out⟩
theorem p_load {h g d t os} {a : Addr} {q : Option Value} {k : Obj → Sem α} {o : Obj} (ho : Heap.get? h a = some o) (x : WP (model prog w) A (k o) Q E ⟨h, g, d, t, os⟩) : WP (model prog w) A (.load a q k) Q E ⟨h, g, d, t, os⟩ := ⟨x_load ho x.out⟩
theorem p_alive {h g d t os} {a : Addr} {k : Option Obj → Sem α} {o : Obj} (ho : Heap.get? h a = some o) (x : WP (model prog w) A (k (some o)) Q E ⟨h, g, d, t, os⟩) : WP (model prog w) A (.loadIfAlive a k) Q E ⟨h, g, d, t, os⟩ := ⟨m_loadAlive ho x.out⟩
theorem p_fresh {h g d t os} {k : Tok → Sem α} (x : WP (model prog w) A (k t) Q E ⟨h, g, d, t + 1, os⟩) : WP (model prog w) A (.fresh k) Q E ⟨h, g, d, t, os⟩ := ⟨m_fresh x.out⟩
theorem p_freshK {h g d os} {b n : Nat} {k : Tok → Sem α} (x : WP (model prog w) A (k (b + n)) Q E ⟨h, g, d, b + (n + 1), os⟩) : WP (model prog w) A (.fresh k) Q E ⟨h, g, d, b + n, os⟩ := p_fresh x
theorem p_alloc {but : List Addr} {h₀ h : Heap} {news : List (Addr × Obj)} {g d t os} {o : Obj} {k : Addr → Sem α} (L : Lg but h₀ h news) (hf : o.isFreed = false)
    (x : ∀ a h', Lg but h₀ h' ((a, o) :: news) → WP (model prog w) A (k a) Q E ⟨h', g, d, t, os⟩) : WP (model prog w) A (.alloc o k) Q E ⟨h, g, d, t, os⟩ := ⟨m_alloc L hf fun a h' D => (x a h' D).out⟩
theorem p_allocN {but : List Addr} {h₀ h : Heap} {news : List (Addr × Obj)} {g d t os} {o o' : Obj} {k : Addr → Sem α} (L : Lg but h₀ h news) (e : o = o') (hf : o'.isFreed = false)
    (x : ∀ a h', Lg but h₀ h' ((a, o') :: news) → WP (model prog w) A (k a) Q E ⟨h', g, d, t, os⟩) : WP (model prog w) A (.alloc o k) Q E ⟨h, g, d, t, os⟩ := by subst e; exact p_alloc L hf x
theorem p_allocFn {but : List Addr} {h₀ h : Heap} {news : List (Addr × Obj)} {g d t os} {cl : Value} {fd : FuncData} {k : Addr → Sem α} (L : Lg but h₀ h news)
    (x : ∀ a h', Lg but h₀ h' ((a, { cls := cl, data := .func fd }) :: news) → WP (model prog w) A (k a) Q E ⟨h', g, d, t, os⟩) : WP (model prog w) A (.alloc { cls := cl, data := .func fd } k) Q E ⟨h, g, d, t, os⟩ := p_alloc L rfl x
theorem p_update {but : List Addr} {h₀ h : Heap} {news news' : List (Addr × Obj)} {g d t os} {a : Addr} {q : Option Value} {f : Obj → Obj} {k : Unit → Sem α} {o o' : Obj} (L : Lg but h₀ h news) (U : SetAt a o o' news news') (e : f o = o')
    (hf : o'.isFreed = false) (x : ∀ h', Lg but h₀ h' news' → WP (model prog w) A (k ()) Q E ⟨h', g, d, t, os⟩) : WP (model prog w) A (.update a q f k) Q E ⟨h, g, d, t, os⟩ := ⟨m_update L U e hf fun h' D => (x h' D).out⟩
theorem p_updateF {but : List Addr} {h₀ h : Heap} {news news' : List (Addr × Obj)} {g d t os} {a : Addr} {q : Option Value} {f : Obj → Obj} {k : Unit → Sem α} {vs : Array Value} {o' : Obj} (L : Lg but h₀ h news) (U : SetAt a { cls := .none, data := .fields vs } o' news news') (e : f { cls := .none, data := .fields vs } = o')
    (hf : o'.isFreed = false) (x : ∀ h', Lg but h₀ h' news' → WP (model prog w) A (k ()) Q E ⟨h', g, d, t, os⟩) : WP (model prog w) A (.update a q f k) Q E ⟨h, g, d, t, os⟩ := p_update L U e hf x
theorem p_is {M : Model} {s : Shared} {m m' : Sem α} (e : m = m') (h : WP M A m' Q E s) : WP M A m Q E s := e ▸ h
theorem p_val {s : Shared} {m : Sem α} {a : α} (e : m = Sem.pure a) (h : Q a s) : WP (model prog w) A m Q E s := by rw [e]; exact p_pure h
theorem p_iteF {M : Model} {s : Shared} {c : Prop} [Decidable c] {t e : Sem α} (hc : ¬ c) (h : WP M A e Q E s) : WP M A (if c then t else e) Q E s := by rw [if_neg hc]; exact h
theorem p_iteT {M : Model} {s : Shared} {c : Prop} [Decidable c] {t e : Sem α} (hc : c) (h : WP M A t Q E s) : WP M A (if c then t else e) Q E s := by rw [if_pos hc]; exact h
theorem p_iteB {M : Model} {s : Shared} {b : Bool} {t e : Sem α} (hb : b = true) (h : WP M A t Q E s) : WP M A (if b = true then t else e) Q E s := by rw [if_pos hb]; exact h
theorem p_iteN {M : Model} {s : Shared} {b : Bool} {t e : Sem α} (hb : b = false) (h : WP M A e Q E s) : WP M A (if b = true then t else e) Q E s := by rw [if_neg (by rw [hb]; exact Bool.false_ne_true)]; exact h
theorem p_slot {s : Shared} {a : Addr} {i : Nat} {v : Option Value} {Q : Unit → Shared → Prop} (hi : (decide (i ≥ sizeLine)) = false) (h : WP (model prog w) A (updatePart a (some (slotPart i)) fun o => { o with slots := (o.slots ++ Array.replicate (i + 1 - o.slots.size) none).setIfInBounds i v }) Q E s) : WP (model prog w) A (setSlotAt a i v) Q E s := ⟨m_slot hi h.out⟩
theorem p_try {s : Shared} {m : Sem α} {k : Value → Sem α} (h : WP (model prog w) A m Q (BQ (model prog w) A k Q E) s) : WP (model prog w) A (Sem.tryCatch m k) Q E s := ⟨m_try (wpAny_mono h.out (fun _ _ x => x) fun _ _ e => e.out)⟩
theorem p_try' {s : Shared} {m : Sem α} {k : Value → Sem α} (h : WP (model prog w) A m Q (BQ (model prog w) A k Q E) s) : WP (model prog w) A (MonadExcept.tryCatch m k) Q E s := p_try h
theorem p_attempt {M : Model} {s : Shared} {m : Sem α} {Q : Except Value α → Shared → Prop} (h : WP M A m (OkQ Q) (ErQ Q) s) : WP M A m.attempt Q E s := ⟨wpAny_attempt h.out⟩
theorem p_keep {s : Shared} {vs : List Value} {m : Sem α} (h : WP (model prog w) A m Q E s) : WP (model prog w) A (Sem.keep vs m) Q E s := ⟨m_keep h.out⟩
theorem p_holding {s : Shared} {vs : List Value} {m : Sem α} (h : WP (model prog w) A m Q E s) : WP (model prog w) A (holding vs m) Q E s := ⟨m_holding h.out⟩
theorem p_onRaise {M : Model} {s : Shared} {m : Sem α} {k : Value → Sem Unit} (h : WP M A m Q (OnQ M A k E) s) : WP M A (m.onRaise k) Q E s := ⟨wpAny_onRaise (wpAny_mono h.out (fun _ _ x => x) fun _ _ e => e.out)⟩
theorem p_standAt {M : Model} {s : Shared} {pos : Pos} {Q : Unit → Shared → Prop} (h : Q () s) : WP M A (standAt pos) Q E s := ⟨wpAny_standAt h⟩
theorem p_enter {M : Model} {h g d t os} {Q : Unit → Shared → Prop} (nl : Heap.NoLimit h) (dp : A.depth < recursionLimit) (x : Q () ⟨h, g, d, t, os⟩) : WP M A enterFrame Q E ⟨h, g, d, t, os⟩ := ⟨wpAny_enterFrame nl dp x⟩
theorem p_call {h g d t os} {f : Value} {args : List Value} {kw : List (Str × Value)} {Q : Value → Shared → Prop} (x : wpAny (model prog w) A (PySem.call f args kw) Q E ⟨h, g, d, t, os⟩) : WP (model prog w) A (PySem.call f args kw) Q E ⟨h, g, d, t, os⟩ := ⟨x⟩
theorem p_callB {h g d t os} {f : Value} {args : List Value} {kw : List (Str × Value)} {k : Value → Sem α} (x : wpAny (model prog w) A (PySem.call f args kw) (fun v s' => WP (model prog w) A (k v) Q E s') E ⟨h, g, d, t, os⟩) : WP (model prog w) A (Sem.bind (PySem.call f args kw) k) Q E ⟨h, g, d, t, os⟩ := p_sbind ⟨x⟩
structure Bx (P : Prop) : Prop where
  out : P
/-- the head of a tree, seen: the unifier brings it to its head form, and the proof does not tell how -/
noncomputable def See (M : Model) (A : Around) (Q : α → Shared → Prop) (E : Value → Shared → Prop) (s : Shared) (m : Sem α) : Prop :=
  Sem.casesOn (motive := fun _ => Prop) m
    (fun a => Bx (WP M A (.pure a) Q E s)) (fun e => Bx (WP M A (.raise e) Q E s)) (fun e => Bx (WP M A (.unsupported e) Q E s)) (fun e => Bx (WP M A (.finish e) Q E s))
    (fun a k => Bx (WP M A (.rule a k) Q E s)) (fun a k => Bx (WP M A (.at a k) Q E s)) (fun a b k => Bx (WP M A (.load a b k) Q E s)) (fun a b f k => Bx (WP M A (.update a b f k) Q E s))
    (fun a k => Bx (WP M A (.alloc a k) Q E s)) (fun a k => Bx (WP M A (.loadIfAlive a k) Q E s)) (fun a k => Bx (WP M A (.point a k) Q E s)) (fun a k => Bx (WP M A (.register a k) Q E s))
    (fun k => Bx (WP M A (.fresh k) Q E s)) (fun k => Bx (WP M A (.ask k) Q E s)) (fun a b k => Bx (WP M A (.choose a b k) Q E s)) (fun a b k => Bx (WP M A (.os a b k) Q E s))
    (fun a b c l k => Bx (WP M A (.call a b c l k) Q E s)) (fun a k => Bx (WP M A (.handled a k) Q E s)) (fun a k => Bx (WP M A (.newGen a k) Q E s)) (fun a k => Bx (WP M A (.genState a k) Q E s))
    (fun a b c k => Bx (WP M A (.resume a b c k) Q E s)) (fun a b c k => Bx (WP M A (.yield a b c k) Q E s)) (fun k => Bx (WP M A (.stack k) Q E s)) (fun a k => Bx (WP M A (.fork a k) Q E s))
    (fun k => Bx (WP M A (.thread k) Q E s)) (fun a b c l k => Bx (WP M A (.await a b c l k) Q E s))
theorem p_see {M : Model} {s : Shared} {m : Sem α} (h : See M A Q E s m) : WP M A m Q E s := by
  cases m <;> exact h.out
theorem WP.id' {M : Model} {s : Shared} {m : Sem α} (h : WP M A m Q E s) : WP M A m Q E s := h
theorem WP.noE {M : Model} {s : Shared} {m : Sem α} (h : ∀ EE, WP M A m Q EE s) : WP M A m Q E s := h E
theorem WP.hide {M : Model} {s : Shared} {m : Sem α} (h : ∀ QQ : α → Shared → Prop, (∀ a s', Q a s' → QQ a s') → WP M A m QQ E s) : WP M A m Q E s := h Q fun _ _ x => x
end
section
variable {α : Type} {prog : Program} {w : World} {A : Around} {E : Value → Shared → Prop} {Q : α → Shared → Prop} {but : List Addr} {h₀ h : Heap} {news : List (Addr × Obj)} {g : Array GenState} {d : Drawn} {t : Nat} {os : OsState}
theorem Lg.hitE {a : Addr} {q o : Obj} (L : Lg but h₀ h news) (hm : (a, q) ∈ news) (e : q = o) : h.get? a = some o := e ▸ L.hit hm
theorem p_allocG {o o' : Obj} {k : Addr → Sem α} (L : Lg but h₀ h news) (e : o = o') (hf : o'.isFreed = false)
    (x : ∀ a h' q, q = o' → Lg but h₀ h' ((a, q) :: news) → WP (model prog w) A (k a) Q E ⟨h', g, d, t, os⟩) : WP (model prog w) A (.alloc o k) Q E ⟨h, g, d, t, os⟩ :=
  p_allocN L e hf fun a h' D => x a h' _ rfl D
theorem p_allocFnG {cl : Value} {fd : FuncData} {k : Addr → Sem α} (L : Lg but h₀ h news)
    (x : ∀ a h' q, q = ({ cls := cl, data := .func fd } : Obj) → Lg but h₀ h' ((a, q) :: news) → WP (model prog w) A (k a) Q E ⟨h', g, d, t, os⟩) : WP (model prog w) A (.alloc { cls := cl, data := .func fd } k) Q E ⟨h, g, d, t, os⟩ :=
  p_allocFn L fun a h' D => x a h' _ rfl D
theorem p_updateG {nf : Obj → List (Addr × Obj)} {a : Addr} {q : Option Value} {f : Obj → Obj} {k : Unit → Sem α} {q₁ o o' : Obj} (L : Lg but h₀ h news) (U : ∀ y, SetAt a q₁ y news (nf y)) (e1 : q₁ = o) (e : f o = o')
    (hf : o'.isFreed = false) (x : ∀ h' y, y = o' → Lg but h₀ h' (nf y) → WP (model prog w) A (k ()) Q E ⟨h', g, d, t, os⟩) : WP (model prog w) A (.update a q f k) Q E ⟨h, g, d, t, os⟩ :=
  p_update L (U o') (by rw [e1]; exact e) hf fun h' D => x h' _ rfl D
theorem p_updateFG {nf : Obj → List (Addr × Obj)} {a : Addr} {q : Option Value} {f : Obj → Obj} {k : Unit → Sem α} {q₁ o' : Obj} {vs : Array Value} (L : Lg but h₀ h news) (U : ∀ y, SetAt a q₁ y news (nf y)) (e1 : q₁ = { cls := .none, data := .fields vs })
    (e : f { cls := .none, data := .fields vs } = o')
    (hf : o'.isFreed = false) (x : ∀ h' y, y = o' → Lg but h₀ h' (nf y) → WP (model prog w) A (k ()) Q E ⟨h', g, d, t, os⟩) : WP (model prog w) A (.update a q f k) Q E ⟨h, g, d, t, os⟩ :=
  p_updateG L U e1 e hf x
end
section
variable {prog : Program} {w : World} {A : Around} {E : Value → Shared → Prop} {s : Shared} {env : Env}
structure At {β : Type} (QQ : β → Shared → Prop) (a : β) (s : Shared) : Prop where
  out : QQ a s
/-- the statements that follow, kept out of sight -/
structure HidS (M : Model) (A : Around) (E : Value → Shared → Prop) (rest : List Stmt) (env : Env) (Q : Flow → Shared → Prop) (QQ : Flow → Shared → Prop) : Prop where
  go : ∀ s', WP M A (execs rest env) Q E s' → QQ .next s'
  ret : ∀ v s', Q (.ret v) s' → QQ (.ret v) s'
theorem p_execsH {st : Stmt} {rest : List Stmt} {Q : Flow → Shared → Prop} (h : ∀ QQ, HidS (model prog w) A E rest env Q QQ → WP (model prog w) A (exec st env) (At QQ) E s) : WP (model prog w) A (execs (st :: rest) env) Q E s :=
  ⟨wpAny_execs_cons (wpAny_mono (h (fun f s' => match f with | .next => wpAny (model prog w) A (execs rest env) Q E s' | f => Q f s') ⟨fun _ x => x.out, fun _ _ x => x⟩).out (fun _ _ y => y.out) fun _ _ e => e)⟩
theorem p_goS {M : Model} {rest : List Stmt} {Q : Flow → Shared → Prop} {QQ : Flow → Shared → Prop} (H : HidS M A E rest env Q QQ) (h : WP M A (execs rest env) Q E s) : At QQ .next s := ⟨H.go s h⟩
theorem p_goR {M : Model} {rest : List Stmt} {v : Value} {Q : Flow → Shared → Prop} {QQ : Flow → Shared → Prop} (H : HidS M A E rest env Q QQ) (h : Q (.ret v) s) : At QQ (.ret v) s := ⟨H.ret v s h⟩
end
end Mine

-- KK
namespace Mine
/-- the i-th method of the class in cmp_to_key, as the program's text has it -/
noncomputable def methodAt (p : Params) (i : Nat) : Option Stmt := match (topK p).lookup 21 with
  | some ⟨_, _, .func ⟨_, _, _, .stmts (.ClassDef _ _ _ b _ _ _ _ _ _ _ :: _), _, _, _, _, _, _, _, _, _, _, _⟩, _⟩ => (b.drop (i + 2)).head?
  | _ => none
noncomputable def oFunO (p : Params) (i : Nat) (q : Str) (cl : List (Str × Addr)) (code ct : Value) : Option Obj := match methodAt p i with
  | some (.FunctionDef name params body _ _ _ scope _ _ _) => some { cls := .type "function", data := .func { name := name, qualname := q, params := params, body := .stmts body, scope := scope, globals := 3, closure := cl, defaults := .none, kwdefaults := .none, pyModule := .str (Str.ofString "law_xc0001_01") 211, code := code, closureTuple := ct } }
  | _ => none
set_option genInjectivity false in
set_option genSizeOf false in
/-- a code object's changing parts -/
structure CD where
  (c fv tab x1 x2 x3 : Addr) (t1 t2 t3 t5 : Tok) (t4 : Nat)
def oCode (nm q : Str) (line : Int) (D : CD) : Obj :=
  { cls := .type "code", data := .fields #[.str nm D.t1, .str q D.t2, .str ⟨#[47, 99, 108, 97, 105, 109, 47, 99, 117, 116, 46, 112, 121]⟩ D.t3, .int line 0, .int 2 0, .int 0 0, .int 0 0, .int 19 0, .ref D.fv, .bool true, .int 181 0, .ref D.tab, .none, .ref D.x1, .ref D.x2, .ref D.x3, .int (Int.ofNat D.t4) 0, .int line 0, .str ⟨#[47, 99, 108, 97, 105, 109, 47, 99, 117, 116, 46, 112, 121]⟩ D.t5] }
def oCode0 (D : CD) : Obj :=
  { cls := .type "code", data := .fields #[.str ⟨#[75]⟩ D.t1, .str ⟨#[99, 109, 112, 95, 116, 111, 95, 107, 101, 121, 46, 60, 108, 111, 99, 97, 108, 115, 62, 46, 75]⟩ D.t2, .str ⟨#[47, 99, 108, 97, 105, 109, 47, 99, 117, 116, 46, 112, 121]⟩ D.t3, .int 4 0, .int 0 0, .int 0 0, .int 0 0, .int 0 0, .ref D.fv, .bool true, .int 181 0, .ref D.tab, .none, .none, .none, .none, .int (Int.ofNat D.t4) 0, .int 4 0, .str ⟨#[47, 99, 108, 97, 105, 109, 47, 99, 117, 116, 46, 112, 121]⟩ D.t5] }
set_option genInjectivity false in
set_option genSizeOf false in
/-- the codes of the class and its methods -/
structure TD where
  (k d0 d1 d2 d3 d4 d5 : CD)
structure TabOK (w : World) (h : Heap) (T : TD) : Prop where
  t16 : h.get? 16 = some { cls := .none, data := .fields #[.int 4 0, .int 4 0, .ref T.k.c] }
  hk : h.get? T.k.c = some (oCode0 T.k)
  hp : h.get? T.k.tab = some { cls := .none, data := .fields #[.int 8 0, .int 8 0, .ref T.d0.c, .int 11 0, .int 8 0, .ref T.d1.c, .int 14 0, .int 8 0, .ref T.d2.c, .int 17 0, .int 8 0, .ref T.d3.c, .int 20 0, .int 8 0, .ref T.d4.c, .int 23 0, .int 8 0, .ref T.d5.c] }
  c0 : h.get? T.d0.c = some (oCode ⟨#[95, 95, 105, 110, 105, 116, 95, 95]⟩ ⟨#[99, 109, 112, 95, 116, 111, 95, 107, 101, 121, 46, 60, 108, 111, 99, 97, 108, 115, 62, 46, 75, 46, 95, 95, 105, 110, 105, 116, 95, 95]⟩ 8 T.d0)
  c1 : h.get? T.d1.c = some (oCode ⟨#[95, 95, 108, 116, 95, 95]⟩ ⟨#[99, 109, 112, 95, 116, 111, 95, 107, 101, 121, 46, 60, 108, 111, 99, 97, 108, 115, 62, 46, 75, 46, 95, 95, 108, 116, 95, 95]⟩ 11 T.d1)
  c2 : h.get? T.d2.c = some (oCode ⟨#[95, 95, 103, 116, 95, 95]⟩ ⟨#[99, 109, 112, 95, 116, 111, 95, 107, 101, 121, 46, 60, 108, 111, 99, 97, 108, 115, 62, 46, 75, 46, 95, 95, 103, 116, 95, 95]⟩ 14 T.d2)
  c3 : h.get? T.d3.c = some (oCode ⟨#[95, 95, 101, 113, 95, 95]⟩ ⟨#[99, 109, 112, 95, 116, 111, 95, 107, 101, 121, 46, 60, 108, 111, 99, 97, 108, 115, 62, 46, 75, 46, 95, 95, 101, 113, 95, 95]⟩ 17 T.d3)
  c4 : h.get? T.d4.c = some (oCode ⟨#[95, 95, 108, 101, 95, 95]⟩ ⟨#[99, 109, 112, 95, 116, 111, 95, 107, 101, 121, 46, 60, 108, 111, 99, 97, 108, 115, 62, 46, 75, 46, 95, 95, 108, 101, 95, 95]⟩ 20 T.d4)
  c5 : h.get? T.d5.c = some (oCode ⟨#[95, 95, 103, 101, 95, 95]⟩ ⟨#[99, 109, 112, 95, 116, 111, 95, 107, 101, 121, 46, 60, 108, 111, 99, 97, 108, 115, 62, 46, 75, 46, 95, 95, 103, 101, 95, 95]⟩ 23 T.d5)
set_option genInjectivity false in
set_option genSizeOf false in
/-- a class that cmp_to_key made -/
structure KD where
  (C ns md ba sl sa cell f0 f1 f2 f3 f4 f5 ct1 ct2 ct3 ct4 ct5 : Addr) (tn v1 x t0 t2 t3 t4 t5 t6 t7 t8 t9 t10 t11 v0 v2 : Tok)
structure KOK (w : World) (h : Heap) (T : TD) (K : KD) (v : Value) : Prop where
  hC : h.get? K.C = some (oK K.C K.ns K.ba K.tn K.v1)
  hmd : h.get? K.md = some (oMd K.C K.x)
  hba : h.get? K.ba = some { cls := .type "tuple", data := .seq #[.type "object"] 0 }
  hns : h.get? K.ns = some (oNs w K.md K.sl K.sa K.f0 K.f1 K.f2 K.f3 K.f4 K.f5 (reduceHash (w.params.strHash #[95, 95, 109, 111, 100, 117, 108, 101, 95, 95])) (reduceHash (w.params.strHash #[95, 95, 102, 105, 114, 115, 116, 108, 105, 110, 101, 110, 111, 95, 95])) (reduceHash (w.params.strHash #[95, 95, 115, 108, 111, 116, 115, 95, 95])) (reduceHash (w.params.strHash #[95, 95, 105, 110, 105, 116, 95, 95])) (reduceHash (w.params.strHash #[95, 95, 108, 116, 95, 95])) (reduceHash (w.params.strHash #[95, 95, 103, 116, 95, 95])) (reduceHash (w.params.strHash #[95, 95, 101, 113, 95, 95])) (reduceHash (w.params.strHash #[95, 95, 108, 101, 95, 95])) (reduceHash (w.params.strHash #[95, 95, 103, 101, 95, 95])) (reduceHash (w.params.strHash #[95, 95, 104, 97, 115, 104, 95, 95])) (reduceHash (w.params.strHash #[95, 95, 115, 116, 97, 116, 105, 99, 95, 97, 116, 116, 114, 105, 98, 117, 116, 101, 115, 95, 95])) K.t0 K.t2 K.t3 K.t4 K.t5 K.t6 K.t7 K.t8 K.t9 K.t10 K.t11 K.v0 K.v2 K.x)
  hcell : h.get? K.cell = some { cls := .type "cell", data := .cell (some v) }
  f0 : ∀ o, oFunO w.params 0 ⟨#[99, 109, 112, 95, 116, 111, 95, 107, 101, 121, 46, 60, 108, 111, 99, 97, 108, 115, 62, 46, 75, 46, 95, 95, 105, 110, 105, 116, 95, 95]⟩ [] (.ref T.d0.c) .none = some o → h.get? K.f0 = some o
  f1 : ∀ o, oFunO w.params 1 ⟨#[99, 109, 112, 95, 116, 111, 95, 107, 101, 121, 46, 60, 108, 111, 99, 97, 108, 115, 62, 46, 75, 46, 95, 95, 108, 116, 95, 95]⟩ [(Str.ofString "mycmp", K.cell)] (.ref T.d1.c) (.ref K.ct1) = some o → h.get? K.f1 = some o
  f2 : ∀ o, oFunO w.params 2 ⟨#[99, 109, 112, 95, 116, 111, 95, 107, 101, 121, 46, 60, 108, 111, 99, 97, 108, 115, 62, 46, 75, 46, 95, 95, 103, 116, 95, 95]⟩ [(Str.ofString "mycmp", K.cell)] (.ref T.d2.c) (.ref K.ct2) = some o → h.get? K.f2 = some o
  f3 : ∀ o, oFunO w.params 3 ⟨#[99, 109, 112, 95, 116, 111, 95, 107, 101, 121, 46, 60, 108, 111, 99, 97, 108, 115, 62, 46, 75, 46, 95, 95, 101, 113, 95, 95]⟩ [(Str.ofString "mycmp", K.cell)] (.ref T.d3.c) (.ref K.ct3) = some o → h.get? K.f3 = some o
  f4 : ∀ o, oFunO w.params 4 ⟨#[99, 109, 112, 95, 116, 111, 95, 107, 101, 121, 46, 60, 108, 111, 99, 97, 108, 115, 62, 46, 75, 46, 95, 95, 108, 101, 95, 95]⟩ [(Str.ofString "mycmp", K.cell)] (.ref T.d4.c) (.ref K.ct4) = some o → h.get? K.f4 = some o
  f5 : ∀ o, oFunO w.params 5 ⟨#[99, 109, 112, 95, 116, 111, 95, 107, 101, 121, 46, 60, 108, 111, 99, 97, 108, 115, 62, 46, 75, 46, 95, 95, 103, 101, 95, 95]⟩ [(Str.ofString "mycmp", K.cell)] (.ref T.d5.c) (.ref K.ct5) = some o → h.get? K.f5 = some o
theorem TabOK.keeps {w : World} {h h' : Heap} {T : TD} (x : TabOK w h T) (k : Keeps h h') : TabOK w h' T :=
  ⟨k _ _ x.t16, k _ _ x.hk, k _ _ x.hp, k _ _ x.c0, k _ _ x.c1, k _ _ x.c2, k _ _ x.c3, k _ _ x.c4, k _ _ x.c5⟩
theorem KOK.keeps {w : World} {h h' : Heap} {T : TD} {K : KD} {v : Value} (x : KOK w h T K v) (k : Keeps h h') : KOK w h' T K v :=
  ⟨k _ _ x.hC, k _ _ x.hmd, k _ _ x.hba, k _ _ x.hns, k _ _ x.hcell, fun o e => k _ _ (x.f0 o e), fun o e => k _ _ (x.f1 o e), fun o e => k _ _ (x.f2 o e), fun o e => k _ _ (x.f3 o e), fun o e => k _ _ (x.f4 o e), fun o e => k _ _ (x.f5 o e)⟩
/-- what stands of the top: its objects, the builtins, the module of builtins -/
structure Old (w : World) (h : Heap) : Prop where
  fr : ∀ a o, (topK w.params).lookup a = some o → Nat.beq a 16 = false → Nat.beq a 65 = false → h.get? a = some o
  bi : ∃ mb, h.Ns 0 mb ∧ ∀ x : Str, x ≠ Str.ofString "__name__" → mb x = bootBuiltins x
  m4 : ∃ sl, h.get? 4 = some { cls := .type "module", dict := some 0, data := .plain, slots := sl }
theorem Old.mk2 {w : World} {h h' : Heap} (x : Old w h) (f : ∀ a o, (topK w.params).lookup a = some o → Nat.beq a 16 = false → Nat.beq a 65 = false → h.get? a = some o → h'.get? a = some o)
    (k0 : ∀ o, h.get? 0 = some o → h'.get? 0 = some o) (k4 : ∀ o, h.get? 4 = some o → h'.get? 4 = some o) : Old w h' :=
  ⟨fun a o e p q => f a o e p q (x.fr a o e p q), let ⟨mb, ⟨o, es, ep, e, r⟩, y⟩ := x.bi; ⟨mb, ⟨o, es, ep, k0 _ e, r⟩, y⟩, let ⟨sl, e⟩ := x.m4; ⟨sl, k4 _ e⟩⟩
theorem Old.keeps {w : World} {h h' : Heap} (x : Old w h) (k : Keeps h h') : Old w h' := x.mk2 (fun _ _ _ _ _ e => k _ _ e) (fun _ e => k _ _ e) fun _ e => k _ _ e
/-- names that do not touch the top -/
def Apart (w : World) (C : List Addr) : Prop := (∀ a o, (topK w.params).lookup a = some o → Nat.beq a 16 = false → Nat.beq a 65 = false → a ∉ C) ∧ 0 ∉ C ∧ 4 ∉ C
/-- kept, but for the code tables -/
structure KeepsT (h h' : Heap) : Prop where
  keep : ∀ b o, h.get? b = some o → b ≠ 16 → h'.get? b = some o
end Mine

-- KA
namespace Mine
def KD.as (K : KD) : List Addr := [K.C, K.ns, K.md, K.ba, K.cell, K.f0, K.f1, K.f2, K.f3, K.f4, K.f5]
def TD.as (T : TD) : List Addr := [T.k.c, T.k.tab, T.d0.c, T.d1.c, T.d2.c, T.d3.c, T.d4.c, T.d5.c]
theorem Lg.fresh16 {h₀ h : Heap} {news : List (Addr × Obj)} (L : Lg [16] h₀ h news) {a : Addr} {o t : Obj} (hm : (a, o) ∈ news) (h16 : h.get? 16 = some t) (hne : o ≠ t) : h₀.get? a = none := by
  rcases (L.nw _ hm).2 with q | q
  · have q2 : a = 16 := List.mem_singleton.mp q
    have e := L.hit hm
    rw [q2, h16] at e
    exact absurd (Option.some.inj e).symm hne
  · exact q
theorem get?_ne {h : Heap} {a b : Addr} {o t : Obj} (ea : h.get? a = some o) (eb : h.get? b = some t) (hne : o ≠ t) : a ≠ b := by
  rintro rfl
  rw [ea] at eb
  exact hne (Option.some.inj eb)
/-- all that stood in h stands in h', but for what is named -/
def KB (C : List Addr) (h h' : Heap) : Prop := ∀ b o, h.get? b = some o → b ∉ C → h'.get? b = some o
theorem Lg.kb {C : List Addr} {h h' : Heap} {news : List (Addr × Obj)} (L : Lg C h h' news) : KB C h h' := fun b o e hb => L.keep b o e hb
theorem KB.trans {C : List Addr} {a b c : Heap} (x : KB C a b) (y : KB C b c) : KB C a c := fun p o e hp => y p o (x p o e hp) hp
theorem KB.ofKeeps {C : List Addr} {a b : Heap} (x : Keeps a b) : KB C a b := fun p o e _ => x p o e
theorem TabOK.kb {w : World} {h h' : Heap} {T : TD} {C : List Addr} (x : TabOK w h T) (k : KB C h h') (h16 : 16 ∉ C) (ha : ∀ a ∈ T.as, a ∉ C) : TabOK w h' T := by
  have q : ∀ {a o}, a ∈ T.as → h.get? a = some o → h'.get? a = some o := fun hm e => k _ _ e (ha _ hm)
  exact ⟨k _ _ x.t16 h16, q (by simp [TD.as]) x.hk, q (by simp [TD.as]) x.hp, q (by simp [TD.as]) x.c0, q (by simp [TD.as]) x.c1, q (by simp [TD.as]) x.c2, q (by simp [TD.as]) x.c3, q (by simp [TD.as]) x.c4, q (by simp [TD.as]) x.c5⟩
theorem KOK.kb {w : World} {h h' : Heap} {T : TD} {K : KD} {v : Value} {C : List Addr} (x : KOK w h T K v) (k : KB C h h') (ha : ∀ a ∈ K.as, a ∉ C) : KOK w h' T K v := by
  have q : ∀ {a o}, a ∈ K.as → h.get? a = some o → h'.get? a = some o := fun hm e => k _ _ e (ha _ hm)
  exact ⟨q (by simp [KD.as]) x.hC, q (by simp [KD.as]) x.hmd, q (by simp [KD.as]) x.hba, q (by simp [KD.as]) x.hns, q (by simp [KD.as]) x.hcell, fun o e => q (by simp [KD.as]) (x.f0 o e), fun o e => q (by simp [KD.as]) (x.f1 o e), fun o e => q (by simp [KD.as]) (x.f2 o e),
    fun o e => q (by simp [KD.as]) (x.f3 o e), fun o e => q (by simp [KD.as]) (x.f4 o e), fun o e => q (by simp [KD.as]) (x.f5 o e)⟩
theorem Lg.fresh16E {h₀ h : Heap} {news : List (Addr × Obj)} (L : Lg [16] h₀ h news) {a : Addr} {q o t : Obj} (hm : (a, q) ∈ news) (e : q = o) (h16 : h.get? 16 = some t) (hne : o ≠ t) : h₀.get? a = none := L.fresh16 hm h16 (e ▸ hne)
end Mine

-- XO
namespace Mine
noncomputable def topO (p : Params) : Frag := (topK p).filter fun q => !(Nat.beq q.1 16 || Nat.beq q.1 65)
theorem lookup_filter {f : Addr → Bool} : ∀ (K : Frag) (a : Addr), (K.filter fun q => f q.1).lookup a = if f a then K.lookup a else none
  | [], a => by simp
  | (b, o) :: r, a => by
    have ih := lookup_filter (f := f) r a
    by_cases hb : f b = true
    · rw [List.filter_cons_of_pos (p := fun q : Addr × Obj => f q.1) hb]
      simp only [List.lookup]
      by_cases hab : (a == b) = true
      · have e : a = b := beq_iff_eq.mp hab
        subst e
        simp [hb]
      · simp only [Bool.not_eq_true] at hab
        simp only [hab]; exact ih
    · rw [List.filter_cons_of_neg (p := fun q : Addr × Obj => f q.1) hb, ih]
      by_cases hab : (a == b) = true
      · have e : a = b := beq_iff_eq.mp hab
        subst e
        simp [hb]
      · simp only [Bool.not_eq_true] at hab
        simp only [List.lookup, hab]
theorem Old.inO {w : World} {h : Heap} (x : Old w h) : (topO w.params).In h := by
  intro a o e
  have e2 := (lookup_filter (f := fun q => !(Nat.beq q 16 || Nat.beq q 65)) (topK w.params) a).symm.trans e
  by_cases hf : (!(Nat.beq a 16 || Nat.beq a 65)) = true
  · rw [if_pos hf] at e2
    simp only [Bool.not_eq_true', Bool.or_eq_false_iff] at hf
    exact x.fr a o e2 hf.1 hf.2
  · rw [if_neg hf] at e2; cases e2
end Mine

-- NSE
namespace Mine
def val (p : Int × Tok) : Value := .int p.1 p.2
def oInst (C dd : Addr) (x : Int) (t : Tok) : Obj := { cls := .ref C, dict := some dd, slots := #[some (.int x t)] }
def wayF : Nat → Int → Int → Int
  | 0, a, b => a.fmod 7 - b.fmod 7
  | 1, a, b => b - a
  | _, a, b => 10 * (a.fmod 3 - b.fmod 3) + (if b < a then 1 else 0 - (if a < b then 1 else 0))
def wayA : Nat → Addr
  | 0 => 37
  | 1 => 44
  | _ => 51
/-- an object that, as a table of names, reads as m -/
def NsO (o : Obj) (m : Str → Option Value) : Prop := ∃ es ep, o.data = .dict es ep ∧ StrKeys es ∧ ∀ name, nsFind es name = m name
def upd (m : Str → Option Value) (n : Str) (v : Value) : Str → Option Value := fun x => if x = n then some v else m x
theorem upd_eq {m : Str → Option Value} {n : Str} {v : Value} : upd m n v n = some v := if_pos rfl
theorem upd_ne {m : Str → Option Value} {n x : Str} {v : Value} {r : Option Value} (h : decide (x = n) = false) (e : m x = r) : upd m n v x = r := (if_neg (of_decide_eq_false h)).trans e
def noNames : Str → Option Value := fun _ => none
theorem nsO_empty {c : Value} {n : Nat} : NsO { cls := c, data := .dict #[] n } noNames := ⟨#[], n, rfl, (by intro e h; simp at h), fun _ => rfl⟩
theorem nsO_empty' {c : Value} {n : Nat} : NsO { cls := c, data := .dict ⟨[]⟩ n } noNames := nsO_empty
section
variable {α : Type} {prog : Program} {w : World} {A : Around} {E : Value → Shared → Prop} {but : List Addr} {h₀ h : Heap} {news news' : List (Addr × Obj)} {g : Array GenState} {d : Drawn} {t : Nat} {os : OsState}
theorem p_nsGet {M : Model} {a : Addr} {o : Obj} {m : Str → Option Value} {name : Str} {Q : Option Value → Shared → Prop} {r : Option Value} (L : Lg but h₀ h news) (hm : (a, o) ∈ news) (N : NsO o m) (e : m name = r) (x : Q r ⟨h, g, d, t, os⟩) :
    WP M A (nsGet a name) Q E ⟨h, g, d, t, os⟩ := by
  obtain ⟨es, ep, hd, hk, hf⟩ := N
  exact ⟨wpAny_nsGet (m := m) ⟨o, es, ep, L.hit hm, hd, hk, hf⟩ (by rw [e]; exact x)⟩
theorem p_nsSet {M : Model} {a : Addr} {o : Obj} {m : Str → Option Value} {name : Str} {v : Value} {Q : Unit → Shared → Prop} (L : Lg but h₀ h news) (hm : (a, o) ∈ news) (N : NsO o m)
    (x : ∀ h' o', Heap.SameBut a h h' → h'.get? a = some o' → NsO o' (upd m name v) → Q () ⟨h', g, d, t + 1, os⟩) :
    WP M A (nsSet a name v) Q E ⟨h, g, d, t, os⟩ := by
  obtain ⟨es, ep, hd, hk, hf⟩ := N
  refine ⟨wpAny_nsSet (m := m) ⟨o, es, ep, L.hit hm, hd, hk, hf⟩ fun h' hn hs => ?_⟩
  obtain ⟨o', es', ep', e, hd', hk', hf'⟩ := hn
  exact x h' o' hs e ⟨es', ep', hd', hk', hf'⟩
theorem p_bindName {env : Env} {name : Str} {v : Value} {o : Obj} {m : Str → Option Value} {Q : Unit → Shared → Prop} (L : Lg but h₀ h news) (hl : env.kindOf name = some .local)
    (hp : (env.scope.kind == .class || (env.scope.kind == .module && env.locals != env.globals)) = false) (hm : (env.locals, o) ∈ news) (N : NsO o m)
    (x : ∀ h' o', Heap.SameBut env.locals h h' → h'.get? env.locals = some o' → NsO o' (upd m name v) → Q () ⟨h', g, d, t + 1, os⟩) :
    WP (model prog w) A (bindName env name v) Q E ⟨h, g, d, t, os⟩ := by
  obtain ⟨es, ep, hd, hk, hf⟩ := N
  refine ⟨wpAny_bindName (wpAny_storeName_local (m := m) hl ⟨o, es, ep, L.hit hm, hd, hk, hf⟩ (fun h' hn hs => ?_) hp)⟩
  obtain ⟨o', es', ep', e, hd', hk', hf'⟩ := hn
  exact x h' o' hs e ⟨es', ep', hd', hk', hf'⟩
theorem p_loadName {env : Env} {name : Str} {v : Value} {o : Obj} {m : Str → Option Value} {Q : Value → Shared → Prop} (L : Lg but h₀ h news) (hk : env.scope.kind = .function) (hl : env.kindOf name = some .local) (hm : (env.locals, o) ∈ news) (N : NsO o m) (e : m name = some v) (x : Q v ⟨h, g, d, t, os⟩) :
    WP (model prog w) A (loadName env name) Q E ⟨h, g, d, t, os⟩ := by
  obtain ⟨es, ep, hd, hk', hf⟩ := N
  exact ⟨wpAny_loadName_local (m := m) hk hl ⟨o, es, ep, L.hit hm, hd, hk', hf⟩ e x⟩
theorem p_pyIter {l : Addr} {items : Array Value} {e : Nat} {Q : Value → Shared → Prop} (hl : h.get? l = some (seqObj "list" items e)) (L : Lg but h₀ h news)
    (x : ∀ a h', Lg but h₀ h' ((a, { cls := .type "list_iterator", data := .fields #[.ref l, .int 0 0] }) :: news) → Q (.ref a) ⟨h', g, d, t, os⟩) :
    WP (model prog w) A (pyIter (.ref l)) Q E ⟨h, g, d, t, os⟩ :=
  ⟨wpAny_pyIter_list (items := items) ⟨_, hl, rfl, e, rfl⟩ (x _ _ (L.alloc rfl))⟩
end
theorem nsO_put {o : Obj} {m : Str → Option Value} {name : Str} {hs : Int} {t : Tok} {v : Value} (N : NsO o m) : NsO (Obj.putName name hs (.str name t) v o) (upd m name v) := by
  obtain ⟨es, ep, hd, hk, hm⟩ := N
  obtain ⟨c, d, dt, sl⟩ := o
  subst hd
  cases hi : es.findIdx? (·.key.isStr name) with
  | some i =>
    refine ⟨_, ep, by simp only [Obj.putName_eq, Obj.putNameByArray, hi]; rfl, hk.modify _ _, fun x => ?_⟩
    show _ = if x = name then some v else m x
    rw [← hm]; exact findBy_modify (fun n v => v.isStr n) Value.isStr_inj es name x v i hi
  | none =>
    refine ⟨_, ep + 1, by simp only [Obj.putName_eq, Obj.putNameByArray, hi]; rfl, hk.push _ _ _ _, fun x => ?_⟩
    show _ = if x = name then some v else m x
    rw [← hm]
    exact findBy_push (fun n v => v.isStr n) es name x _ _ v (fun y => by
      show (name == y) = decide (y = name)
      by_cases h : y = name
      · subst h; simp
      · have : ¬ name = y := fun e => h e.symm
        simp [h, this]) hi
end Mine

-- XALL
namespace Mine
section
local macro_rules | `(tactic| x_close) => `(tactic| (try rename Mem _ _ _ _ => D0); first
  | (rename (∀ (h' : Heap) (tk : Nat), Keeps _ h' → _) => K0; first | exact K0 _ _ (Keeps.refl _) | exact K0 _ _ (Keeps.ofMem D0))
  | (rename (∀ (h' : Heap) (a : Addr) (tk : Nat), Keeps _ h' → _) => K0; exact K0 _ _ _ (Keeps.ofMem D0) (D0.nw _ (.head _)).2 (D0.at 0 _ _ (by first | rfl | kernel_rfl!)))
  | (rename (∀ (h' : Heap) (a dd : Addr) (tk : Nat), Keeps _ h' → _) => K0; refine' K0 _ _ _ _ (Keeps.ofMem D0) (D0.nw _ (.tail _ (.head _))).2 ((D0.at 1 _ _ rfl).trans ?e); (case e => rfl)))
set_option maxRecDepth 100000 in
set_option maxHeartbeats 4000000 in
theorem collect_ok0 (w : World) (s : Shared) (slA : Addr) (x : Value) (n : Nat) (Q : Value → Shared → Prop) (E : Value → Shared → Prop)
   (hSl : s.heap.get? slA = some { cls := .type "list", data := .seq #[x] n })
   (h : ∀ h' a tk, Keeps s.heap h' → s.heap.get? a = none → h'.get? a = some { cls := .type "list", data := .seq #[x] 1 } → Q (.ref a) { s with heap := h', toks := tk }) :
   wpAny (model PG w) A0 (runValue (.builtin "proto.collect" ⟨[.ref slA], []⟩)) Q E s := by
  x_run
theorem collect_ok {w : World} {A : Around} {s : Shared} {slA : Addr} {x : Value} {n : Nat} {Q : Value → Shared → Prop} {E : Value → Shared → Prop} (S : Shallow A)
   (hSl : s.heap.get? slA = some { cls := .type "list", data := .seq #[x] n })
   (h : ∀ h' a tk, Keeps s.heap h' → s.heap.get? a = none → h'.get? a = some { cls := .type "list", data := .seq #[x] 1 } → Q (.ref a) { s with heap := h', toks := tk }) :
   wpAny (model PG w) A (runValue (.builtin "proto.collect" ⟨[.ref slA], []⟩)) Q E s := wpAny_sh S (collect_ok0 w s slA x n Q E hSl h)
set_option maxRecDepth 100000 in
set_option maxHeartbeats 4000000 in
theorem super_ok0 (w : World) (s : Shared) (C ns basesA : Addr) (tn v1 : Tok) (Q : Value → Shared → Prop) (E : Value → Shared → Prop)
   (hC : s.heap.get? C = some { cls := .type "type", data := .cls { name := ⟨#[75]⟩, bases := [.type "object"], mro := [.ref C, .type "object"], ns := ns, qualname := ⟨#[99, 109, 112, 95, 116, 111, 95, 107, 101, 121, 46, 60, 108, 111, 99, 97, 108, 115, 62, 46, 75]⟩, hasDict := false, slotNames := [⟨#[111, 98, 106]⟩], subclasses := [], abstract := false, collection := none, hasDel := false }, slots := #[some (.ref basesA), none, some (.str ⟨#[75]⟩ tn), some (.str ⟨#[99, 109, 112, 95, 116, 111, 95, 107, 101, 121, 46, 60, 108, 111, 99, 97, 108, 115, 62, 46, 75]⟩ v1), some (.builtin "object.__new__"), some (.bool false)] })
   (h : ∀ h' a tk, Keeps s.heap h' → s.heap.get? a = none → h'.get? a = some { cls := .type "super", data := .fields #[.ref C, .ref C, .ref C] } → Q (.ref a) { s with heap := h', toks := tk }) :
   wpAny (model PG w) A0 (PySem.call (.type "super") [.ref C, .ref C]) Q E s := by
  x_run
set_option maxRecDepth 100000 in
set_option maxHeartbeats 4000000 in
theorem cmget_ok0 (w : World) (s : Shared) (C ns basesA : Addr) (tn v1 : Tok) (Q : Value → Shared → Prop) (E : Value → Shared → Prop)
   (hC : s.heap.get? C = some { cls := .type "type", data := .cls { name := ⟨#[75]⟩, bases := [.type "object"], mro := [.ref C, .type "object"], ns := ns, qualname := ⟨#[99, 109, 112, 95, 116, 111, 95, 107, 101, 121, 46, 60, 108, 111, 99, 97, 108, 115, 62, 46, 75]⟩, hasDict := false, slotNames := [⟨#[111, 98, 106]⟩], subclasses := [], abstract := false, collection := none, hasDel := false }, slots := #[some (.ref basesA), none, some (.str ⟨#[75]⟩ tn), some (.str ⟨#[99, 109, 112, 95, 116, 111, 95, 107, 101, 121, 46, 60, 108, 111, 99, 97, 108, 115, 62, 46, 75]⟩ v1), some (.builtin "object.__new__"), some (.bool false)] })
   (h : ∀ h' a tk, Keeps s.heap h' → s.heap.get? a = none → h'.get? a = some { cls := .type "builtin_function_or_method", data := .fields #[.builtin "object.__init_subclass__", .ref C] } → Q (.ref a) { s with heap := h', toks := tk }) :
   wpAny (model PG w) A0 (PySem.call (.builtin "classmethod_descriptor.__get__") [.builtin "object.__init_subclass__", .none, .ref C]) Q E s := by
  x_run
set_option maxRecDepth 100000 in
set_option maxHeartbeats 4000000 in
theorem initsub_ok0 (w : World) (s : Shared) (B C ns basesA : Addr) (tn v1 : Tok) (Q : Value → Shared → Prop) (E : Value → Shared → Prop)
   (hC : s.heap.get? C = some { cls := .type "type", data := .cls { name := ⟨#[75]⟩, bases := [.type "object"], mro := [.ref C, .type "object"], ns := ns, qualname := ⟨#[99, 109, 112, 95, 116, 111, 95, 107, 101, 121, 46, 60, 108, 111, 99, 97, 108, 115, 62, 46, 75]⟩, hasDict := false, slotNames := [⟨#[111, 98, 106]⟩], subclasses := [], abstract := false, collection := none, hasDel := false }, slots := #[some (.ref basesA), none, some (.str ⟨#[75]⟩ tn), some (.str ⟨#[99, 109, 112, 95, 116, 111, 95, 107, 101, 121, 46, 60, 108, 111, 99, 97, 108, 115, 62, 46, 75]⟩ v1), some (.builtin "object.__new__"), some (.bool false)] })
   (hB : s.heap.get? B = some { cls := .type "builtin_function_or_method", data := .fields #[.builtin "object.__init_subclass__", .ref C] })
   (h : ∀ h' tk, Keeps s.heap h' → Q .none { s with heap := h', toks := tk }) :
   wpAny (model PG w) A0 (PySem.call (.ref B) []) Q E s := by
  x_run
set_option maxRecDepth 100000 in
set_option maxHeartbeats 4000000 in
theorem prep_ok0 (w : World) (s : Shared) (t : Tok) (Q : Value → Shared → Prop) (E : Value → Shared → Prop)
   (h : ∀ h' a tk, Keeps s.heap h' → s.heap.get? a = none → h'.get? a = some { cls := .type "builtin_function_or_method", data := .fields #[.builtin "type.__prepare__", .type "type"] } → Q (.ref a) { s with heap := h', toks := tk }) :
   wpAny (model PG w) A0 (PySem.call (.builtin "type.__getattribute__") [.type "type", .str ⟨#[95, 95, 112, 114, 101, 112, 97, 114, 101, 95, 95]⟩ t]) Q E s := by
  x_run
set_option maxRecDepth 100000 in
set_option maxHeartbeats 4000000 in
theorem k_new (w : World) (s : Shared) (KX : (topO w.params).In s.heap) (T : TD) (K : KD) (v : Value) (H : KOK w s.heap T K v) (HT : TabOK w s.heap T) (x : Int) (t : Tok) (Q : Value → Shared → Prop) (E : Value → Shared → Prop)
   (h : ∀ h' a dd tk, Keeps s.heap h' → s.heap.get? a = none → h'.get? a = some (oInst K.C dd x t) → Q (.ref a) { s with heap := h', toks := tk }) :
   wpAny (model PG w) A0 (PySem.call (.ref K.C) [.int x t]) Q E s := by
  obtain ⟨hC, hmd, hba, hns, hcell, f0, f1, f2, f3, f4, f5⟩ := H
  obtain ⟨t16, hk, hp, c0, c1, c2, c3, c4, c5⟩ := HT
  rcases T with ⟨⟨cd, fv, pl, z1, z2, z3, m1, m2, m3, m5, m4⟩, ⟨e0, _, _, _, _, _, _, _, _, _, _⟩, ⟨e1, _, _, _, _, _, _, _, _, _, _⟩, ⟨e2, _, _, _, _, _, _, _, _, _, _⟩, ⟨e3, _, _, _, _, _, _, _, _, _, _⟩, ⟨e4, _, _, _, _, _, _, _, _, _, _⟩, ⟨e5, _, _, _, _, _, _, _, _, _, _⟩⟩
  rcases K with ⟨C, ns, md, ba, sl, sa, cell, g0, g1, g2, g3, g4, g5, ct1, ct2, ct3, ct4, ct5, tn, v1, tx, t0, t2, t3, t4, t5, t6, t7, t8, t9, t10, t11, v0, v2⟩
  dsimp only [oK, oMd, oNs, oCode, wayA] at hC hmd hba hns hcell c0
  replace f0 := f0 _ rfl
  dsimp only at f0
  clear f1 f2 f3 f4 f5 c1 c2 c3 c4 c5 t16 hk hp
  dsimp only at h ⊢
  x_run
set_option maxRecDepth 100000 in
set_option maxHeartbeats 4000000 in
theorem hooked_ok (w : World) (s : Shared) (KX : (topO w.params).In s.heap) (T : TD) (K : KD) (v : Value) (H : KOK w s.heap T K v) (a da : Addr) (x : Int) (t u : Tok) (ha : s.heap.get? a = some (oInst K.C da x t)) (Q : Value → Shared → Prop) (E : Value → Shared → Prop)
   (h : ∀ h' tk, Keeps s.heap h' → Q (.int x t) { s with heap := h', toks := tk }) :
   wpAny (model PG w) A01 (runValue (.builtin "proto.getattr_hooked" ⟨[.ref a, .str (Str.ofString "obj") u], []⟩)) Q E s := by
  obtain ⟨hC, hmd, hba, hns, hcell, f0, f1, f2, f3, f4, f5⟩ := H
  rcases K with ⟨C, ns, md, ba, sl, sa, cell, g0, g1, g2, g3, g4, g5, ct1, ct2, ct3, ct4, ct5, tn, v1, tx, t0, t2, t3, t4, t5, t6, t7, t8, t9, t10, t11, v0, v2⟩
  dsimp only [oK, oMd, oNs] at hC hmd hba hns hcell
  clear f0 f1 f2 f3 f4 f5
  dsimp only [oInst] at ha
  x_run
end
end Mine

-- COMP2
namespace Mine
theorem ns_of {h : Heap} {a : Addr} {m : Str → Option Value} (x : h.Ns a m) : ∃ o, h.get? a = some o ∧ NsO o m := let ⟨o, es, ep, e, d, k, f⟩ := x; ⟨o, e, es, ep, d, k, f⟩
theorem ns_mk {h : Heap} {a : Addr} {o : Obj} {m : Str → Option Value} (e : h.get? a = some o) (N : NsO o m) : h.Ns a m := let ⟨es, ep, d, k, f⟩ := N; ⟨o, es, ep, e, d, k, f⟩
theorem paired_eq {p : Value → Bool} : ∀ {l₁ l₂ : List Value}, Paired (fun v y => y = v) l₁ l₂ → l₂ = l₁
  | _, _, .nil => rfl
  | _, _, .cons e t => by rw [e, paired_eq (p := p) t]
section
variable {prog : Program} {w : World} {A : Around} {E : Value → Shared → Prop} {env : Env}
theorem p_loadNm {h : Heap} {g d t os} {name : Str} {v : Value} {o : Obj} {m : Str → Option Value} {Q : Value → Shared → Prop} (ho : h.get? env.locals = some o) (hk : env.scope.kind = .function) (hl : env.kindOf name = some .local) (N : NsO o m) (e : m name = some v) (x : Q v ⟨h, g, d, t, os⟩) :
    WP (model prog w) A (loadName env name) Q E ⟨h, g, d, t, os⟩ :=
  ⟨wpAny_loadName_local (m := m) hk hl (ns_mk ho N) e x⟩
/-- a list comprehension over a list whose items are known -/
theorem comp_list {s : Shared} {elt iter : Expr} {x : Str} {px : Pos} {ifs : List Expr} {scope : Scope} {cl : List (Str × Addr)} {pos ps : Pos} {Q : Value → Shared → Prop} (p : Value → Bool) (F : Value → Value → Prop) (hh : A.handled = none)
    (hclos : closureFor scope env = pure cl) (hcell : ∀ y ∈ scope.names, y.2 ≠ .cell) (hkind : scope.kind = .function)
    (hnames : ∀ y ∈ scope.names, y.2 = .local → scope.names.lookup y.1 = some .local) (hx : scope.names.lookup x = some .local)
    (hs : ∀ x, foldedSetIterable iter env x = pure x)
    (h : WP (model prog w) A (eval iter env) (fun xv s₁ => ∃ l items c, xv = .ref l ∧ s₁.heap.get? l = some (seqObj "list" items c) ∧ items.size ≤ sizeLine ∧
      (∀ C v s₂ m₂ E', v ∈ items → s₂.heap.Ns C m₂ → m₂ x = some v → (∀ b o, s₁.heap.get? b = some o → s₂.heap.get? b = some o) →
        wpAny (model prog w) A (forIn ifs true fun c r => if r = true then do let ok ← isTrue c (compEnvC scope cl C env) (eval c (compEnvC scope cl C env)); pure (ForInStep.yield ok) else pure (ForInStep.yield r))
          (fun ok s₃ => ok = p v ∧ PySem.Keeps s₂ s₃) E' s₂) ∧
      (∀ C v s₂ m₂ E', v ∈ items → p v = true → s₂.heap.Ns C m₂ → m₂ x = some v → (∀ b o, s₁.heap.get? b = some o → s₂.heap.get? b = some o) →
        wpAny (model prog w) A (eval elt (compEnvC scope cl C env)) (fun y s₃ => F v y ∧ PySem.Keeps s₂ s₃) E' s₂) ∧
      (∀ D h' tk ys c', s₁.heap.get? D = none → h'.get? D = some (seqObj "list" ys c') → Paired F (items.toList.filter p) ys.toList → Keeps s₁.heap h' → Q (.ref D) { s₁ with heap := h', toks := tk })) E s) :
    WP (model prog w) A (comprehension (.ListComp elt [⟨.Name x px, iter, ifs, 0⟩] scope pos) scope env ps (newList []) false (eval iter env) none) Q E s := by
  refine ⟨?_⟩
  refine wpAny_comprehension_free (use := none) rfl hs hclos hkind hnames (wpAny_mono h.out (fun xv s₁ h₁ => ?_) fun _ _ e => e)
  obtain ⟨l, items, c, rfl, hl, hsz, htests, helt, hQ⟩ := h₁
  refine wpAny_pyIter_list (items := items) ⟨_, hl, rfl, c, rfl⟩ ?_
  generalize hI : s₁.heap.objs.size = I
  generalize hH : s₁.heap.push { cls := .type "list_iterator", data := .fields #[.ref l, .int 0 0] } = H
  have kH : Keeps s₁.heap H := hH ▸ Keeps.push _ _
  have hIn : s₁.heap.get? I = none := hI ▸ get?_size _
  have eI : H.get? I = some { cls := .type "list_iterator", data := .fields #[.ref l, .int 0 0] } := by rw [← hH, ← hI]; exact Heap.get?_push_size _ rfl
  have hIl : I ≠ l := by rintro rfl; rw [hIn] at hl; cases hl
  have up : ∀ {h' : Heap}, (∀ b o, b ∉ [I] → H.get? b = some o → h'.get? b = some o) → ∀ b o, s₁.heap.get? b = some o → h'.get? b = some o := fun hk b o e =>
    hk b o (by intro hm; rw [List.mem_singleton.mp hm, hIn] at e; cases e) (kH b o e)
  refine comp_block_walkC (RR := fun acc C => compPost (model prog w) A E none Q acc C) (I := I) (Walks.list hh I l (Ne.symm hIl) items) hsz p F hcell hkind hx
    ⟨⟨_, eI, rfl, rfl⟩, ⟨_, kH _ _ hl, rfl, c, rfl⟩⟩ ?hfp ⟨?t, ?e⟩ ?_
  case hfp =>
    intro b hb
    simp only [List.mem_cons, List.not_mem_nil, or_false] at hb
    rcases hb with rfl | rfl
    · exact Heap.lt_size eI
    · exact Heap.lt_size (kH _ _ hl)
  case t =>
    intro C i v s₃ m₃ E' _ hv hn hm hk _
    exact htests C v s₃ m₃ E' (Array.mem_of_getElem? hv) hn hm (up hk)
  case e =>
    intro C i v s₃ m₃ E' _ hv hpv hn hm hk _
    exact helt C v s₃ m₃ E' (Array.mem_of_getElem? hv) hpv hn hm (up hk)
  intro D C h' tk m' ys vs hD hC hDC hn hla hpl hlen hP hF hk
  refine ⟨m', hn, fun h'' hs'' => ?_⟩
  obtain ⟨c', e'⟩ := hpl.extBut hs''.extBut hDC
  have hvs : vs = items.toList := by
    refine List.ext_getElem? fun j => ?_
    rw [show items.toList[j]? = items[j]? from Array.getElem?_toList]
    by_cases q : j < vs.length
    · rw [List.getElem?_eq_getElem q]
      exact (hP j _ (List.getElem?_eq_getElem q)).symm
    · rw [List.getElem?_eq_none (by omega), Array.getElem?_eq_none (by rw [← hlen]; omega)]
  rw [hvs] at hF
  have hDn : s₁.heap.get? D = none := by
    cases q : s₁.heap.get? D with
    | none => rfl
    | some o => rw [kH _ _ q] at hD; cases hD
  refine hQ D h'' tk ys c' hDn e' hF fun b o e => hs''.extBut b o ?_ (up hk b o e)
  rintro rfl
  rw [kH _ _ e] at hC; cases hC
end
end Mine

-- STR
namespace Mine
/-- what is known of a frame's environment -/
structure EnvOK (env : Env) (L : Addr) (names : List (Str × NameKind)) (cells : List (Str × Addr)) : Prop where
  loc : env.locals = L
  kind : env.scope.kind = .function
  nms : env.scope.names = names
  glob : env.globals = 3
  bi : env.builtins = 0
  cls : env.cells = cells
theorem EnvOK.k {env : Env} {L : Addr} {names : List (Str × NameKind)} {cells : List (Str × Addr)} {x : Str} {k : Option NameKind} (V : EnvOK env L names cells) (e : names.lookup x = k) : env.kindOf x = k := by
  unfold Env.kindOf; rw [V.nms]; exact e
theorem EnvOK.c {env : Env} {L : Addr} {names : List (Str × NameKind)} {cells : List (Str × Addr)} {x : Str} {k : Option Addr} (V : EnvOK env L names cells) (e : cells.lookup x = k) : env.cells.lookup x = k := by
  rw [V.cls]; exact e
theorem EnvOK.plain {env : Env} {L : Addr} {names : List (Str × NameKind)} {cells : List (Str × Addr)} (V : EnvOK env L names cells) : (env.scope.kind == .class || (env.scope.kind == .module && env.locals != env.globals)) = false := by
  rw [V.kind]; rfl
def CellO (o : Obj) (v : Option Value) : Prop := o.data = .cell v
theorem cellO {c : Value} {v : Option Value} : CellO { cls := c, data := .cell v } v := rfl
theorem ok3 (p : Params) : nsOkIn (topO p) 3 = true := by kernel_rfl
/-- a builtin's value -/
def biN (nm : Str) : Option (Option Value) := if nm = Str.ofString "__name__" then none else some (bootBuiltins nm)
section
variable {prog : Program} {w : World} {A : Around} {E : Value → Shared → Prop} {env : Env} {s : Shared} {L : Addr} {names : List (Str × NameKind)} {cells : List (Str × Addr)}
  {but : List Addr} {h₀ h : Heap} {news news' : List (Addr × Obj)} {g : Array GenState} {d : Drawn} {t : Nat} {os : OsState}
theorem q_nil {Q : Flow → Shared → Prop} (x : Q .next s) : WP (model prog w) A (execs [] env) Q E s := ⟨wpAny_execs_nil x⟩
@[reducible] def Kq_assign (prog : Program) (w : World) (A : Around) (E : Value → Shared → Prop) (env : Env) (rest : List Stmt) (Q : Flow → Shared → Prop) := (fun (_ : Unit) (s₂ : Shared) => WP (model prog w) A (execs rest env) Q E s₂)
@[reducible] def Kq_assign2 (prog : Program) (w : World) (A : Around) (E : Value → Shared → Prop) (env : Env) (nm : Str) (rest : List Stmt) (Q : Flow → Shared → Prop) := (fun (v : Value) (s₁ : Shared) => WP (model prog w) A (storeName env nm v) (Kq_assign prog w A E env rest Q) E s₁)
theorem q_assign {nm : Str} {p pos : Pos} {value : Expr} {rest : List Stmt} {Q : Flow → Shared → Prop} (hs : swapsWith value (some (.Name nm p)) pos.line env = pure false)
    (x : WP (model prog w) A (eval value env) (Kq_assign2 prog w A E env nm rest Q) E s) :
    WP (model prog w) A (execs (.Assign [.Name nm p] value pos :: rest) env) Q E s :=
  ⟨wpAny_execs_cons (wpAny_Assign_Name (wpAny_mono x.out (fun _ _ y => wpAny_mono y.out (fun _ _ z => z.out) fun _ _ e => e) fun _ _ e => e) hs)⟩
@[reducible] def Kq_return (Q : Flow → Shared → Prop) := (fun v => Q (.ret v))
theorem q_return {e : Expr} {pos : Pos} {rest : List Stmt} {Q : Flow → Shared → Prop} (x : WP (model prog w) A (eval e env) (Kq_return Q) E s) :
    WP (model prog w) A (execs (.Return (some e) pos :: rest) env) Q E s :=
  ⟨wpAny_execs_cons (wpAny_Return_some x.out)⟩
@[reducible] def Kq_ifF (prog : Program) (w : World) (A : Around) (E : Value → Shared → Prop) (env : Env) (rest : List Stmt) (Q : Flow → Shared → Prop) := (fun (b : Bool) (s₁ : Shared) => b = false ∧ WP (model prog w) A (execs rest env) Q E s₁)
theorem q_ifF {test : Expr} {body : List Stmt} {pos : Pos} {rest : List Stmt} {Q : Flow → Shared → Prop}
    (x : WP (model prog w) A (isTrue test env (eval test env)) (Kq_ifF prog w A E env rest Q) E s) :
    WP (model prog w) A (execs (.If test body [] pos :: rest) env) Q E s :=
  ⟨wpAny_execs_cons (wpAny_If (wpAny_mono x.out (fun b _ y => by rw [y.1]; exact wpAny_execs_nil y.2.out) fun _ _ e => e))⟩
@[reducible] def Kq_for (prog : Program) (w : World) (A : Around) (E : Value → Shared → Prop) (env : Env) (rest : List Stmt) (Q : Flow → Shared → Prop) := (fun (r : Result) (s' : Shared) => match r with | .ok f => (match f with | .next => wpAny (model prog w) A (execs rest env) Q E s' | f => Q f s') | .error e => cameBackBy (model prog w) A env E e s')
@[reducible] def Kq_for2 (prog : Program) (w : World) (A : Around) (E : Value → Shared → Prop) (env : Env) (target : Expr) (body : List Stmt) (rest : List Stmt) (Q : Flow → Shared → Prop) := (fun it (s₂ : Shared) =>
      codeAny (model prog w) (A.mark none) (.forLoop target it body [] env) (Kq_for prog w A E env rest Q) s₂)
@[reducible] def Kq_for3 (prog : Program) (w : World) (A : Around) (E : Value → Shared → Prop) (env : Env) (target : Expr) (body : List Stmt) (rest : List Stmt) (Q : Flow → Shared → Prop) := (fun (v : Value) (s₁ : Shared) => WP (model prog w) A (pyIter v) (Kq_for2 prog w A E env target body rest Q) E s₁)
theorem q_for {target iter : Expr} {body : List Stmt} {pos : Pos} {rest : List Stmt} {Q : Flow → Shared → Prop} (hs : ∀ x, foldedSetIterable iter env x = pure x)
    (x : WP (model prog w) A (eval iter env) (Kq_for3 prog w A E env target body rest Q) E s) :
    WP (model prog w) A (execs (.For target iter body [] pos :: rest) env) Q E s :=
  ⟨wpAny_execs_cons (wpAny_For (wpAny_mono x.out (fun _ _ y => wpAny_mono y.out (fun _ _ z => codeAny_mono z fun r s' q => by cases r with | ok f => (cases f <;> exact q) | error e => exact q) fun _ _ e => e) fun _ _ e => e) hs)⟩
theorem q_local {nm : Str} {pos : Pos} {v : Value} {o : Obj} {m : Str → Option Value} {Q : Value → Shared → Prop} (V : EnvOK env L names cells) (hl : names.lookup nm = some .local) (ho : Heap.get? h L = some o) (N : NsO o m) (e : m nm = some v)
    (hd : (nm == ("__debug__" : Str)) = false) (x : Q v ⟨h, g, d, t, os⟩) : WP (model prog w) A (eval (.Name nm pos) env) Q E ⟨h, g, d, t, os⟩ :=
  ⟨wpAny_Name (wpAny_loadName_local V.kind (V.k hl) (m := m) (by rw [V.loc]; exact ns_mk ho N) e x) hd⟩
theorem q_cell {nm : Str} {pos : Pos} {v : Value} {o : Obj} {c : Addr} {Q : Value → Shared → Prop} (V : EnvOK env L names cells) (hl : names.lookup nm = some .cell) (hc : cells.lookup nm = some c) (ho : Heap.get? h c = some o) (N : CellO o (some v))
    (hd : (nm == ("__debug__" : Str)) = false) (x : Q v ⟨h, g, d, t, os⟩) : WP (model prog w) A (eval (.Name nm pos) env) Q E ⟨h, g, d, t, os⟩ :=
  ⟨wpAny_Name (wpAny_loadName_cell V.kind (V.k hl) (V.c hc) ⟨o, ho, N⟩ x) hd⟩
theorem q_glob {nm : Str} {pos : Pos} {v : Value} {Q : Value → Shared → Prop} (V : EnvOK env L names cells) (hl : names.lookup nm = some .globalImplicit) (KR : Old w h) (e : nsIn (topO w.params) 3 nm = some (some v))
    (hd : (nm == ("__debug__" : Str)) = false) (x : Q v ⟨h, g, d, t, os⟩) : WP (model prog w) A (eval (.Name nm pos) env) Q E ⟨h, g, d, t, os⟩ := by
  have N : h.Ns 3 (h.nsMap 3) := .of_isNs (isNs_of_in KR.inO (ok3 _))
  exact ⟨Calls.Name_function_global V.kind (V.k hl) (Calls.loadGlobal_global (mg := h.nsMap 3) (by rw [V.glob]; exact N) (mg_of KR.inO N e) x) hd⟩
theorem Old.bi' {nm : Str} {v : Value} (KR : Old w h) (e : biN nm = some (some v)) : ∃ mb, h.Ns 0 mb ∧ mb nm = some v := by
  obtain ⟨mb, B, y⟩ := KR.bi
  unfold biN at e
  split at e
  · cases e
  · rename_i hn
    exact ⟨mb, B, (y nm hn).trans (Option.some.inj e)⟩
theorem q_bi {nm : Str} {pos : Pos} {v : Value} {Q : Value → Shared → Prop} (V : EnvOK env L names cells) (hl : names.lookup nm = some .globalImplicit) (KR : Old w h) (e3 : nsIn (topO w.params) 3 nm = some none) (e : biN nm = some (some v))
    (hd : (nm == ("__debug__" : Str)) = false) (x : Q v ⟨h, g, d, t, os⟩) : WP (model prog w) A (eval (.Name nm pos) env) Q E ⟨h, g, d, t, os⟩ := by
  have N : h.Ns 3 (h.nsMap 3) := .of_isNs (isNs_of_in KR.inO (ok3 _))
  obtain ⟨mb, B, hv⟩ := KR.bi' e
  exact ⟨Calls.Name_function_global V.kind (V.k hl) (Calls.loadGlobal_builtin (mg := h.nsMap 3) (mb := mb) (by rw [V.glob]; exact N) (ns_none_of KR.inO N e3) (by rw [V.bi]; exact B) hv x) hd⟩
theorem q_int {i : Int} {k : Nat} {pos : Pos} {Q : Value → Shared → Prop} (x : Q (.int i t) ⟨h, g, d, t + 1, os⟩) : WP (model prog w) A (eval (.Constant (.int i) k pos) env) Q E ⟨h, g, d, t, os⟩ := ⟨wpAny_Constant_int x⟩
theorem q_str {i : Str} {k : Nat} {pos : Pos} {Q : Value → Shared → Prop} (x : Q (.str i t) ⟨h, g, d, t + 1, os⟩) : WP (model prog w) A (eval (.Constant (.str i) k pos) env) Q E ⟨h, g, d, t, os⟩ := ⟨wpAny_Constant_str x⟩
theorem q_bool {i : Bool} {k : Nat} {pos : Pos} {Q : Value → Shared → Prop} (x : Q (.bool i) s) : WP (model prog w) A (eval (.Constant (.bool i) k pos) env) Q E s := ⟨wpAny_Constant_bool x⟩
@[reducible] def Kq_bin (prog : Program) (w : World) (A : Around) (E : Value → Shared → Prop) (op : Operator) (Q : Value → Shared → Prop) (a : Value) := (fun (b : Value) (s₂ : Shared) => WP (model prog w) A (binaryOp op a b) Q E s₂)
@[reducible] def Kq_bin2 (prog : Program) (w : World) (A : Around) (E : Value → Shared → Prop) (env : Env) (r : Expr) (op : Operator) (Q : Value → Shared → Prop) := (fun (a : Value) (s₁ : Shared) => WP (model prog w) A (eval r env) (Kq_bin prog w A E op Q a) E s₁)
theorem q_bin {l r : Expr} {op : Operator} {pos : Pos} {Q : Value → Shared → Prop} (x : WP (model prog w) A (eval l env) (Kq_bin2 prog w A E env r op Q) E s) :
    WP (model prog w) A (eval (.BinOp l op r pos) env) Q E s := ⟨wpAny_BinOp (wpAny_mono x.out (fun _ _ y => wpAny_mono y.out (fun _ _ z => z.out) fun _ _ e => e) fun _ _ e => e)⟩
@[reducible] def Kq_cmp (prog : Program) (w : World) (A : Around) (E : Value → Shared → Prop) (op : CmpOp) (Q : Value → Shared → Prop) (a : Value) := (fun (b : Value) (s₂ : Shared) => WP (model prog w) A (compareOp op a b) Q E s₂)
@[reducible] def Kq_cmp2 (prog : Program) (w : World) (A : Around) (E : Value → Shared → Prop) (env : Env) (r : Expr) (op : CmpOp) (Q : Value → Shared → Prop) := (fun (a : Value) (s₁ : Shared) => WP (model prog w) A (eval r env) (Kq_cmp prog w A E op Q a) E s₁)
theorem q_cmp {l r : Expr} {op : CmpOp} {pos : Pos} {Q : Value → Shared → Prop} (hm : behindInMarks op r = false) (x : WP (model prog w) A (eval l env) (Kq_cmp2 prog w A E env r op Q) E s) :
    WP (model prog w) A (eval (.Compare l [op] [r] pos) env) Q E s := ⟨wpAny_Compare1 (wpAny_mono x.out (fun _ _ y => wpAny_mono y.out (fun _ _ z => z.out) fun _ _ e => e) fun _ _ e => e) hm⟩
@[reducible] def Kq_isCmp (prog : Program) (w : World) (A : Around) (E : Value → Shared → Prop) (Q : Bool → Shared → Prop) := (fun c (s₃ : Shared) => WP (model prog w) A (truthy c) Q E s₃)
@[reducible] def Kq_isCmp2 (prog : Program) (w : World) (A : Around) (E : Value → Shared → Prop) (op : CmpOp) (Q : Bool → Shared → Prop) (a : Value) := (fun (b : Value) (s₂ : Shared) => WP (model prog w) A (compareOp op a b) (Kq_isCmp prog w A E Q) E s₂)
@[reducible] def Kq_isCmp3 (prog : Program) (w : World) (A : Around) (E : Value → Shared → Prop) (env : Env) (r : Expr) (op : CmpOp) (Q : Bool → Shared → Prop) := (fun (a : Value) (s₁ : Shared) => WP (model prog w) A (eval r env) (Kq_isCmp2 prog w A E op Q a) E s₁)
theorem q_isCmp {l r : Expr} {op : CmpOp} {pos : Pos} {whole : Sem Value} {Q : Bool → Shared → Prop} (hm : behindInMarks op r = false)
    (x : WP (model prog w) A (eval l env) (Kq_isCmp3 prog w A E env r op Q) E s) :
    WP (model prog w) A (isTrue (.Compare l [op] [r] pos) env whole) Q E s := ⟨wpAny_isTrue_Compare1 (wpAny_mono x.out (fun _ _ y => wpAny_mono y.out (fun _ _ z => wpAny_mono z.out (fun _ _ z => z.out) fun _ _ e => e) fun _ _ e => e) fun _ _ e => e) hm⟩
theorem q_truthyB {b : Bool} {Q : Bool → Shared → Prop} (x : Q b s) : WP (model prog w) A (truthy (.bool b)) Q E s := ⟨wpAny_truthy_bool x⟩
@[reducible] def Kq_list (Q : Value → Shared → Prop) := (fun (vs : List Value) (s₁ : Shared) => vs.length ≤ sizeLine ∧ Q (.ref s₁.heap.objs.size) { s₁ with heap := s₁.heap.push { cls := .type "list", data := .seq vs.toArray } })
theorem q_list {elts : List Expr} {pos : Pos} {Q : Value → Shared → Prop} (x : WP (model prog w) A (spliced (backTo pos (starEach elts env))) (Kq_list Q) E s) :
    WP (model prog w) A (eval (.List elts pos) env) Q E s := ⟨wpAny_List x.out⟩
theorem q_anil {pos : Pos} {Q : List Value → Shared → Prop} (x : Q [] s) : WP (model prog w) A (spliced (backTo pos (starEach [] env))) Q E s := ⟨args_nil x⟩
@[reducible] def Kq_acons (Q : List Value → Shared → Prop) (v : Value) := (fun (vs : List Value) (s₂ : Shared) => Q (v :: vs) s₂)
@[reducible] def Kq_acons2 (prog : Program) (w : World) (A : Around) (E : Value → Shared → Prop) (env : Env) (rest : List Expr) (pos : Pos) (Q : List Value → Shared → Prop) := (fun (v : Value) (s₁ : Shared) => WP (model prog w) A (spliced (backTo pos (starEach rest env))) (Kq_acons Q v) E s₁)
theorem q_acons {e : Expr} {rest : List Expr} {pos : Pos} {Q : List Value → Shared → Prop} (he : starEach (e :: rest) env = (false, eval e env) :: starEach rest env)
    (x : WP (model prog w) A (eval e env) (Kq_acons2 prog w A E env rest pos Q) E s) : WP (model prog w) A (spliced (backTo pos (starEach (e :: rest) env))) Q E s :=
  ⟨args_cons (wpAny_mono x.out (fun _ _ y => y.out) fun _ _ e => e) he⟩
@[reducible] def Kq_call (prog : Program) (w : World) (A : Around) (E : Value → Shared → Prop) (env : Env) (pos : Pos) (args : List Expr) (kws : List Keyword) (Q : Value → Shared → Prop) := (fun f (s₁ : Shared) => WP (model prog w) A (callWith pos f [] (backTo pos (starEach args env)) (backToKw pos (keywordEach kws env))) Q E s₁)
theorem q_call {nm : Str} {p pos : Pos} {args : List Expr} {kws : List Keyword} {Q : Value → Shared → Prop} (x : WP (model prog w) A (eval (.Name nm p) env) (Kq_call prog w A E env pos args kws Q) E s) :
    WP (model prog w) A (eval (.Call (.Name nm p) args kws pos) env) Q E s := ⟨wpAny_Call_ofName (wpAny_mono x.out (fun _ _ y => y.out) fun _ _ e => e)⟩
@[reducible] def Kq_cwB (prog : Program) (w : World) (A : Around) (E : Value → Shared → Prop) (id : String) (Q : Value → Shared → Prop) := (fun (vs : List Value) (s₁ : Shared) => WP (model prog w) A (PySem.call (.builtin id) vs) Q E s₁)
theorem q_cwB {pos : Pos} {id : String} {e : Expr} {rest : List Expr} {Q : Value → Shared → Prop} (he : starEach (e :: rest) env = (false, eval e env) :: starEach rest env) (hp : (backTo pos (starEach rest env)).any (·.1) = false)
    (x : WP (model prog w) A (spliced (backTo pos (starEach (e :: rest) env))) (Kq_cwB prog w A E id Q) E s) :
    WP (model prog w) A (callWith pos (.builtin id) [] (backTo pos (starEach (e :: rest) env)) (backToKw pos (keywordEach [] env))) Q E s :=
  ⟨PyProof.Rows.callWith_builtin1 (wpAny_mono x.out (fun _ _ y => y.out) fun _ _ e => e) he hp⟩
@[reducible] def Kq_cwD (prog : Program) (w : World) (A : Around) (E : Value → Shared → Prop) (f : Addr) (o : Obj) (Q : Value → Shared → Prop) := (fun (vs : List Value) (s₁ : Shared) => s₁.heap.get? f = some o ∧ wpAny (model prog w) A (PySem.call (.ref f) vs) Q E s₁)
theorem q_cwD {pos : Pos} {f : Addr} {o : Obj} {fd : FuncData} {e : Expr} {rest : List Expr} {Q : Value → Shared → Prop} (he : starEach (e :: rest) env = (false, eval e env) :: starEach rest env) (hd : o.data = .func fd)
    (x : WP (model prog w) A (spliced (backTo pos (starEach (e :: rest) env))) (Kq_cwD prog w A E f o Q) E s) :
    WP (model prog w) A (callWith pos (.ref f) [] (backTo pos (starEach (e :: rest) env)) (backToKw pos (keywordEach [] env))) Q E s :=
  ⟨callWith_def hd x.out he⟩
@[reducible] def Kq_cwK (prog : Program) (w : World) (A : Around) (E : Value → Shared → Prop) (env : Env) (pos : Pos) (id : String) (kws : List Keyword) (Q : Value → Shared → Prop) (vs : List Value) := (fun (kvs : List Value) (s₂ : Shared) => wpAny (model prog w) A (PySem.call (.builtin id) vs (((backToKw pos (keywordEach kws env)).filterMap (·.1)).zip kvs)) Q E s₂)
@[reducible] def Kq_cwK2 (prog : Program) (w : World) (A : Around) (E : Value → Shared → Prop) (env : Env) (pos : Pos) (id : String) (kws : List Keyword) (Q : Value → Shared → Prop) := (fun (vs : List Value) (s₁ : Shared) => WP (model prog w) A (evalAll ((backToKw pos (keywordEach kws env)).map (·.2)))
      (Kq_cwK prog w A E env pos id kws Q vs) E s₁)
theorem q_cwK {pos : Pos} {id : String} {e : Expr} {rest : List Expr} {kws : List Keyword} {Q : Value → Shared → Prop}
    (he : backTo pos (starEach (e :: rest) env) = (false, eval e env) :: backTo pos (starEach rest env)) (hplain : (backTo pos (starEach (e :: rest) env)).any (·.1) = false)
    (hall : (backToKw pos (keywordEach kws env)).all (·.1.isSome) = true) (hkw : (backToKw pos (keywordEach kws env)).any (·.1.isNone) = false)
    (x : WP (model prog w) A (spliced (backTo pos (starEach (e :: rest) env))) (Kq_cwK2 prog w A E env pos id kws Q) E s) :
    WP (model prog w) A (callWith pos (.builtin id) [] (backTo pos (starEach (e :: rest) env)) (backToKw pos (keywordEach kws env))) Q E s :=
  ⟨callWith_kw (wpAny_mono x.out (fun _ _ y => y.out) fun _ _ e => e) he hplain hall hkw⟩
theorem q_knil {pos : Pos} {Q : List Value → Shared → Prop} (x : Q [] s) : WP (model prog w) A (evalAll ((backToKw pos (keywordEach [] env)).map (·.2))) Q E s := ⟨kws_nil x⟩
@[reducible] def Kq_kcons (Q : List Value → Shared → Prop) (v : Value) := (fun (vs : List Value) (s₂ : Shared) => Q (v :: vs) s₂)
@[reducible] def Kq_kcons2 (prog : Program) (w : World) (A : Around) (E : Value → Shared → Prop) (env : Env) (rest : List Keyword) (pos : Pos) (Q : List Value → Shared → Prop) := (fun (v : Value) (s₁ : Shared) => WP (model prog w) A (evalAll ((backToKw pos (keywordEach rest env)).map (·.2))) (Kq_kcons Q v) E s₁)
theorem q_kcons {name : Str} {value : Expr} {kp : Pos} {rest : List Keyword} {pos : Pos} {Q : List Value → Shared → Prop}
    (x : WP (model prog w) A (eval value env) (Kq_kcons2 prog w A E env rest pos Q) E s) :
    WP (model prog w) A (evalAll ((backToKw pos (keywordEach (⟨some name, value, kp⟩ :: rest) env)).map (·.2))) Q E s := ⟨kws_cons (wpAny_mono x.out (fun _ _ y => y.out) fun _ _ e => e)⟩
theorem q_store {nm : Str} {v : Value} {o : Obj} {m : Str → Option Value} {Q : Unit → Shared → Prop} (V : EnvOK env L names cells) (hl : names.lookup nm = some .local) (D : Lg but h₀ h news) (hm : (L, o) ∈ news) (N : NsO o m)
    (x : ∀ h' o', Heap.SameBut L h h' → h'.get? L = some o' → NsO o' (upd m nm v) → Q () ⟨h', g, d, t + 1, os⟩) :
    WP (model prog w) A (storeName env nm v) Q E ⟨h, g, d, t, os⟩ := by
  have hL := V.loc
  subst hL
  refine ⟨wpAny_storeName_local (m := m) (V.k hl) (ns_mk (D.hit hm) N) (fun h' hn hs => ?_) V.plain⟩
  obtain ⟨o', e', N'⟩ := ns_of hn
  exact x h' o' hs e' N'
theorem q_storeC {nm : Str} {v : Value} {v₀ : Option Value} {o : Obj} {c : Addr} {Q : Unit → Shared → Prop} (V : EnvOK env L names cells) (hl : names.lookup nm = some .cell) (hc : cells.lookup nm = some c) (D : Lg but h₀ h news) (hm : (c, o) ∈ news) (N : CellO o v₀)
    (x : ∀ h' o', Heap.SameBut c h h' → h'.get? c = some o' → CellO o' (some v) → Q () ⟨h', g, d, t, os⟩) :
    WP (model prog w) A (storeName env nm v) Q E ⟨h, g, d, t, os⟩ := by
  refine ⟨wpAny_storeName_cell V.kind (V.k hl) (V.c hc) ⟨o, D.hit hm, N⟩ fun h' hn hs => ?_⟩
  obtain ⟨o', e', N'⟩ := hn
  exact x h' o' hs e' N'
theorem q_target {nm : Str} {p : Pos} {v : Value} {Q : Unit → Shared → Prop} (x : WP (model prog w) A (storeName env nm v) Q E s) : WP (model prog w) A (assign (.Name nm p) env v) Q E s := ⟨wpAny_assign_Name x.out⟩
theorem q_add {a b : Int} {u v : Tok} {Q : Value → Shared → Prop} (x : Q (.int (a + b) t) ⟨h, g, d, t + 1, os⟩) : WP (model prog w) A (binaryOp .Add (.int a u) (.int b v)) Q E ⟨h, g, d, t, os⟩ := ⟨add_int x⟩
theorem q_sub {a b : Int} {u v : Tok} {Q : Value → Shared → Prop} (x : Q (.int (a - b) t) ⟨h, g, d, t + 1, os⟩) : WP (model prog w) A (binaryOp .Sub (.int a u) (.int b v)) Q E ⟨h, g, d, t, os⟩ := ⟨sub_int x⟩
theorem q_le {a b : Int} {u v : Tok} {Q : Value → Shared → Prop} (x : Q (.bool (decide (a ≤ b))) s) : WP (model prog w) A (compareOp .LtE (.int a u) (.int b v)) Q E s := ⟨le_int x⟩
theorem q_lt {a b : Int} {u v : Tok} {Q : Value → Shared → Prop} (x : Q (.bool (decide (a < b))) s) : WP (model prog w) A (compareOp .Lt (.int a u) (.int b v)) Q E s := ⟨lt_int x⟩
theorem q_gt {a b : Int} {u v : Tok} {Q : Value → Shared → Prop} (x : Q (.bool (decide (b < a))) s) : WP (model prog w) A (compareOp .Gt (.int a u) (.int b v)) Q E s := ⟨gt_int x⟩
theorem q_ge {a b : Int} {u v : Tok} {Q : Value → Shared → Prop} (x : Q (.bool (decide (b ≤ a))) s) : WP (model prog w) A (compareOp .GtE (.int a u) (.int b v)) Q E s := ⟨ge_int x⟩
theorem q_eq {a b : Int} {u v : Tok} {Q : Value → Shared → Prop} (x : Q (.bool (decide (a = b))) s) : WP (model prog w) A (compareOp .Eq (.int a u) (.int b v)) Q E s := ⟨eq_int x⟩
theorem q_ne {a b : Int} {u v : Tok} {Q : Value → Shared → Prop} (x : Q (.bool (!decide (a = b))) s) : WP (model prog w) A (compareOp .NotEq (.int a u) (.int b v)) Q E s := ⟨ne_int x⟩
theorem q_len {l : Addr} {vs : List Value} {c : Nat} {Q : Value → Shared → Prop} (hl : Heap.get? h l = some (seqObj "list" vs.toArray c)) (hf : vs.length < 2 ^ 62) (x : Q (.int vs.length (t + 1)) ⟨h, g, d, t + 2, os⟩) :
    WP (model prog w) A (PySem.call (.builtin "len") [.ref l]) Q E ⟨h, g, d, t, os⟩ :=
  ⟨Calls.call_len_list (items := vs.toArray) ⟨_, hl, rfl, c, rfl⟩ (by simp; omega) (by simpa using x)⟩
/-- a list made of what the places hold -/
def ListEnd (Q : Value → Shared → Prop) (s : Shared) (vs : List Value) : Prop := vs.length ≤ sizeLine ∧ Q (.ref s.heap.objs.size) { s with heap := s.heap.push { cls := .type "list", data := .seq vs.toArray } }
@[reducible] def Kq_listE (Q : Value → Shared → Prop) := (fun (vs : List Value) (s₁ : Shared) => ListEnd Q s₁ vs)
theorem q_listE {elts : List Expr} {pos : Pos} {Q : Value → Shared → Prop} (x : WP (model prog w) A (spliced (backTo pos (starEach elts env))) (Kq_listE Q) E s) :
    WP (model prog w) A (eval (.List elts pos) env) Q E s := ⟨wpAny_List x.out⟩
theorem listEnd {Q : Value → Shared → Prop} {vs : List Value} (D : Lg but h₀ h news) (hz : vs.length ≤ sizeLine) (x : ∀ a h', Lg but h₀ h' ((a, seqObj "list" vs.toArray 0) :: news) → Q (.ref a) ⟨h', g, d, t, os⟩) : ListEnd Q ⟨h, g, d, t, os⟩ vs :=
  ⟨hz, x _ _ (D.alloc rfl)⟩
theorem q_addL {a b : Addr} {xs ys : List Value} {c c' : Nat} {Q : Value → Shared → Prop} (D : Lg but h₀ h news) (ha : Heap.get? h a = some (seqObj "list" xs.toArray c)) (hb : Heap.get? h b = some (seqObj "list" ys.toArray c')) (hz : xs.length + ys.length ≤ sizeLine)
    (x : ∀ a h', Lg but h₀ h' ((a, seqObj "list" (xs ++ ys).toArray 0) :: news) → Q (.ref a) ⟨h', g, d, t, os⟩) :
    WP (model prog w) A (binaryOp .Add (.ref a) (.ref b)) Q E ⟨h, g, d, t, os⟩ := by
  refine ⟨PySem.P.add_list (items := xs.toArray) (items2 := ys.toArray) ha hb ?_ (by simpa using hz)⟩
  have := x _ _ (D.alloc rfl)
  simpa using this
def SliceEnd (Q : Value → Shared → Prop) (s₃ : Shared) (o vl vu : Value) : Prop := ∃ l items lo hi, o = .ref l ∧ s₃.heap.IsList l items ∧ items.size ≤ sizeLine ∧ IsPart vl lo ∧ IsPart vu hi ∧
        Q (.ref (s₃.heap.objs.size + 1)) { s₃ with heap := (s₃.heap.push { cls := .type "slice", data := .fields #[vl, vu, .none] }).push { cls := .type "list", data := .seq (slicePick items lo hi none) } }
@[reducible] def Kq_slice (Q : Value → Shared → Prop) (o : Value) (vl : Value) := (fun (vu : Value) (s₃ : Shared) => SliceEnd Q s₃ o vl vu)
@[reducible] def Kq_slice2 (prog : Program) (w : World) (A : Around) (E : Value → Shared → Prop) (env : Env) (upper : Option Expr) (Q : Value → Shared → Prop) (o : Value) := (fun (vl : Value) (s₂ : Shared) => WP (model prog w) A (evalPart upper env) (Kq_slice Q o vl) E s₂)
@[reducible] def Kq_slice3 (prog : Program) (w : World) (A : Around) (E : Value → Shared → Prop) (env : Env) (lower : Option Expr) (upper : Option Expr) (Q : Value → Shared → Prop) := (fun (o : Value) (s₁ : Shared) => WP (model prog w) A (evalPart lower env) (Kq_slice2 prog w A E env upper Q o) E s₁)
theorem q_slice {value : Expr} {lower upper : Option Expr} {p pos : Pos} {Q : Value → Shared → Prop} (ht : ∀ o r, letTemporaryGo value o r = pure ())
    (x : WP (model prog w) A (eval value env) (Kq_slice3 prog w A E env lower upper Q) E s) :
    WP (model prog w) A (eval (.Subscript value (.Slice lower upper none p) pos) env) Q E s :=
  ⟨wpAny_Subscript_list_slice (wpAny_mono x.out (fun _ _ y => wpAny_mono y.out (fun _ _ z => z.out) fun _ _ e => e) fun _ _ e => e) ht⟩
theorem q_partN {Q : Value → Shared → Prop} (x : Q .none s) : WP (model prog w) A (evalPart none env) Q E s := ⟨wpAny_pure x⟩
theorem q_partS {e : Expr} {Q : Value → Shared → Prop} (x : WP (model prog w) A (eval e env) Q E s) : WP (model prog w) A (evalPart (some e) env) Q E s := ⟨x.out⟩
theorem sliceTo {l : Addr} {vs : List Value} {c b : Nat} {u : Tok} {Q : Value → Shared → Prop} (D : Lg but h₀ h news) (hl : Heap.get? h l = some (seqObj "list" vs.toArray c)) (hz : vs.length ≤ sizeLine) (hb : b ≤ vs.length)
    (x : ∀ a h', Lg but h₀ h' ((a, seqObj "list" (vs.take b).toArray 0) :: news) → Q (.ref a) ⟨h', g, d, t, os⟩) : SliceEnd Q ⟨h, g, d, t, os⟩ (.ref l) .none (.int (b : Int) u) := by
  refine ⟨l, vs.toArray, none, some (b : Int), rfl, ⟨_, hl, rfl, c, rfl⟩, by simpa using hz, .none, .int _ _, ?_⟩
  have D2 := (D.alloc (o := { cls := .type "slice", data := .fields #[.none, .int (b : Int) u, .none] }) rfl).alloc (o := seqObj "list" (vs.take b).toArray 0) rfl
  have e : slicePick vs.toArray none (some (b : Int)) none = (vs.take b).toArray := by rw [slicePick_upto _ _ (by simpa using hb)]
  have := x _ _ (D2.sub (List.Sublist.cons_cons _ (List.Sublist.cons _ (List.Sublist.refl _))))
  rw [Heap.size_push] at this
  rw [e]
  exact this
theorem sliceFrom {l : Addr} {vs : List Value} {c b : Nat} {u : Tok} {Q : Value → Shared → Prop} (D : Lg but h₀ h news) (hl : Heap.get? h l = some (seqObj "list" vs.toArray c)) (hz : vs.length ≤ sizeLine) (hb : b ≤ vs.length)
    (x : ∀ a h', Lg but h₀ h' ((a, seqObj "list" (vs.drop b).toArray 0) :: news) → Q (.ref a) ⟨h', g, d, t, os⟩) : SliceEnd Q ⟨h, g, d, t, os⟩ (.ref l) (.int (b : Int) u) .none := by
  refine ⟨l, vs.toArray, some (b : Int), none, rfl, ⟨_, hl, rfl, c, rfl⟩, by simpa using hz, .int _ _, .none, ?_⟩
  have D2 := (D.alloc (o := { cls := .type "slice", data := .fields #[.int (b : Int) u, .none, .none] }) rfl).alloc (o := seqObj "list" (vs.drop b).toArray 0) rfl
  have e : slicePick vs.toArray (some (b : Int)) none none = (vs.drop b).toArray := by rw [slicePick_from _ _ (by simpa using hb)]
  have := x _ _ (D2.sub (List.Sublist.cons_cons _ (List.Sublist.cons _ (List.Sublist.refl _))))
  rw [Heap.size_push] at this
  rw [e]
  exact this
/-- a function's body, its environment hidden but for what is known of it -/
theorem enter {body : List Stmt} {A : Around} {R : Result → Shared → Prop} (P : Env → Prop) (hP : P env)
    (x : ∀ env, P env → wpAny (model prog w) (A.deeper env) (execs body env) (fun f s' => R (.ok (.ret (match f with | .ret v => v | _ => .none))) s')
      (fun e s' => wpAny (model prog w) (A.deeper env) (leaving env e) (fun _ s'' => R (.error e) s'') (fun e' s'' => R (.error e') s'') s') s) :
    codeAny (model prog w) A (.func body env) R s := codeAny_func (x env hP)
theorem EnvOK.comp {scope : Scope} {cl : List (Str × Addr)} {C : Addr} {nms' : List (Str × NameKind)} (V : EnvOK env L names cells) (hk : scope.kind = .function)
    (e : (scope.names.map fun (n, k) => if (k == .free && names.lookup n == some .cell) then (n, .cell) else (n, k)) = nms') : EnvOK (compEnvC scope cl C env) C nms' cl := by
  refine ⟨rfl, hk, ?_, V.glob, V.bi, rfl⟩
  rw [← e]
  show (relabel scope env).names = _
  unfold relabel
  dsimp only
  refine List.map_congr_left fun x _ => ?_
  obtain ⟨n, k⟩ := x
  have e2 : env.kindOf n = names.lookup n := V.k rfl
  simp only [V.kind, e2]
  cases k <;> rfl
def fltV (q : Int → Bool) : Value → Bool
  | .int x _ => q x
  | _ => false
theorem filter_val (q : Int → Bool) : ∀ out : List (Int × Tok), (out.map val).filter (fltV q) = (out.filter fun z => q z.1).map val
  | [] => rfl
  | z :: r => by
    have ih := filter_val q r
    by_cases hz : q z.1 = true
    · rw [List.map_cons, List.filter_cons_of_pos (p := fltV q) (by exact hz), List.filter_cons_of_pos (p := fun z : Int × Tok => q z.1) hz, List.map_cons, ih]
    · rw [List.map_cons, List.filter_cons_of_neg (p := fltV q) (by exact hz), List.filter_cons_of_neg (p := fun z : Int × Tok => q z.1) hz, ih]
/-- [x for x in xs if test] -/
theorem q_compF {iter : Expr} {x : Str} {px px' : Pos} {ifs : List Expr} {scope : Scope} {cl : List (Str × Addr)} {pos : Pos} {Q : Value → Shared → Prop} (q : Int → Bool) (hh : A.handled = none)
    (hclos : closureFor scope env = pure cl) (hcell : ∀ y ∈ scope.names, y.2 ≠ .cell) (hkind : scope.kind = .function)
    (hnames : ∀ y ∈ scope.names, y.2 = .local → scope.names.lookup y.1 = some .local) (hx : scope.names.lookup x = some .local)
    (hs : ∀ x, foldedSetIterable iter env x = pure x) (hdb : (x == ("__debug__" : Str)) = false)
    (H : WP (model prog w) A (eval iter env) (fun xv s₁ => ∃ l out c h₁ t₁, xv = .ref l ∧ s₁ = ⟨h₁, g, d, t₁, os⟩ ∧ h₁.get? l = some (seqObj "list" ((out : List (Int × Tok)).map val).toArray c) ∧ out.length ≤ sizeLine ∧
      (∀ C z h₂ g₂ d₂ t₂ os₂ o₂ m₂ E', z ∈ out → Keeps h₁ h₂ → h₂.get? C = some o₂ → NsO o₂ m₂ → m₂ x = some (val z) →
        wpAny (model prog w) A (forIn ifs true fun c r => if r = true then do let ok ← isTrue c (compEnvC scope cl C env) (eval c (compEnvC scope cl C env)); pure (ForInStep.yield ok) else pure (ForInStep.yield r))
          (fun ok s₃ => ok = q z.1 ∧ ∃ h₃ t₃, s₃ = ⟨h₃, g₂, d₂, t₃, os₂⟩ ∧ Keeps h₂ h₃) E' ⟨h₂, g₂, d₂, t₂, os₂⟩) ∧
      (∀ D h' tk c', h₁.get? D = none → h'.get? D = some (seqObj "list" ((out.filter fun z => q z.1).map val).toArray c') → Keeps h₁ h' → Q (.ref D) ⟨h', g, d, tk, os⟩)) E ⟨h, g, d, t, os⟩) :
    WP (model prog w) A (eval (.ListComp (.Name x px') [⟨.Name x px, iter, ifs, 0⟩] scope pos) env) Q E ⟨h, g, d, t, os⟩ := by
  rw [eval_ListComp]
  refine comp_list (fltV q) (fun v y => y = v) hh hclos hcell hkind hnames hx hs (H.mono fun xv s₁ K => ?_)
  obtain ⟨l, out, c, h₁, t₁, rfl, rfl, hl, hz, htest, hQ⟩ := K
  refine ⟨l, (out.map val).toArray, c, rfl, hl, by simpa using hz, ?_, ?_, ?_⟩
  · intro C v s₂ m₂ E' hv hn hm hk
    obtain ⟨z, hz', rfl⟩ : ∃ z ∈ out, val z = v := by simpa using hv
    obtain ⟨h₂, g₂, d₂, t₂, os₂⟩ := s₂
    obtain ⟨o₂, e₂, N₂⟩ := ns_of hn
    refine wpAny_mono (htest C z h₂ g₂ d₂ t₂ os₂ o₂ m₂ E' hz' hk e₂ N₂ hm) (fun ok s₃ r => ?_) fun _ _ e => e
    obtain ⟨e, h₃, t₃, rfl, k₃⟩ := r
    exact ⟨e, h₃, t₃, rfl, k₃⟩
  · intro C v s₂ m₂ E' hv hp hn hm hk
    obtain ⟨h₂, g₂, d₂, t₂, os₂⟩ := s₂
    refine wpAny_Name (wpAny_loadName_local (by exact hkind) (lookup_relabel_local hx) hn hm ?_) hdb
    exact ⟨rfl, h₂, t₂, rfl, fun _ _ e => e⟩
  · intro D h' tk ys c' hD e' hF hk
    have e := paired_eq (p := fltV q) hF
    have e2 : ys = ((out.filter fun z => q z.1).map val).toArray := by
      rw [← filter_val, ← e]
    rw [e2] at e'
    exact hQ D h' tk c' hD e' hk
theorem way_obj {w : World} {h : Heap} (KR : Old w h) {j : Nat} (hj : j < 3) : ∃ o fd, h.get? (wayA j) = some o ∧ o.data = .func fd :=
  match j, hj with
  | 0, _ => ⟨_, _, KR.fr 37 _ rfl rfl rfl, rfl⟩
  | 1, _ => ⟨_, _, KR.fr 44 _ rfl rfl rfl, rfl⟩
  | 2, _ => ⟨_, _, KR.fr 51 _ rfl rfl rfl, rfl⟩
theorem q_lenM {l : Addr} {vs : List (Int × Tok)} {c : Nat} {Q : Value → Shared → Prop} (hl : Heap.get? h l = some (seqObj "list" (vs.map val).toArray c)) (hf : vs.length < 2 ^ 62) (x : Q (.int vs.length (t + 1)) ⟨h, g, d, t + 2, os⟩) :
    WP (model prog w) A (PySem.call (.builtin "len") [.ref l]) Q E ⟨h, g, d, t, os⟩ := q_len hl (by simpa using hf) (by simpa using x)
end
theorem bi_object : biN (Str.ofString "object") = some (some (.type "object")) := by decide +kernel
theorem bi_sorted : biN (Str.ofString "sorted") = some (some (.builtin "sorted")) := by decide +kernel
theorem bi_len : biN (Str.ofString "len") = some (some (.builtin "len")) := by decide +kernel
theorem bi_min : biN (Str.ofString "min") = some (some (.builtin "min")) := by decide +kernel
theorem bi_max : biN (Str.ofString "max") = some (some (.builtin "max")) := by decide +kernel
theorem bi_range : biN (Str.ofString "range") = some (some (.type "range")) := by decide +kernel
theorem bi_int : biN (Str.ofString "int") = some (some (.type "int")) := by decide +kernel
theorem bi_str : biN (Str.ofString "str") = some (some (.type "str")) := by decide +kernel
theorem bi_iter : biN (Str.ofString "iter") = some (some (.builtin "iter")) := by decide +kernel
theorem bi_next : biN (Str.ofString "next") = some (some (.builtin "next")) := by decide +kernel
theorem bi_sum : biN (Str.ofString "sum") = some (some (.builtin "sum")) := by decide +kernel
theorem bi_TypeError : biN (Str.ofString "TypeError") = some (some (.type "TypeError")) := by decide +kernel
theorem bi_StopIteration : biN (Str.ofString "StopIteration") = some (some (.type "StopIteration")) := by decide +kernel
end Mine

-- LEDG
namespace Mine
theorem Lg.start2 {h : Heap} {a b : Addr} {oa ob : Obj} (ea : h.get? a = some oa) (eb : h.get? b = some ob) (hab : Nat.beq a b = false) : Lg [a, b] h h [(b, ob), (a, oa)] :=
  { keep := fun _ _ e _ => e
    nw := (fun p hp => by
      rcases List.mem_cons.mp hp with rfl | hp
      · exact ⟨eb, .inl (.tail _ (.head _))⟩
      · rw [List.mem_singleton.mp hp]; exact ⟨ea, .inl (.head _)⟩)
    nd := by
      have : b ≠ a := fun e => by subst e; simp at hab
      simp [this] }
theorem Old.lg {w : World} {h₀ h : Heap} {news : List (Addr × Obj)} (KR : Old w h₀) (L : Lg [16, 65] h₀ h news) : Old w h := KR.mk2 (fun a o _ p q e => L.keep a o e (by
  intro hm
  rcases List.mem_cons.mp hm with rfl | hm
  · simp at p
  · rw [List.mem_singleton.mp hm] at q; simp at q)) (fun o e => L.keep 0 o e (by decide)) fun o e => L.keep 4 o e (by decide)
theorem pick40 (items : Array Value) : slicePick items none (some 40) none = (items.toList.take 40).toArray := by
  by_cases h : 40 ≤ items.size
  · exact slicePick_upto items 40 h
  · have e : sliceBounds none (some (40 : Int)) none items.size = (((0 : Nat) : Int), (items.size : Int), 1) := by
      simp only [sliceBounds, Option.getD_none]
      simp only [show ¬ ((40 : Int) < 0) by decide, if_false, show (1 : Int) > 0 by decide, if_true]
      congr 1
      congr 1; omega
    unfold slicePick
    rw [e]
    simp only [sliceRange_one, pick_run]
    simp only [List.drop_zero, Nat.sub_zero]
    rw [List.take_of_length_le (by simp), List.take_of_length_le (by simp; omega)]
theorem slice40 {but : List Addr} {h₀ h : Heap} {news : List (Addr × Obj)} {g : Array GenState} {d : Drawn} {t : Nat} {os : OsState} {l : Addr} {vs : List (Int × Tok)} {u : Tok} {Q : Value → Shared → Prop} (D : Lg but h₀ h news) (hl : Heap.IsList h l (vs.map val).toArray) (hz : vs.length ≤ sizeLine)
    (x : ∀ a h', Lg but h₀ h' ((a, seqObj "list" ((vs.take 40).map val).toArray 0) :: news) → Q (.ref a) ⟨h', g, d, t, os⟩) : SliceEnd Q ⟨h, g, d, t, os⟩ (.ref l) .none (.int 40 u) := by
  refine ⟨l, (vs.map val).toArray, none, some 40, rfl, hl, by simpa using hz, .none, .int _ _, ?_⟩
  have D2 := (D.alloc (o := { cls := .type "slice", data := .fields #[.none, .int 40 u, .none] }) rfl).alloc (o := seqObj "list" ((vs.take 40).map val).toArray 0) rfl
  have e : slicePick (vs.map val).toArray none (some 40) none = ((vs.take 40).map val).toArray := by rw [pick40]; simp
  have := x _ _ (D2.sub (List.Sublist.cons_cons _ (List.Sublist.cons _ (List.Sublist.refl _))))
  rw [Heap.size_push] at this
  rw [e]
  exact this
def lawNames : List (Str × NameKind) := [(Str.ofString "script", .local), (Str.ofString "row", .local), (Str.ofString "way", .cell), (Str.ofString "key", .local), (Str.ofString "laid", .cell), (Str.ofString "one", .local), (Str.ofString "k", .local), (Str.ofString "other", .local), (Str.ofString "told", .local), (Str.ofString "asked", .local), (Str.ofString "figures", .local), (Str.ofString "_law_by_seven", .globalImplicit), (Str.ofString "_law_turned", .globalImplicit), (Str.ofString "_law_by_three", .globalImplicit), (Str.ofString "cmp_to_key", .globalImplicit), (Str.ofString "_law_laid", .globalImplicit), (Str.ofString "sorted", .globalImplicit), (Str.ofString "min", .globalImplicit), (Str.ofString "max", .globalImplicit), (Str.ofString "range", .globalImplicit), (Str.ofString "len", .globalImplicit), (Str.ofString "reduce", .globalImplicit), (Str.ofString "int", .globalImplicit), (Str.ofString "sum", .globalImplicit), (Str.ofString "_law_refused", .globalImplicit)]
theorem Lg.rebase {B : List Addr} {h₀ h : Heap} {news : List (Addr × Obj)} (L : Lg B h₀ h news) : Lg (news.map (·.1)) h h news :=
  ⟨fun _ _ e _ => e, fun p hp => ⟨(L.nw p hp).1, .inl (List.mem_map_of_mem hp)⟩, L.nd⟩
theorem Lg.comp {B C : List Addr} {h₀ h1 h2 : Heap} {n1 n2 n1' : List (Addr × Obj)} (L1 : Lg B h₀ h1 n1) (L2 : Lg C h1 h2 n2) (hC : ∀ a ∈ C, a ∈ n1.map (·.1)) (s : n1'.Sublist n1) (hn : ∀ p ∈ n1', p.1 ∉ C) : Lg B h₀ h2 (n2 ++ n1') := by
  have key : ∀ a ∈ C, a ∈ B ∨ h₀.get? a = none := fun a ha => by
    obtain ⟨p, hp, e⟩ := List.mem_map.mp (hC a ha)
    subst e; exact (L1.nw p hp).2
  refine ⟨fun b o e hb => L2.keep b o (L1.keep b o e hb) (fun hm => ?_), fun p hp => ?_, ?_⟩
  · rcases key b hm with q | q
    · exact hb q
    · rw [q] at e; cases e
  · rcases List.mem_append.mp hp with hp | hp
    · refine ⟨(L2.nw p hp).1, ?_⟩
      rcases (L2.nw p hp).2 with q | q
      · exact key _ q
      · by_cases hb : p.1 ∈ B
        · exact .inl hb
        · right
          cases q2 : h₀.get? p.1 with
          | none => rfl
          | some o => rw [L1.keep _ _ q2 hb] at q; cases q
    · exact ⟨L2.keep _ _ (L1.nw p (s.subset hp)).1 (hn p hp), (L1.nw p (s.subset hp)).2⟩
  · rw [List.map_append, List.nodup_append]
    refine ⟨L2.nd, L1.nd.sublist (s.map _), fun a ha b hb e => ?_⟩
    subst e
    obtain ⟨p, hp, rfl⟩ := List.mem_map.mp ha
    obtain ⟨q, hq, e⟩ := List.mem_map.mp hb
    rcases (L2.nw p hp).2 with y | y
    · exact hn q hq (e ▸ y)
    · rw [← e, (L1.nw q (s.subset hq)).1] at y; cases y
theorem Lg.turn16 {B : List Addr} {h₀ h h' : Heap} {news news' : List (Addr × Obj)} {o o' : Obj} (L : Lg B h₀ h news) (hB : 16 ∈ B) (K : KeepsT h h') (U : SetAt 16 o o' news news') (e : h'.get? 16 = some o') : Lg B h₀ h' news' := by
  refine ⟨fun b ob q hb => K.keep b ob (L.keep b ob q hb) (fun z => hb (z ▸ hB)), fun p hp => ?_, by rw [U.keys]; exact L.nd⟩
  rcases U.of L.nd p hp with rfl | ⟨h1, h2⟩
  · exact ⟨e, .inl hB⟩
  · exact ⟨K.keep _ _ (L.nw p h1).1 h2, (L.nw p h1).2⟩
theorem Old.kb {w : World} {h h' : Heap} {C : List Addr} (x : Old w h) (k : KB C h h') (hC : Apart w C) : Old w h' :=
  x.mk2 (fun a o e p q z => k _ _ z (hC.1 a o e p q)) (fun _ e => k _ _ e hC.2.1) fun _ e => k _ _ e hC.2.2
theorem apart_top {w : World} {h₀ h : Heap} {news : List (Addr × Obj)} (KR : Old w h₀) (L : Lg [16, 65] h₀ h news) : Apart w (news.map (·.1)) := by
  have key : ∀ a o, h₀.get? a = some o → a ∉ [16, 65] → a ∉ news.map (·.1) := by
    intro a o h1 hn hm
    obtain ⟨z, hz, rfl⟩ := List.mem_map.mp hm
    rcases (L.nw z hz).2 with y | y
    · exact hn y
    · rw [y] at h1; cases h1
  refine ⟨fun a o e p q => key a o (KR.fr _ _ e p q) ?_, ?_, ?_⟩
  · intro y
    rcases List.mem_cons.mp y with y | y
    · rw [y] at p; simp at p
    · rw [List.mem_singleton.mp y] at q; simp at q
  · obtain ⟨_, ⟨o, _, _, e, _⟩, _⟩ := KR.bi
    exact key 0 o e (by decide)
  · obtain ⟨_, e⟩ := KR.m4
    exact key 4 _ e (by decide)
theorem Apart.sub {w : World} {C C' : List Addr} (x : Apart w C) (k : ∀ b ∈ C', b ∈ C) : Apart w C' := ⟨fun a o e p q hm => x.1 a o e p q (k _ hm), fun hm => x.2.1 (k _ hm), fun hm => x.2.2 (k _ hm)⟩
def tab0 : Obj := { cls := .none, data := .fields #[] }
theorem ways_at {i : Nat} (hi : i < 3) : (#[Value.ref 37, .ref 44, .ref 51] : Array Value)[i]? = some (.ref (wayA i)) :=
  match i, hi with
  | 0, _ => rfl
  | 1, _ => rfl
  | 2, _ => rfl
structure Deep4 (A : Around) : Prop where
  handled : A.handled = none
  depth : A.depth + 400 ≤ 800
  units : A.units + 400 ≤ 3000
theorem Deep4.deep3 {A : Around} (S : Deep4 A) : Deep3 A := ⟨S.handled, Nat.le_trans (Nat.add_le_add_left (show 300 ≤ 400 by decide) A.depth) S.depth, Nat.le_trans (Nat.add_le_add_left (show 300 ≤ 400 by decide) A.units) S.units⟩
theorem Deep4.deeper {A : Around} (S : Deep4 A) (env : Env) : Deep3 (A.deeper env) :=
  ⟨S.handled, by have := S.depth; show A.depth + 1 + 300 ≤ 800; omega, by have := S.units; show A.units + 3 + 300 ≤ 3000; omega⟩
theorem callerDeep : Deep4 callerA := ⟨rfl, by decide, by decide⟩
end Mine

-- RUL
namespace Mine
/-- a little more room than A0 has -/
def A01 : Around := { depth := 810, units := 3100 }
section
variable {prog : Program} {w : World} {A : Around} {E : Value → Shared → Prop} {env : Env} {s : Shared} {L : Addr} {names : List (Str × NameKind)} {cells : List (Str × Addr)}
  {but : List Addr} {h₀ h : Heap} {news news' : List (Addr × Obj)} {g : Array GenState} {d : Drawn} {t : Nat} {os : OsState}
def TopFn (w : World) (a : Addr) : Prop := ∃ o fd, (topK w.params).lookup a = some o ∧ o.data = .func fd ∧ Nat.beq a 16 = false ∧ Nat.beq a 65 = false
theorem topWay (w : World) {j : Nat} (hj : j < 3) : TopFn w (wayA j) :=
  match j, hj with
  | 0, _ => ⟨_, _, rfl, rfl, rfl, rfl⟩
  | 1, _ => ⟨_, _, rfl, rfl, rfl, rfl⟩
  | 2, _ => ⟨_, _, rfl, rfl, rfl, rfl⟩
@[reducible] def Kq_cwT (prog : Program) (w : World) (A : Around) (E : Value → Shared → Prop) (f : Addr) (Q : Value → Shared → Prop) := (fun (vs : List Value) (s₁ : Shared) => Old w s₁.heap ∧ wpAny (model prog w) A (PySem.call (.ref f) vs) Q E s₁)
theorem q_cwT {pos : Pos} {f : Addr} {e : Expr} {rest : List Expr} {Q : Value → Shared → Prop} (hf : TopFn w f) (he : starEach (e :: rest) env = (false, eval e env) :: starEach rest env)
    (x : WP (model prog w) A (spliced (backTo pos (starEach (e :: rest) env))) (Kq_cwT prog w A E f Q) E s) :
    WP (model prog w) A (callWith pos (.ref f) [] (backTo pos (starEach (e :: rest) env)) (backToKw pos (keywordEach [] env))) Q E s := by
  obtain ⟨o, fd, e1, e2, e3, e4⟩ := hf
  exact q_cwD he e2 (x.mono fun vs s₁ y => ⟨y.1.fr _ _ e1 e3 e4, y.2⟩)
@[reducible] def Kq_cwTy (prog : Program) (w : World) (A : Around) (E : Value → Shared → Prop) (T : String) (Q : Value → Shared → Prop) := (fun (vs : List Value) (s₁ : Shared) => WP (model prog w) A (PySem.call (.type T) vs) Q E s₁)
theorem q_cwTy {pos : Pos} {T : String} {e : Expr} {rest : List Expr} {Q : Value → Shared → Prop} (he : starEach (e :: rest) env = (false, eval e env) :: starEach rest env) (hp : (backTo pos (starEach rest env)).any (·.1) = false)
    (x : WP (model prog w) A (spliced (backTo pos (starEach (e :: rest) env))) (Kq_cwTy prog w A E T Q) E s) :
    WP (model prog w) A (callWith pos (.type T) [] (backTo pos (starEach (e :: rest) env)) (backToKw pos (keywordEach [] env))) Q E s :=
  ⟨PyProof.Rows.callWith_type1 (wpAny_mono x.out (fun _ _ y => y.out) fun _ _ e => e) he hp⟩
theorem q_mul {a b : Int} {u v : Tok} {Q : Value → Shared → Prop} (hm : IntMulOk a b) (x : Q (.int (a * b) t) ⟨h, g, d, t + 1, os⟩) : WP (model prog w) A (binaryOp .Mult (.int a u) (.int b v)) Q E ⟨h, g, d, t, os⟩ := ⟨mul_int x hm⟩
theorem q_mod {a b : Int} {u v : Tok} {Q : Value → Shared → Prop} (hb : b ≠ 0) (x : Q (.int (a.fmod b) t) ⟨h, g, d, t + 1, os⟩) : WP (model prog w) A (binaryOp .Mod (.int a u) (.int b v)) Q E ⟨h, g, d, t, os⟩ := ⟨mod_int' hb x⟩
@[reducible] def Kq_ifE (prog : Program) (w : World) (A : Around) (E : Value → Shared → Prop) (env : Env) (body : Expr) (orelse : Expr) (Q : Value → Shared → Prop) := (fun (b : Bool) (s₁ : Shared) => WP (model prog w) A (if b then eval body env else eval orelse env) Q E s₁)
theorem q_ifE {test body orelse : Expr} {pos : Pos} {Q : Value → Shared → Prop} (x : WP (model prog w) A (isTrue test env (eval test env)) (Kq_ifE prog w A E env body orelse Q) E s) :
    WP (model prog w) A (eval (.IfExp test body orelse pos) env) Q E s :=
  ⟨wpAny_IfExp (wpAny_mono x.out (fun b _ y => by cases b <;> exact y.out) fun _ _ e => e)⟩
theorem q_intB {b : Bool} {Q : Value → Shared → Prop} (x : Q (.int (if b then 1 else 0) t) ⟨h, g, d, t + 1, os⟩) : WP (model prog w) A (PySem.call (.type "int") [.bool b]) Q E ⟨h, g, d, t, os⟩ := ⟨call_int_bool x⟩
theorem q_free {nm : Str} {pos : Pos} {v : Value} {o : Obj} {c : Addr} {Q : Value → Shared → Prop} (V : EnvOK env L names cells) (hl : names.lookup nm = some .free) (hc : cells.lookup nm = some c) (ho : Heap.get? h c = some o) (N : CellO o (some v))
    (hn : (nm == ("__classdict__" : Str)) = false) (hd : (nm == ("__debug__" : Str)) = false) (x : Q v ⟨h, g, d, t, os⟩) : WP (model prog w) A (eval (.Name nm pos) env) Q E ⟨h, g, d, t, os⟩ :=
  ⟨wpAny_Name (wpAny_loadName_free V.kind (V.k hl) (V.c hc) ⟨o, ho, N⟩ x hn) hd⟩
@[reducible] def Kq_attr (prog : Program) (w : World) (A : Around) (E : Value → Shared → Prop) (attr : Str) (Q : Value → Shared → Prop) := (fun (o : Value) (s₁ : Shared) => WP (model prog w) A (getAttr o attr true) Q E s₁)
theorem q_attr {nm attr : Str} {p pos : Pos} {Q : Value → Shared → Prop} (ho : attributeBase (.Name nm p) attr env (eval (.Name nm p) env) = eval (.Name nm p) env) (ht : ∀ o r, letTemporaryGo (.Name nm p) o r = pure ())
    (x : WP (model prog w) A (eval (.Name nm p) env) (Kq_attr prog w A E attr Q) E s) : WP (model prog w) A (eval (.Attribute (.Name nm p) attr pos) env) Q E s := by
  refine ⟨?_⟩
  rw [arm_eval_Attribute, ho]
  exact wpAny_bind (wpAny_mono x.out (fun o s₁ y => wpAny_bind (wpAny_standAt (wpAny_bind (wpAny_holding (wpAny_mono y.out (fun r s₂ z => by rw [ht]; exact wpAny_bind (wpAny_pure (wpAny_pure z))) fun _ _ e => e))))) fun _ _ e => e)
end
structure Shal1 (A : Around) : Prop where
  handled : A.handled = none
  depth : A.depth ≤ 810
  units : A.units ≤ 3100
theorem Shal1.of {A : Around} (S : Shallow A) : Shal1 A := ⟨S.handled, Nat.le_trans S.depth (by decide), Nat.le_trans S.units (by decide)⟩
theorem Shal1.deeper {A : Around} (S : Shallow A) (env : Env) : Shal1 (A.deeper env) :=
  ⟨S.handled, by have := S.depth; show A.depth + 1 ≤ 810; omega, by have := S.units; show A.units + 3 ≤ 3100; omega⟩
theorem Shal1.lt {A : Around} (S : Shal1 A) : A.in1.depth < recursionLimit := Nat.lt_of_le_of_lt S.depth (by decide +kernel)
theorem Shallow.lt {A : Around} (S : Shallow A) : A.in1.depth < recursionLimit := (Shal1.of S).lt
theorem wpAny_sh1 {α : Type} {M : Model} {A : Around} {t : Sem α} {Q : α → Shared → Prop} {E : Value → Shared → Prop} {s : Shared} (S : Shal1 A) (h : wpAny M A01 t Q E s) : wpAny M A t Q E s :=
  wpAny_le h S.handled S.depth S.units rfl rfl
section
variable {prog : Program} {w : World} {A : Around} {E : Value → Shared → Prop} {env : Env} {s : Shared} {L : Addr} {names : List (Str × NameKind)} {cells : List (Str × Addr)}
  {but : List Addr} {h₀ h : Heap} {news news' : List (Addr × Obj)} {g : Array GenState} {d : Drawn} {t : Nat} {os : OsState}
theorem q_iter {l : Addr} {vs : List Value} {c : Nat} {Q : Value → Shared → Prop} (D : Lg but h₀ h news) (hl : Heap.get? h l = some (seqObj "list" vs.toArray c))
    (x : ∀ a h', Lg but h₀ h' ((a, { cls := .type "list_iterator", data := .fields #[.ref l, .int 0 0] }) :: news) → Q (.ref a) ⟨h', g, d, t, os⟩) :
    WP (model prog w) A (PySem.call (.builtin "iter") [.ref l]) Q E ⟨h, g, d, t, os⟩ := by
  refine ⟨Calls.call_function_entry (by decide +kernel) (by decide +kernel) kdk_entry_iter (kdk_args_iter _) ?_⟩
  unfold Builtin.«iter»
  refine wpAny_bind (m := someArgs "iter" 1 2 _) (wpAny_of_eq (a := [Value.ref l]) (by first | rfl | kernel_rfl!) ?_)
  show wpAny _ _ (pyIter (.ref l) >>= _) _ _ _
  exact wpAny_bind (wpAny_pyIter_list (items := vs.toArray) ⟨_, hl, rfl, c, rfl⟩ (wpAny_pure ⟨_, rfl, x _ _ (D.alloc rfl)⟩))
theorem q_next {it l : Addr} {i : Nat} {vs : List Value} {c : Nat} {v : Value} {oi : Obj} {Q : Value → Shared → Prop} (hi : Heap.get? h it = some oi) (hc : oi.cls = .type "list_iterator") (hd : oi.data = .fields #[.ref l, .int i 0])
    (hl : Heap.get? h l = some (seqObj "list" vs.toArray c)) (hx : vs[i]? = some v)
    (x : ∀ h' o', Heap.SameBut it h h' → h'.get? it = some o' → o'.cls = .type "list_iterator" → o'.data = .fields #[.ref l, .int (i + 1 : Nat) 0] → Q v ⟨h', g, d, t, os⟩) :
    WP (model prog w) A (PySem.call (.builtin "next") [.ref it]) Q E ⟨h, g, d, t, os⟩ := by
  have hit : Heap.IsListIter h it l i := ⟨oi, hi, hc, hd⟩
  refine ⟨Calls.call_function_entry (by decide +kernel) (by decide +kernel) kdk_entry_next (kdk_args_next _) ?_⟩
  unfold Builtin.«next»
  refine wpAny_bind (m := someArgs "next" 1 2 _) (wpAny_of_eq (a := [Value.ref it]) (by first | rfl | kernel_rfl!) ?_)
  dsimp only
  refine wpAny_bind (wpAny_specialOf (name := Str.ofString "__next__") hit.typeIs slot_listiter_next.lookup ?_)
  refine wpAny_ite_split (fun hab => absurd hab (by decide)) (fun _ => ?_)
  refine wpAny_bind (wpAny_callSpecial?_slot (name := Str.ofString "__next__") hit.typeIs slot_listiter_next
    (wpAny_call_entry slot_listiter_next hit.typeIs entry_listiter_next ?_ (args_listiter_next _)))
  show wpAny _ _ (field (.ref it) 0 >>= _) _ _ _
  refine wpAny_bind (wpAny_field hi hd (x := .ref l) rfl ?_)
  show wpAny _ _ (if (Value.ref l == Value.none) = true then _ else _) _ _ _
  rw [if_neg (show ¬ ((Value.ref l == Value.none) = true) from Bool.false_ne_true)]
  show wpAny _ _ (field (.ref it) 1 >>= _) _ _ _
  refine wpAny_bind (wpAny_field hi hd (x := .int i 0) rfl ?_)
  show wpAny _ _ (seqItems? (.ref l) >>= _) _ _ _
  refine wpAny_bind (wpAny_seqItems hl rfl ?_)
  have hx' : vs.toArray[i]? = some v := by simpa using hx
  simp only [Int.toNat_natCast, hx']
  refine wpAny_bind (wpAny_setField hi hd (by simp) (wpAny_pure ⟨v, rfl, wpAny_pure ⟨_, rfl, x _ _ (Heap.SameBut.update ..) (Heap.get?_update_self _ hi (Obj.isFreed_of_fields (Obj.data_mapFields hd _))) ((Obj.cls_mapFields ..).trans hc) (by rw [Obj.data_mapFields hd]; simp [rawInt])⟩⟩))
theorem q_isNo {i : Int} {u : Tok} {b : Addr} {Q : Value → Shared → Prop} (x : Q (.bool false) s) : WP (model prog w) A (compareOp .Is (.int i u) (.ref b)) Q E s := ⟨wpAny_is_other rfl (by intro e; cases e) x⟩
theorem q_isYes {b : Addr} {Q : Value → Shared → Prop} (x : Q (.bool true) s) : WP (model prog w) A (compareOp .Is (.ref b) (.ref b)) Q E s := ⟨wpAny_is_ref_self x⟩
@[reducible] def Kq_if2 (prog : Program) (w : World) (A : Around) (E : Value → Shared → Prop) (env : Env) (rest : List Stmt) (Q : Flow → Shared → Prop) := (fun (f : Flow) (s' : Shared) => match f with | .next => WP (model prog w) A (execs rest env) Q E s' | f => Q f s')
@[reducible] def Kq_if22 (prog : Program) (w : World) (A : Around) (E : Value → Shared → Prop) (env : Env) (body : List Stmt) (orelse : List Stmt) (rest : List Stmt) (Q : Flow → Shared → Prop) := (fun (b : Bool) (s₁ : Shared) => WP (model prog w) A (execs (bif b then body else orelse) env) (Kq_if2 prog w A E env rest Q) E s₁)
theorem q_if2 {test : Expr} {body orelse : List Stmt} {pos : Pos} {rest : List Stmt} {Q : Flow → Shared → Prop}
    (x : WP (model prog w) A (isTrue test env (eval test env)) (Kq_if22 prog w A E env body orelse rest Q) E s) :
    WP (model prog w) A (execs (.If test body orelse pos :: rest) env) Q E s :=
  ⟨wpAny_execs_cons (wpAny_If (wpAny_mono x.out (fun b _ y => by cases b <;> exact wpAny_mono y.out (fun f _ z => by cases f <;> first | exact z.out | exact z) fun _ _ e => e) fun _ _ e => e))⟩
@[reducible] def Kq_try (prog : Program) (w : World) (A : Around) (E : Value → Shared → Prop) (env : Env) (rest : List Stmt) (Q : Flow → Shared → Prop) := (fun (f : Flow) (s' : Shared) => match f with | .next => wpAny (model prog w) A (execs rest env) Q E s' | f => Q f s')
@[reducible] def Kq_try2 (prog : Program) (w : World) (A : Around) (E : Value → Shared → Prop) (env : Env) (hd : ExceptHandler) (hs : List ExceptHandler) (rest : List Stmt) (Q : Flow → Shared → Prop) (e : Value) := (fun (_ : Unit) (s₃ : Shared) => wpAny (model prog w) A (handleBy e env (hd :: hs)) (Kq_try prog w A E env rest Q) E s₃)
@[reducible] def Kq_try3 (prog : Program) (w : World) (A : Around) (E : Value → Shared → Prop) (env : Env) (hd : ExceptHandler) (hs : List ExceptHandler) (rest : List Stmt) (Q : Flow → Shared → Prop) (e : Value) := (fun (_ : Unit) (s₂ : Shared) => wpAny (model prog w) A (setFlight e none) (Kq_try2 prog w A E env hd hs rest Q e) E s₂)
@[reducible] def Kq_try4 (prog : Program) (w : World) (A : Around) (E : Value → Shared → Prop) (env : Env) (hd : ExceptHandler) (hs : List ExceptHandler) (rest : List Stmt) (Q : Flow → Shared → Prop) := (fun e (s₁ : Shared) => wpAny (model prog w) A (noteFrame e env) (Kq_try3 prog w A E env hd hs rest Q e) E s₁)
@[reducible] def Kq_try5 (prog : Program) (w : World) (A : Around) (E : Value → Shared → Prop) (env : Env) (rest : List Stmt) (Q : Flow → Shared → Prop) := (fun (f : Flow) (s₁ : Shared) => match f with | .next => WP (model prog w) A (execs rest env) Q E s₁ | f => Q f s₁)
theorem q_try {body : List Stmt} {hd : ExceptHandler} {hs : List ExceptHandler} {pos : Pos} {rest : List Stmt} {Q : Flow → Shared → Prop}
    (x : WP (model prog w) A (execs body env) (Kq_try5 prog w A E env rest Q)
      (Kq_try4 prog w A E env hd hs rest Q) s) :
    WP (model prog w) A (execs (.Try body (hd :: hs) [] [] pos :: rest) env) Q E s :=
  ⟨wpAny_execs_cons (wpAny_Try_except (wpAny_mono x.out (fun f _ y => by cases f <;> first | exact wpAny_execs_nil y.out | exact y) fun _ _ e => e))⟩
theorem q_iterIt {it l : Addr} {i : Nat} {oi : Obj} {Q : Value → Shared → Prop} (hi : Heap.get? h it = some oi) (hc : oi.cls = .type "list_iterator") (hd : oi.data = .fields #[.ref l, .int i 0]) (x : Q (.ref it) ⟨h, g, d, t, os⟩) :
    WP (model prog w) A (pyIter (.ref it)) Q E ⟨h, g, d, t, os⟩ := ⟨wpAny_pyIter_listiter ⟨oi, hi, hc, hd⟩ x⟩
end

section
variable {prog : Program} {w : World} {A : Around} {E : Value → Shared → Prop} {env : Env} {L : Addr} {names : List (Str × NameKind)} {cells : List (Str × Addr)} {s : Shared}
@[reducible] def Kq_expr (prog : Program) (w : World) (A : Around) (E : Value → Shared → Prop) (env : Env) (rest : List Stmt) (Q : Flow → Shared → Prop) := (fun (_ : Value) (s₁ : Shared) => WP (model prog w) A (execs rest env) Q E s₁)
theorem q_expr {nm : Str} {p1 p2 p3 : Pos} {args : List Expr} {rest : List Stmt} {Q : Flow → Shared → Prop} (V : EnvOK env L names cells)
    (x : WP (model prog w) A (eval (.Call (.Name nm p1) args [] p2) env) (Kq_expr prog w A E env rest Q) E s) : WP (model prog w) A (execs (.Expr (.Call (.Name nm p1) args [] p2) p3 :: rest) env) Q E s := by
  refine ⟨wpAny_execs_cons (wpAny_Expr_any (wpAny_mono x.out (fun _ _ y => y.out) fun _ _ e => e) ?_ ?_)⟩
  · unfold interactive; rw [V.kind]; rfl
  · rfl
end
end Mine

-- LRUL
namespace Mine
theorem intsAre_val : ∀ xs : List (Int × Tok), IntsAre (xs.map val) (xs.map (·.1))
  | [] => .nil
  | z :: r => .cons z.1 z.2 (intsAre_val r)
theorem readsAll_of_bools {h : Heap} : ∀ bs : List Bool, ReadsAll h (bs.map Value.bool) (bs.map PyData.bool) []
  | [] => .nil
  | b :: r => by
    have := ReadsAll.cons (Reads.bool (h := h) b) (readsAll_of_bools (h := h) r)
    simpa using this
theorem canLayAll0_bools : ∀ bs : List Bool, PyData.canLayAll0 (bs.map PyData.bool) = true
  | [] => by simp [PyData.canLayAll0]
  | n :: r => by simp [PyData.canLayAll0, PyData.canLay0, canLayAll0_bools r]
theorem depthAll_bools : ∀ bs : List Bool, PyData.depthAll (bs.map PyData.bool) ≤ 1
  | [] => by simp [PyData.depthAll]
  | n :: r => by
    have := depthAll_bools r
    simp only [List.map_cons, PyData.depthAll, PyData.depth]
    omega
theorem shaped_bools (ns : List Bool) : SeqAt.shaped (.list (ns.map PyData.bool)) = true := by
  have h1 := depthAll_bools ns
  have h2 : PyData.depth (.list (ns.map PyData.bool)) ≤ 64 := by simp only [PyData.depth]; omega
  show (PyData.canLay0 (.list (ns.map PyData.bool)) && decide (PyData.depth (.list (ns.map PyData.bool)) ≤ 64)) = true
  rw [Bool.and_eq_true]
  exact ⟨by simp only [PyData.canLay0]; exact canLayAll0_bools ns, decide_eq_true h2⟩
theorem noMix_bools : ∀ ns ms : List Bool, SeqAt.noMixAll (ns.map PyData.bool) (ms.map PyData.bool) = true
  | [], [] => by simp [SeqAt.noMixAll]
  | [], _ :: _ => by simp [SeqAt.noMixAll]
  | _ :: _, [] => by simp [SeqAt.noMixAll]
  | _ :: r, _ :: q => by simp [SeqAt.noMixAll, SeqAt.noMix, noMix_bools r q]
theorem same_bools : ∀ ns : List Bool, PySem.Spec.sameAll (ns.map PyData.bool) (ns.map PyData.bool) = true
  | [] => by simp [PySem.Spec.sameAll]
  | n :: r => by
    simp only [List.map_cons, PySem.Spec.sameAll, PySem.Spec.same, same_bools r]
    simp
section
variable {prog : Program} {w : World} {A : Around} {E : Value → Shared → Prop} {env : Env} {s : Shared} {L : Addr} {names : List (Str × NameKind)} {cells : List (Str × Addr)}
  {but : List Addr} {h₀ h : Heap} {news news' : List (Addr × Obj)} {g : Array GenState} {d : Drawn} {t : Nat} {os : OsState}
theorem q_neL {a b : Addr} {xs ys : List (Int × Tok)} {c c' : Nat} {Q : Value → Shared → Prop} (hu : A.units + 64 < cLine) (ha : Heap.get? h a = some (seqObj "list" (xs.map val).toArray c)) (hb : Heap.get? h b = some (seqObj "list" (ys.map val).toArray c'))
    (x : Q (.bool (!decide (xs.map (·.1) = ys.map (·.1)))) ⟨h, g, d, t, os⟩) : WP (model prog w) A (compareOp .NotEq (.ref a) (.ref b)) Q E ⟨h, g, d, t, os⟩ :=
  ⟨ne_intsK ⟨_, ha, rfl, c, rfl⟩ (intsAre_val xs) ⟨_, hb, rfl, c', rfl⟩ (intsAre_val ys) hu x⟩
theorem q_neE {a b : Addr} {xs : List (Int × Tok)} {c c' : Nat} {Q : Value → Shared → Prop} (hu : A.units + 64 < cLine) (ha : Heap.get? h a = some (seqObj "list" (xs.map val).toArray c)) (hb : Heap.get? h b = some (seqObj "list" ([] : List Value).toArray c'))
    (x : Q (.bool (!decide (xs.map (·.1) = []))) ⟨h, g, d, t, os⟩) : WP (model prog w) A (compareOp .NotEq (.ref a) (.ref b)) Q E ⟨h, g, d, t, os⟩ :=
  q_neL (ys := []) hu ha hb x
theorem q_neB {a b : Addr} {xs : List Bool} {c c' : Nat} {Q : Value → Shared → Prop} (hu : A.units + 64 < cLine) (ha : Heap.get? h a = some (seqObj "list" (xs.map Value.bool).toArray c)) (hb : Heap.get? h b = some (seqObj "list" (xs.map Value.bool).toArray c'))
    (x : Q (.bool false) ⟨h, g, d, t, os⟩) : WP (model prog w) A (compareOp .NotEq (.ref a) (.ref b)) Q E ⟨h, g, d, t, os⟩ := by
  have ra : Reads h (.ref a) (.list (xs.map PyData.bool)) [a] := Reads.list ha rfl rfl (by simpa using readsAll_of_bools xs)
  have rb : Reads h (.ref b) (.list (xs.map PyData.bool)) [b] := Reads.list hb rfl rfl (by simpa using readsAll_of_bools xs)
  exact ⟨ne_dataH_same ra rb (shaped_bools xs) (shaped_bools xs) hu (by simp only [SeqAt.noMix]; exact noMix_bools xs xs) (by simp only [PySem.Spec.same]; rw [same_bools]; exact x)⟩
@[reducible] def Kq_subs (prog : Program) (w : World) (A : Around) (E : Value → Shared → Prop) (value : Expr) (slice : Expr) (Q : Value → Shared → Prop) (o : Value) := (fun (i : Value) (s₂ : Shared) => WP (model prog w) A (subscriptTail value slice o i) Q E s₂)
@[reducible] def Kq_subs2 (prog : Program) (w : World) (A : Around) (E : Value → Shared → Prop) (env : Env) (value : Expr) (slice : Expr) (Q : Value → Shared → Prop) := (fun (o : Value) (s₁ : Shared) => WP (model prog w) A (eval slice env) (Kq_subs prog w A E value slice Q o) E s₁)
theorem q_subs {value slice : Expr} {pos : Pos} {Q : Value → Shared → Prop} (x : WP (model prog w) A (eval value env) (Kq_subs2 prog w A E env value slice Q) E s) :
    WP (model prog w) A (eval (.Subscript value slice pos) env) Q E s := ⟨Subscript_ (wpAny_mono x.out (fun _ _ y => wpAny_mono y.out (fun _ _ z => z.out) fun _ _ e => e) fun _ _ e => e)⟩
theorem q_item {value slice : Expr} {l : Addr} {vs : List (Int × Tok)} {c : Nat} {k : Int} {u : Tok} {v : Int × Tok} {Q : Value → Shared → Prop} (hl : Heap.get? h l = some (seqObj "list" (vs.map val).toArray c)) (h0 : 0 ≤ k) (hhi : k < 2 ^ 63) (hx : vs[k.toNat]? = some v)
    (hs : subscripted slice false (.ref l) (.int k u) = operate [.ref l, .int k u] (getItem (.ref l) (.int k u))) (x : Q (val v) ⟨h, g, d, t, os⟩) :
    WP (model prog w) A (subscriptTail value slice (.ref l) (.int k u)) Q E ⟨h, g, d, t, os⟩ := by
  have hL : Heap.IsList h l (vs.map val).toArray := ⟨_, hl, rfl, c, rfl⟩
  exact ⟨tail_any hL.typeIs slot_list_getitem.lookup (wpAny_getItem_list hL h0 hhi (by simp [hx]) x) hs⟩
@[reducible] def Kq_andF (Q : Bool → Shared → Prop) := (fun c (s' : Shared) => c = false ∧ Q false s')
theorem q_andF {x : Expr} {rest : List Expr} {pos : Pos} {whole : Sem Value} {Q : Bool → Shared → Prop} (y : WP (model prog w) A (isTrue x env (eval x env)) (Kq_andF Q) E s) :
    WP (model prog w) A (isTrue (.BoolOp .And (x :: rest) pos) env whole) Q E s := ⟨isTrue_and (wpAny_mono y.out (fun c _ z => by rw [z.1]; exact z.2) fun _ _ e => e)⟩
@[reducible] def Kq_andT (prog : Program) (w : World) (A : Around) (E : Value → Shared → Prop) (env : Env) (rest : List Expr) (pos : Pos) (whole : Sem Value) (Q : Bool → Shared → Prop) := (fun c (s' : Shared) => c = true ∧ WP (model prog w) A (isTrue (.BoolOp .And rest pos) env whole) Q E s')
theorem q_andT {x : Expr} {rest : List Expr} {pos : Pos} {whole : Sem Value} {Q : Bool → Shared → Prop} (y : WP (model prog w) A (isTrue x env (eval x env)) (Kq_andT prog w A E env rest pos whole Q) E s) :
    WP (model prog w) A (isTrue (.BoolOp .And (x :: rest) pos) env whole) Q E s := ⟨isTrue_and (wpAny_mono y.out (fun c _ z => by rw [z.1]; exact z.2.out) fun _ _ e => e)⟩
@[reducible] def Kq_orF (prog : Program) (w : World) (A : Around) (E : Value → Shared → Prop) (env : Env) (rest : List Expr) (pos : Pos) (whole : Sem Value) (Q : Bool → Shared → Prop) := (fun c (s' : Shared) => c = false ∧ WP (model prog w) A (isTrue (.BoolOp .Or rest pos) env whole) Q E s')
theorem q_orF {x : Expr} {rest : List Expr} {pos : Pos} {whole : Sem Value} {Q : Bool → Shared → Prop} (y : WP (model prog w) A (isTrue x env (eval x env)) (Kq_orF prog w A E env rest pos whole Q) E s) :
    WP (model prog w) A (isTrue (.BoolOp .Or (x :: rest) pos) env whole) Q E s := ⟨isTrue_or (wpAny_mono y.out (fun c _ z => by rw [z.1]; exact z.2.out) fun _ _ e => e)⟩
theorem q_orN {pos : Pos} {whole : Sem Value} {Q : Bool → Shared → Prop} (y : Q false s) : WP (model prog w) A (isTrue (.BoolOp .Or [] pos) env whole) Q E s := ⟨isTrue_or_nil y⟩
@[reducible] def Kq_boolAnd (prog : Program) (w : World) (A : Around) (E : Value → Shared → Prop) (env : Env) (e₂ : Expr) (rest : List Expr) (pos : Pos) (Q : Value → Shared → Prop) := (fun (v : Value) (s₁ : Shared) => v = .bool true ∧ WP (model prog w) A (eval (.BoolOp .And (e₂ :: rest) pos) env) Q E s₁)
theorem q_boolAnd {e₁ e₂ : Expr} {rest : List Expr} {pos : Pos} {Q : Value → Shared → Prop} (y : WP (model prog w) A (eval e₁ env) (Kq_boolAnd prog w A E env e₂ rest pos Q) E s) :
    WP (model prog w) A (eval (.BoolOp .And (e₁ :: e₂ :: rest) pos) env) Q E s := ⟨BoolOp_and (wpAny_mono y.out (fun v _ z => by rw [z.1]; exact wpAny_truthy_bool z.2.out) fun _ _ e => e)⟩
theorem q_bool1 {op : BoolOp} {e : Expr} {pos : Pos} {Q : Value → Shared → Prop} (y : WP (model prog w) A (eval e env) Q E s) : WP (model prog w) A (eval (.BoolOp op [e] pos) env) Q E s := ⟨BoolOp_one y.out⟩
@[reducible] def Kq_assignSw (prog : Program) (w : World) (A : Around) (E : Value → Shared → Prop) (env : Env) (rest : List Stmt) (Q : Flow → Shared → Prop) := (fun (_ : Unit) (s₃ : Shared) => WP (model prog w) A (execs rest env) Q E s₃)
@[reducible] def Kq_assignSw2 (prog : Program) (w : World) (A : Around) (E : Value → Shared → Prop) (env : Env) (rest : List Stmt) (nms : List Str) (Q : Flow → Shared → Prop) := (fun (items : List Value) (s₂ : Shared) => WP (model prog w) A (assignInOrder (nms.reverse.map fun n => bindName env n) items.reverse) (Kq_assignSw prog w A E env rest Q) E s₂)
@[reducible] def Kq_assignSw3 (prog : Program) (w : World) (A : Around) (E : Value → Shared → Prop) (env : Env) (rest : List Stmt) (nms : List Str) (Q : Flow → Shared → Prop) := (fun (v : Value) (s₁ : Shared) => WP (model prog w) A (unpackItems v nms.length none) (Kq_assignSw2 prog w A E env rest nms Q) E s₁)
theorem q_assignSw {elts : List Expr} {k : Nat} {tpos pos : Pos} {value : Expr} {rest : List Stmt} {nms : List Str} {Q : Flow → Shared → Prop} (hs : swapsWithSole [.Tuple elts k tpos] value pos.line env = pure false) (hw : swappedStores [.Tuple elts k tpos] value env = pure (some nms))
    (x : WP (model prog w) A (eval value env) (Kq_assignSw3 prog w A E env rest nms Q) E s) :
    WP (model prog w) A (execs (.Assign [.Tuple elts k tpos] value pos :: rest) env) Q E s :=
  ⟨wpAny_execs_cons (Assign_Tuple_swapped (wpAny_mono x.out (fun _ _ y => wpAny_mono y.out (fun _ _ z => wpAny_mono z.out (fun _ _ z => z.out) fun _ _ e => e) fun _ _ e => e) fun _ _ e => e) hs hw)⟩
def TupEnd (Q : Value → Shared → Prop) (s₁ : Shared) (vs : List Value) : Prop := vs.length ≤ sizeLine ∧ Q (.ref s₁.heap.objs.size) { s₁ with heap := s₁.heap.push { cls := .type "tuple", data := .seq vs.toArray } }
@[reducible] def Kq_tuple (Q : Value → Shared → Prop) := (fun (vs : List Value) (s₁ : Shared) => TupEnd Q s₁ vs)
theorem q_tuple {elts : List Expr} {k : Nat} {pos : Pos} {Q : Value → Shared → Prop} (x : WP (model prog w) A (spliced (backTo pos (starEach elts env))) (Kq_tuple Q) E s) :
    WP (model prog w) A (eval (.Tuple elts k pos) env) Q E s := ⟨wpAny_Tuple x.out⟩
theorem tupEnd {Q : Value → Shared → Prop} {vs : List Value} (D : Lg but h₀ h news) (hz : vs.length ≤ sizeLine) (x : ∀ a h', Lg but h₀ h' ((a, seqObj "tuple" vs.toArray 0) :: news) → Q (.ref a) ⟨h', g, d, t, os⟩) : TupEnd Q ⟨h, g, d, t, os⟩ vs :=
  ⟨hz, x _ _ (D.alloc rfl)⟩
theorem q_unpack3 {a : Addr} {v1 v2 v3 : Value} {c : Nat} {Q : List Value → Shared → Prop} (hh : A.handled = none) (D : Lg but h₀ h news) (ha : Heap.get? h a = some (seqObj "tuple" [v1, v2, v3].toArray c)) (x : ∀ h', Lg but h₀ h' news → Q [v1, v2, v3] ⟨h', g, d, t, os⟩) :
    WP (model prog w) A (unpackItems (.ref a) 3 none) Q E ⟨h, g, d, t, os⟩ := by
  refine ⟨unpackItems_tuple (items := [v1, v2, v3].toArray) hh ⟨_, ha, rfl, c, rfl⟩ fun h' he => ?_⟩
  refine x h' (D.grow fun b o e => he b o (fun z => ?_) e)
  have := Heap.lt_size e
  rw [z] at this
  exact Nat.lt_irrefl _ this
theorem q_inil {Q : Unit → Shared → Prop} (x : Q () s) : WP (model prog w) A (assignInOrder [] []) Q E s := ⟨wpAny_assignInOrder_none x⟩
@[reducible] def Kq_icons (prog : Program) (w : World) (A : Around) (E : Value → Shared → Prop) (env : Env) (ns : List Str) (vs : List Value) (Q : Unit → Shared → Prop) := (fun (_ : Unit) (s₁ : Shared) => WP (model prog w) A (assignInOrder (ns.map fun n => bindName env n) vs) Q E s₁)
theorem q_icons {nm : Str} {ns : List Str} {v : Value} {vs : List Value} {Q : Unit → Shared → Prop} (x : WP (model prog w) A (storeName env nm v) (Kq_icons prog w A E env ns vs Q) E s) :
    WP (model prog w) A (assignInOrder ((nm :: ns).map fun n => bindName env n) (v :: vs)) Q E s := ⟨wpAny_assignInOrder_more (wpAny_bindName (wpAny_mono x.out (fun _ _ y => y.out) fun _ _ e => e))⟩
@[reducible] def Kq_cwC (prog : Program) (w : World) (A : Around) (E : Value → Shared → Prop) (C : Addr) (ns : Addr) (ba : Addr) (tn : Tok) (v1 : Tok) (Q : Value → Shared → Prop) := (fun (v : Value) (s₁ : Shared) => s₁.heap.get? C = some (oK C ns ba tn v1) ∧ wpAny (model prog w) A (PySem.call (.ref C) [v]) Q E s₁)
theorem q_cwC {pos : Pos} {C ns ba : Addr} {tn v1 : Tok} {e : Expr} {Q : Value → Shared → Prop} (he : starEach [e] env = [(false, eval e env)])
    (x : WP (model prog w) A (eval e env) (Kq_cwC prog w A E C ns ba tn v1 Q) E s) :
    WP (model prog w) A (callWith pos (.ref C) [] (backTo pos (starEach [e] env)) (backToKw pos (keywordEach [] env))) Q E s := by
  rw [he]
  refine ⟨?_⟩
  show wpAny _ _ (callWith pos (.ref C) [] [(false, _)] []) _ _ _
  unfold callWith
  refine wpAny_bind (wpAny_holding (Calls.evalArgs_plain (Calls.spliced_cons (wpAny_mono x.out (fun v s₁ h₁ => Calls.spliced_nil ?_) fun _ _ x => x))))
  obtain ⟨hh, g, d, t, os⟩ := s₁
  have hC : hh.get? C = _ := h₁.1
  unfold oK at hC
  have f1 := tc_lookup
  have hT : (⟨hh, g, d, t, os⟩ : Shared).TypeIs (.ref C) "type" := ⟨_, hC, rfl⟩
  refine wpAny_bind (wpAny_standAt ?_)
  show wpAny _ _ (keeperOf (.ref C) >>= _) _ _ _
  unfold keeperOf specialOf
  repeat (any_goals (first | assumption | ((fail_if_success (with_reducible show wpAny _ _ (PySem.call _ _ _ >>= _) _ _ _)); first | with_reducible refine wpAny_loadPart_at hC ?_ | with_reducible refine wpAny_load' hC ?_ | wp_step)))
  show wpAny _ _ (PySem.call (.ref C) [v] [] >>= fun r => do holding [r] point; pure r) _ _ _
  exact wpAny_bind (wpAny_mono h₁.2 (fun r s' hr => wpAny_bind (wpAny_holding (wpAny_point (wpAny_pure hr)))) fun _ _ x => x)
theorem q_range {a b : Int} {u v : Tok} {Q : Value → Shared → Prop} (D : Lg but h₀ h news) (x : ∀ r h', Lg but h₀ h' news → IsRange h' r a b 1 u v t → Q (.ref r) ⟨h', g, d, t + 1, os⟩) :
    WP (model prog w) A (PySem.call (.type "range") [.int a u, .int b v]) Q E ⟨h, g, d, t, os⟩ :=
  ⟨call_range_2 (x _ _ (D.grow (Keeps.push _ _)) (IsRange.new ..))⟩
theorem q_ifFI {test : Expr} {body : List Stmt} {pos : Pos} {rest : List Stmt} {Q : Flow → Shared → Prop} (I : Shared → Prop)
    (x : WP (model prog w) A (isTrue test env (eval test env)) (fun b s₁ => b = false ∧ I s₁) E s) (k : ∀ s₁, I s₁ → WP (model prog w) A (execs rest env) Q E s₁) :
    WP (model prog w) A (execs (.If test body [] pos :: rest) env) Q E s := q_ifF (x.mono fun _ s₁ y => ⟨y.1, k s₁ y.2⟩)
def rgObj (x left : Int) : Obj := { cls := .type "range_iterator", data := .fields #[rawInt x, rawInt left, rawInt 1] }
theorem q_iterR {r : Addr} {a b : Int} {u v t' : Tok} {Q : Value → Shared → Prop} (D : Lg but h₀ h news) (hr : IsRange h r a b 1 u v t') (hs : Builtin.Range.small a b 1 = true)
    (x : ∀ i h', Lg but h₀ h' ((i, rgObj a (Builtin.Range.rangeSize a b 1)) :: news) → Q (.ref i) ⟨h', g, d, t, os⟩) :
    WP (model prog w) A (pyIter (.ref r)) Q E ⟨h, g, d, t, os⟩ := ⟨wpAny_pyIter_range hr hs (x _ _ (D.alloc rfl))⟩
end
theorem Lg.dropB {but : List Addr} {h₀ h h' : Heap} {news : List (Addr × Obj)} {a : Addr} {o : Obj} (L : Lg but h₀ h ((a, o) :: news)) (hn : h₀.get? a = none ∨ a ∈ but) (hs : Heap.ExtBut a h h') : Lg but h₀ h' news := by
  have nd := L.nd
  simp only [List.map_cons, List.nodup_cons] at nd
  refine ⟨fun b ob eb hb => hs b ob ?_ (L.keep b ob eb hb), fun p hp => ⟨hs p.1 p.2 (fun q => nd.1 ?_) (L.nw p (.tail _ hp)).1, (L.nw p (.tail _ hp)).2⟩, nd.2⟩
  · rintro rfl
    rcases hn with q | q
    · rw [q] at eb; cases eb
    · exact hb q
  · rw [← q]; exact List.mem_map_of_mem hp
theorem Lg.drop' {but : List Addr} {h₀ h h' : Heap} {news : List (Addr × Obj)} {a : Addr} {o : Obj} (L : Lg but h₀ h ((a, o) :: news)) (hs : Heap.ExtBut a h h') : Lg but h₀ h' news :=
  L.dropB (Or.symm (L.nw _ (.head _)).2) hs
theorem TabOK.kb2 {w : World} {h h' : Heap} {T : TD} {C : List Addr} {o : Obj} (x : TabOK w h T) (k : KB C h h') (e : h.get? 16 = some o) (e' : h'.get? 16 = some o) (ha : ∀ a ∈ T.as, a ∉ C) : TabOK w h' T := by
  have q : ∀ {a o}, a ∈ T.as → h.get? a = some o → h'.get? a = some o := fun hm e => k _ _ e (ha _ hm)
  have t := x.t16
  rw [e] at t
  exact ⟨e'.trans t, q (by simp [TD.as]) x.hk, q (by simp [TD.as]) x.hp, q (by simp [TD.as]) x.c0, q (by simp [TD.as]) x.c1, q (by simp [TD.as]) x.c2, q (by simp [TD.as]) x.c3, q (by simp [TD.as]) x.c4, q (by simp [TD.as]) x.c5⟩
theorem Lg.present {C : List Addr} {h h' : Heap} {news : List (Addr × Obj)} (L : Lg C h h' news) : ∀ a ∈ news.map (·.1), ∃ o, h'.get? a = some o := fun a ha => by
  obtain ⟨p, hp, rfl⟩ := List.mem_map.mp ha
  exact ⟨_, (L.nw p hp).1⟩
theorem Deep3.sh1 {A : Around} (S : Deep3 A) : Shallow A.in1 := ⟨S.handled, by have := S.depth; show A.depth ≤ 800; omega, by have := S.units; show A.units + 1 ≤ 3000; omega⟩
theorem Deep3.sh0 {A : Around} (S : Deep3 A) : Shallow A := ⟨S.handled, by have := S.depth; omega, by have := S.units; omega⟩
theorem Deep3.sh2 {A : Around} (S : Deep3 A) : Shallow A.in1.in1 := ⟨S.handled, by have := S.depth; show A.depth ≤ 800; omega, by have := S.units; show A.units + 1 + 1 ≤ 3000; omega⟩
theorem Deep3.cl {A : Around} (S : Deep3 A) : A.units + 64 < cLine := by
  have := S.units
  have h : (3000 : Nat) < cLine := by decide +kernel
  omega
end Mine

-- TRUL
namespace Mine
theorem Lg.stepAdd {but : List Addr} {h₀ h h' : Heap} {news news' : List (Addr × Obj)} {a D : Addr} {o o' oD : Obj} (L : Lg but h₀ h news) (U : SetAt a o o' news news') (k : ∀ b ob, b ≠ a → h.get? b = some ob → h'.get? b = some ob) (e : h'.get? a = some o')
    (hD : h.get? D = none) (eD : h'.get? D = some oD) : Lg but h₀ h' ((D, oD) :: news') := by
  have hm := U.mem
  have ha := L.nw _ hm
  refine ⟨fun b ob eb hb => k b ob ?_ (L.keep b ob eb hb), fun p hp => ?_, ?_⟩
  · rintro rfl
    rcases ha.2 with q | q
    · exact hb q
    · rw [q] at eb; cases eb
  · rcases List.mem_cons.mp hp with rfl | hp
    · refine ⟨eD, ?_⟩
      by_cases hb : D ∈ but
      · exact .inl hb
      · right
        cases q : h₀.get? D with
        | none => rfl
        | some o' => rw [L.keep D o' q hb] at hD; cases hD
    · rcases U.of L.nd p hp with rfl | ⟨q, q2⟩
      · exact ⟨e, ha.2⟩
      · exact ⟨k _ _ q2 (L.nw p q).1, (L.nw p q).2⟩
  · rw [List.map_cons, List.nodup_cons, U.keys]
    refine ⟨fun hm => ?_, L.nd⟩
    obtain ⟨p, hp, e'⟩ := List.mem_map.mp hm
    have := (L.nw p hp).1
    rw [e', hD] at this; cases this
theorem paired_int {fn : Int → Int} : ∀ {vs : List (Int × Tok)} {ys : List Value}, Paired (fun v y => ∃ x t t', v = .int x t ∧ y = .int (fn x) t') (vs.map val) ys → ∃ zs : List (Int × Tok), ys = zs.map val ∧ zs.map (·.1) = vs.map fun z => fn z.1
  | [], _, .nil => ⟨[], rfl, rfl⟩
  | z :: vs, _, .cons h t => by
    obtain ⟨x, u, u', e1, e2⟩ := h
    obtain ⟨zs, e3, e4⟩ := paired_int t
    cases e1
    exact ⟨(fn z.1, u') :: zs, by rw [e2, e3]; rfl, by rw [List.map_cons, e4, List.map_cons]⟩
theorem filterTrue (l : List Value) : l.filter (fun _ => true) = l := by
  induction l with
  | nil => rfl
  | cons a r ih => rw [List.filter_cons_of_pos rfl, ih]
section
variable {prog : Program} {w : World} {A : Around} {E : Value → Shared → Prop} {env : Env} {s : Shared} {L : Addr} {names : List (Str × NameKind)} {cells : List (Str × Addr)}
  {but : List Addr} {h₀ h : Heap} {news news' : List (Addr × Obj)} {g : Array GenState} {d : Drawn} {t : Nat} {os : OsState}
theorem q_opaque {α : Type} {M : Model} {m : Sem α} {Q : α → Shared → Prop} (P : (α → Shared → Prop) → Prop) (k : ∀ QQ, P QQ → WP M A m QQ E s) (x : P Q) : WP M A m Q E s := k Q x
/-- y = [elt for x in xs], the items ints, the results ints -/
theorem q_assignMap {elt iter : Expr} {x y : Str} {px py : Pos} {scope : Scope} {cl : List (Str × Addr)} {pos spos : Pos} {rest : List Stmt} {Q : Flow → Shared → Prop} (fn : Int → Int) (hh : A.handled = none) (V : EnvOK env L names cells)
    (hsw : swapsWith (.ListComp elt [⟨.Name x px, iter, [], 0⟩] scope pos) (some (.Name y py)) spos.line env = pure true)
    (hclos : closureFor scope env = pure cl) (hcell : ∀ z ∈ scope.names, z.2 ≠ .cell) (hkind : scope.kind = .function)
    (hnames : ∀ z ∈ scope.names, z.2 = .local → scope.names.lookup z.1 = some .local) (hx : scope.names.lookup x = some .local)
    (hy : names.lookup y = some .local) (hs : ∀ x, foldedSetIterable iter env x = pure x)
    (D : Lg but h₀ h news) {o : Obj} {m : Str → Option Value} (hm : (L, o) ∈ news) (N : NsO o m)
    (H : WP (model prog w) A (eval iter env) (fun xv s₁ => ∃ l vs c t₁, xv = .ref l ∧ s₁ = ⟨h, g, d, t₁, os⟩ ∧ h.get? l = some (seqObj "list" ((vs : List (Int × Tok)).map val).toArray c) ∧ vs.length ≤ sizeLine ∧
      (∀ C z h₂ g₂ d₂ t₂ os₂ o₂ m₂ E', z ∈ vs → Keeps h h₂ → h₂.get? C = some o₂ → NsO o₂ m₂ → m₂ x = some (val z) →
        wpAny (model prog w) A (eval elt (compEnvC scope cl C env)) (fun v s₃ => (∃ t', v = .int (fn z.1) t') ∧ ∃ h₃ t₃, s₃ = ⟨h₃, g₂, d₂, t₃, os₂⟩ ∧ Keeps h₂ h₃) E' ⟨h₂, g₂, d₂, t₂, os₂⟩) ∧
      (∀ D h' o' tk c' (zs : List (Int × Tok)), h.get? D = none → h'.get? D = some (seqObj "list" (zs.map val).toArray c') → zs.map (·.1) = vs.map (fun z => fn z.1) → (∀ b ob, b ≠ L → h.get? b = some ob → h'.get? b = some ob) → h'.get? L = some o' → NsO o' (upd m y (.ref D)) →
        WP (model prog w) A (execs rest env) Q E ⟨h', g, d, tk, os⟩)) E ⟨h, g, d, t, os⟩) :
    WP (model prog w) A (execs (.Assign [.Name y py] (.ListComp elt [⟨.Name x px, iter, [], 0⟩] scope pos) spos :: rest) env) Q E ⟨h, g, d, t, os⟩ := by
  refine ⟨wpAny_execs_cons (wpAny_Assign_ListComp_free (fun _ => true) (fun v y => ∃ x t t', v = .int x t ∧ y = .int (fn x) t') hsw hclos hcell hkind hnames hx (V.k hy) V.plain (wpAny_mono H.out (fun xv s₁ K => ?_) fun _ _ e => e) hs)⟩
  obtain ⟨l, vs, c, t₁, rfl, rfl, hl, hz, helt, hQ⟩ := K
  refine wpAny_pyIter_list (items := (vs.map val).toArray) ⟨_, hl, rfl, c, rfl⟩ ?_
  generalize hI : h.objs.size = I
  generalize hH : h.push { cls := .type "list_iterator", data := .fields #[.ref l, .int 0 0] } = H
  have kH : Keeps h H := hH ▸ Keeps.push _ _
  have hIn : h.get? I = none := hI ▸ get?_size _
  have eI : H.get? I = some { cls := .type "list_iterator", data := .fields #[.ref l, .int 0 0] } := by rw [← hH, ← hI]; exact Heap.get?_push_size _ rfl
  have hIl : I ≠ l := by rintro rfl; rw [hIn] at hl; cases hl
  have hLn := D.hit hm
  have hIL : env.locals ≠ I := by rw [V.loc]; rintro rfl; rw [hIn] at hLn; cases hLn
  have up : ∀ {h' : Heap}, (∀ b o, b ∉ [I] → H.get? b = some o → h'.get? b = some o) → ∀ b o, h.get? b = some o → h'.get? b = some o := fun hk b o e =>
    hk b o (by intro hm; rw [List.mem_singleton.mp hm, hIn] at e; cases e) (kH b o e)
  refine ⟨I, [I, l], [I], (vs.map val).toArray.size, _, _, m, rfl, Walks.list hh I l (Ne.symm hIl) (vs.map val).toArray, by simpa using hz, ⟨⟨_, eI, rfl, rfl⟩, ⟨_, kH _ _ hl, rfl, c, rfl⟩⟩, ?hfp, by simpa using hIL, ns_mk (by rw [V.loc]; exact kH _ _ hLn) N, ⟨?t, ?e⟩, ?_⟩
  case hfp =>
    intro b hb
    simp only [List.mem_cons, List.not_mem_nil, or_false] at hb
    rcases hb with rfl | rfl
    · exact Heap.lt_size eI
    · exact Heap.lt_size (kH _ _ hl)
  case t =>
    intro C i v s₃ m₃ E' _ hv hn hm hk _
    obtain ⟨h₃, g₃, d₃, t₃, os₃⟩ := s₃
    exact wpAny_tests_nil ⟨rfl, h₃, t₃, rfl, fun _ _ e => e⟩
  case e =>
    intro C i v s₃ m₃ E' _ hv hpv hn hm hk _
    obtain ⟨h₃, g₃, d₃, t₃, os₃⟩ := s₃
    obtain ⟨o₂, e₂, N₂⟩ := ns_of hn
    obtain ⟨z, hz', rfl⟩ : ∃ z ∈ vs, val z = v := by
      have := Array.mem_of_getElem? hv
      simpa using this
    refine wpAny_mono (helt C z h₃ g₃ d₃ t₃ os₃ o₂ m₃ E' hz' (up hk) e₂ N₂ hm) (fun ok s₄ r => ?_) fun _ _ e => e
    obtain ⟨⟨t', e⟩, h₄, t₄, rfl, k₄⟩ := r
    exact ⟨⟨z.1, z.2, t', rfl, e⟩, h₄, t₄, rfl, k₄⟩
  intro D' h' tk ys us hD hl' hpl hlen hP hF hns hk
  have hus : us = vs.map val := by
    refine List.ext_getElem? fun j => ?_
    by_cases q : j < us.length
    · have := hP j _ (List.getElem?_eq_getElem q)
      rw [List.getElem?_eq_getElem q, ← this]
      simp
    · have hlen' : us.length = (vs.map val).length := by simpa using hlen
      rw [List.getElem?_eq_none (by omega), List.getElem?_eq_none (by omega)]
  rw [filterTrue, hus] at hF
  obtain ⟨zs, e3, e4⟩ := paired_int hF
  obtain ⟨c', e'⟩ := hpl
  have e5 : ys = (zs.map val).toArray := by rw [← e3]
  rw [e5] at e'
  obtain ⟨o', eL, NL⟩ := ns_of hns
  rw [V.loc] at eL
  have hDn : h.get? D' = none := by
    cases q : h.get? D' with
    | none => rfl
    | some o => rw [kH _ _ q] at hD; cases hD
  refine (hQ D' h' o' tk c' zs hDn e' e4 (fun b ob hb e => hk b ob (by rw [V.loc]; exact hb) (by intro hm; rw [List.mem_singleton.mp hm, hIn] at e; cases e) (kH b ob e)) eL NL).out
end
end Mine

-- TG3
namespace Mine
set_option maxRecDepth 100000
set_option maxHeartbeats 4000000
theorem e_superGet : entryFor table "super.__getattribute__" = some Builtin.«super.__getattribute__» := entryFor_of_fast (by kernel_rfl)
theorem subget_ok (w : World) (A : Around) (S : Deep A) (h₀ : Heap) (g d tk os) (C ns basesA S0 : Addr) (tn v1 : Tok) (Q : Value → Shared → Prop) (E : Value → Shared → Prop)
   (hC : h₀.get? C = some { cls := .type "type", data := .cls { name := ⟨#[75]⟩, bases := [.type "object"], mro := [.ref C, .type "object"], ns := ns, qualname := ⟨#[99, 109, 112, 95, 116, 111, 95, 107, 101, 121, 46, 60, 108, 111, 99, 97, 108, 115, 62, 46, 75]⟩, hasDict := false, slotNames := [⟨#[111, 98, 106]⟩], subclasses := [], abstract := false, collection := none, hasDel := false }, slots := #[some (.ref basesA), none, some (.str ⟨#[75]⟩ tn), some (.str ⟨#[99, 109, 112, 95, 116, 111, 95, 107, 101, 121, 46, 60, 108, 111, 99, 97, 108, 115, 62, 46, 75]⟩ v1), some (.builtin "object.__new__"), some (.bool false)] })
   (hS : h₀.get? S0 = some { cls := .type "super", data := .fields #[.ref C, .ref C, .ref C] })
   (h2 : h₀.get? 2 = some { cls := .none, data := .dict #[] 0 })
   (K : ∀ h' a tk', Keeps h₀ h' → h₀.get? a = none → h'.get? a = some { cls := .type "builtin_function_or_method", data := .fields #[.builtin "object.__init_subclass__", .ref C] } → Q (.ref a) ⟨h', g, d, tk', os⟩) :
   wpAny (model PG w) A (getAttr (.ref S0) (Str.ofString "__init_subclass__")) Q E ⟨h₀, g, d, tk, os⟩ := by
  have D := Lg.start h₀
  repeat (first | (with_reducible refine' wpAny_bind ?_) | (with_reducible refine' m_bind ?_) | (with_reducible refine' m_holding ?_) | (with_reducible refine' wpAny_tryCatch ?_) | (with_reducible refine' m_try ?_) | (with_reducible refine' m_keep ?_) | (with_reducible refine' wpAny_attempt ?_) | (first | (with_reducible refine' m_val c2 ?_) | (with_reducible refine' m_val c4 ?_) | (with_reducible refine' m_val c5 ?_) | (with_reducible refine' m_val c7 ?_) | (with_reducible refine' m_val c9 ?_) | (with_reducible refine' m_val l1 ?_) | (with_reducible refine' m_val l2 ?_) | (with_reducible refine' m_val l3 ?_) | (with_reducible refine' m_val l4 ?_) | (with_reducible refine' m_val l5 ?_) | (with_reducible refine' m_val sn_str ?_) | (with_reducible refine' m_val sn_int ?_) | (with_reducible refine' m_val sn_list ?_) | (with_reducible refine' m_val sn_function ?_) | (with_reducible refine' m_val sn_NoneType ?_) | (with_reducible refine' m_val sn_tuple ?_) | (with_reducible refine' m_val sn_mem ?_) | ((with_reducible show wpAny _ _ (run (Code.call (.builtin "classmethod_descriptor.__get__") _)) _ _ _); refine' run_of_call (wpAny_sh ?S (cmget_ok0 _ _ _ _ _ _ _ _ _ ?hC ?_)); (case S => first | assumption | exact Deep.sh (by assumption) | exact Deep.in1 (by assumption) | exact Deep.in2 (by assumption)); (case hC => (first | assumption | exact Lg.base0 (by assumption) (by assumption) | exact Lg.hit (by assumption) (by (repeat (first | exact List.Mem.head _ | refine List.Mem.tail _ ?_))))); intro hG aG tG kG nG eG; (have LG := Lg.add (by assumption) kG nG eG); clear kG nG eG)) | (with_reducible refine' m_slot ?hi ?_; (case hi => kernel_rfl!)) | (with_reducible refine' m_iteB ?hb ?_; (case hb => kernel_rfl!)) | (with_reducible refine' m_iteN ?hb ?_; (case hb => kernel_rfl!)) | refine' x_pure ?_ | (refine' m_load ?ho ?_; (case ho => (first | assumption | exact Lg.base0 (by assumption) (by assumption) | exact Lg.hit (by assumption) (by (repeat (first | exact List.Mem.head _ | refine List.Mem.tail _ ?_))))); (any_goals (try exact (Option.none : Option Value)))) | (refine' m_fresh ?_) | (refine' m_allocN ?D ?e ?f ?_; (case D => assumption); (case e => (conv => lhs; reduce); try exact rfl); (case f => exact rfl); intro a' h' D') | (refine' m_update ?D ?U ?e ?f ?_; (case D => assumption); (case U => (repeat (first | apply SetAt.here | apply SetAt.there))); (case e => rfl); (case f => rfl); intro h' D') | (refine' x_rule ?_) | (refine' x_ask ?_) | (refine' x_point ?_) | (refine' x_at ?_) | refine' m_bind ?_)
  rw [show (toString "super" ++ toString "." ++ toString (Str.ofString "__getattribute__").toString) = "super.__getattribute__" from by kernel_rfl!]
  refine wpAny_run (codeAny_call_builtin (by decide +kernel) e_superGet ?_)
  repeat (first | (with_reducible refine' wpAny_bind ?_) | (with_reducible refine' m_bind ?_) | (with_reducible refine' m_holding ?_) | (with_reducible refine' wpAny_tryCatch ?_) | (with_reducible refine' m_try ?_) | (with_reducible refine' m_keep ?_) | (with_reducible refine' wpAny_attempt ?_) | (first | (with_reducible refine' m_val c2 ?_) | (with_reducible refine' m_val c4 ?_) | (with_reducible refine' m_val c5 ?_) | (with_reducible refine' m_val c7 ?_) | (with_reducible refine' m_val c9 ?_) | (with_reducible refine' m_val l1 ?_) | (with_reducible refine' m_val l2 ?_) | (with_reducible refine' m_val l3 ?_) | (with_reducible refine' m_val l4 ?_) | (with_reducible refine' m_val l5 ?_) | (with_reducible refine' m_val sn_str ?_) | (with_reducible refine' m_val sn_int ?_) | (with_reducible refine' m_val sn_list ?_) | (with_reducible refine' m_val sn_function ?_) | (with_reducible refine' m_val sn_NoneType ?_) | (with_reducible refine' m_val sn_tuple ?_) | (with_reducible refine' m_val sn_mem ?_) | ((with_reducible show wpAny _ _ (run (Code.call (.builtin "classmethod_descriptor.__get__") _)) _ _ _); refine' run_of_call (wpAny_sh ?S (cmget_ok0 _ _ _ _ _ _ _ _ _ ?hC ?_)); (case S => first | assumption | exact Deep.sh (by assumption) | exact Deep.in1 (by assumption) | exact Deep.in2 (by assumption)); (case hC => (first | assumption | exact Lg.base0 (by assumption) (by assumption) | exact Lg.hit (by assumption) (by (repeat (first | exact List.Mem.head _ | refine List.Mem.tail _ ?_))))); intro hG aG tG kG nG eG; (have LG := Lg.add (by assumption) kG nG eG); clear kG nG eG)) | (with_reducible refine' m_slot ?hi ?_; (case hi => kernel_rfl!)) | (with_reducible refine' m_iteB ?hb ?_; (case hb => kernel_rfl!)) | (with_reducible refine' m_iteN ?hb ?_; (case hb => kernel_rfl!)) | refine' x_pure ?_ | (refine' m_load ?ho ?_; (case ho => (first | assumption | exact Lg.base0 (by assumption) (by assumption) | exact Lg.hit (by assumption) (by (repeat (first | exact List.Mem.head _ | refine List.Mem.tail _ ?_))))); (any_goals (try exact (Option.none : Option Value)))) | (refine' m_fresh ?_) | (refine' m_allocN ?D ?e ?f ?_; (case D => assumption); (case e => (conv => lhs; reduce); try exact rfl); (case f => exact rfl); intro a' h' D') | (refine' m_update ?D ?U ?e ?f ?_; (case D => assumption); (case U => (repeat (first | apply SetAt.here | apply SetAt.there))); (case e => rfl); (case f => rfl); intro h' D') | (refine' x_rule ?_) | (refine' x_ask ?_) | (refine' x_point ?_) | (refine' x_at ?_) | refine' m_bind ?_)
  rw [show (List.drop 1 (List.dropWhile (fun x => x != #[Value.ref C, Value.ref C, Value.ref C][0]) ({ name := ⟨#[75]⟩, bases := [.type "object"], mro := [.ref C, .type "object"], ns := ns, qualname := ⟨#[99, 109, 112, 95, 116, 111, 95, 107, 101, 121, 46, 60, 108, 111, 99, 97, 108, 115, 62, 46, 75]⟩, hasDict := false, slotNames := [⟨#[111, 98, 106]⟩], subclasses := [], abstract := false, collection := none, hasDel := false } : ClassData).mro)) = [Value.type "object"] from by simp [List.dropWhile]]
  repeat (first | (with_reducible refine' wpAny_bind ?_) | (with_reducible refine' m_bind ?_) | (with_reducible refine' m_holding ?_) | (with_reducible refine' wpAny_tryCatch ?_) | (with_reducible refine' m_try ?_) | (with_reducible refine' m_keep ?_) | (with_reducible refine' wpAny_attempt ?_) | (first | (with_reducible refine' m_val c2 ?_) | (with_reducible refine' m_val c4 ?_) | (with_reducible refine' m_val c5 ?_) | (with_reducible refine' m_val c7 ?_) | (with_reducible refine' m_val c9 ?_) | (with_reducible refine' m_val l1 ?_) | (with_reducible refine' m_val l2 ?_) | (with_reducible refine' m_val l3 ?_) | (with_reducible refine' m_val l4 ?_) | (with_reducible refine' m_val l5 ?_) | (with_reducible refine' m_val sn_str ?_) | (with_reducible refine' m_val sn_int ?_) | (with_reducible refine' m_val sn_list ?_) | (with_reducible refine' m_val sn_function ?_) | (with_reducible refine' m_val sn_NoneType ?_) | (with_reducible refine' m_val sn_tuple ?_) | (with_reducible refine' m_val sn_mem ?_) | ((with_reducible show wpAny _ _ (run (Code.call (.builtin "classmethod_descriptor.__get__") _)) _ _ _); refine' run_of_call (wpAny_sh ?S (cmget_ok0 _ _ _ _ _ _ _ _ _ ?hC ?_)); (case S => first | assumption | exact Deep.sh (by assumption) | exact Deep.in1 (by assumption) | exact Deep.in2 (by assumption)); (case hC => (first | assumption | exact Lg.base0 (by assumption) (by assumption) | exact Lg.hit (by assumption) (by (repeat (first | exact List.Mem.head _ | refine List.Mem.tail _ ?_))))); intro hG aG tG kG nG eG; (have LG := Lg.add (by assumption) kG nG eG); clear kG nG eG)) | (with_reducible refine' m_slot ?hi ?_; (case hi => kernel_rfl!)) | (with_reducible refine' m_iteB ?hb ?_; (case hb => kernel_rfl!)) | (with_reducible refine' m_iteN ?hb ?_; (case hb => kernel_rfl!)) | refine' x_pure ?_ | (refine' m_load ?ho ?_; (case ho => (first | assumption | exact Lg.base0 (by assumption) (by assumption) | exact Lg.hit (by assumption) (by (repeat (first | exact List.Mem.head _ | refine List.Mem.tail _ ?_))))); (any_goals (try exact (Option.none : Option Value)))) | (refine' m_fresh ?_) | (refine' m_allocN ?D ?e ?f ?_; (case D => assumption); (case e => (conv => lhs; reduce); try exact rfl); (case f => exact rfl); intro a' h' D') | (refine' m_update ?D ?U ?e ?f ?_; (case D => assumption); (case U => (repeat (first | apply SetAt.here | apply SetAt.there))); (case e => rfl); (case f => rfl); intro h' D') | (refine' x_rule ?_) | (refine' x_ask ?_) | (refine' x_point ?_) | (refine' x_at ?_) | refine' m_bind ?_)
  rw [show (toString "classmethod_descriptor" ++ toString "." ++ toString (Str.ofString "__get__").toString) = "classmethod_descriptor.__get__" from by kernel_rfl!,
    show (toString "object" ++ toString "." ++ toString (Str.ofString "__init_subclass__").toString) = "object.__init_subclass__" from by kernel_rfl!]
  rw [if_pos (by simp)]
  (first | (with_reducible refine' wpAny_bind ?_) | (with_reducible refine' m_bind ?_) | (with_reducible refine' m_holding ?_) | (with_reducible refine' wpAny_tryCatch ?_) | (with_reducible refine' m_try ?_) | (with_reducible refine' m_keep ?_) | (with_reducible refine' wpAny_attempt ?_) | (first | (with_reducible refine' m_val c2 ?_) | (with_reducible refine' m_val c4 ?_) | (with_reducible refine' m_val c5 ?_) | (with_reducible refine' m_val c7 ?_) | (with_reducible refine' m_val c9 ?_) | (with_reducible refine' m_val l1 ?_) | (with_reducible refine' m_val l2 ?_) | (with_reducible refine' m_val l3 ?_) | (with_reducible refine' m_val l4 ?_) | (with_reducible refine' m_val l5 ?_) | (with_reducible refine' m_val sn_str ?_) | (with_reducible refine' m_val sn_int ?_) | (with_reducible refine' m_val sn_list ?_) | (with_reducible refine' m_val sn_function ?_) | (with_reducible refine' m_val sn_NoneType ?_) | (with_reducible refine' m_val sn_tuple ?_) | (with_reducible refine' m_val sn_mem ?_) | ((with_reducible show wpAny _ _ (run (Code.call (.builtin "classmethod_descriptor.__get__") _)) _ _ _); refine' run_of_call (wpAny_sh ?S (cmget_ok0 _ _ _ _ _ _ _ _ _ ?hC ?_)); (case S => first | assumption | exact Deep.sh (by assumption) | exact Deep.in1 (by assumption) | exact Deep.in2 (by assumption)); (case hC => (first | assumption | exact Lg.base0 (by assumption) (by assumption) | exact Lg.hit (by assumption) (by (repeat (first | exact List.Mem.head _ | refine List.Mem.tail _ ?_))))); intro hG aG tG kG nG eG; (have LG := Lg.add (by assumption) kG nG eG); clear kG nG eG)) | (with_reducible refine' m_slot ?hi ?_; (case hi => kernel_rfl!)) | (with_reducible refine' m_iteB ?hb ?_; (case hb => kernel_rfl!)) | (with_reducible refine' m_iteN ?hb ?_; (case hb => kernel_rfl!)) | refine' x_pure ?_ | (refine' m_load ?ho ?_; (case ho => (first | assumption | exact Lg.base0 (by assumption) (by assumption) | exact Lg.hit (by assumption) (by (repeat (first | exact List.Mem.head _ | refine List.Mem.tail _ ?_))))); (any_goals (try exact (Option.none : Option Value)))) | (refine' m_fresh ?_) | (refine' m_allocN ?D ?e ?f ?_; (case D => assumption); (case e => (conv => lhs; reduce); try exact rfl); (case f => exact rfl); intro a' h' D') | (refine' m_update ?D ?U ?e ?f ?_; (case D => assumption); (case U => (repeat (first | apply SetAt.here | apply SetAt.there))); (case e => rfl); (case f => rfl); intro h' D') | (refine' x_rule ?_) | (refine' x_ask ?_) | (refine' x_point ?_) | (refine' x_at ?_) | refine' m_bind ?_)
  repeat (first | (with_reducible refine' wpAny_bind ?_) | (with_reducible refine' m_bind ?_) | (with_reducible refine' m_holding ?_) | (with_reducible refine' wpAny_tryCatch ?_) | (with_reducible refine' m_try ?_) | (with_reducible refine' m_keep ?_) | (with_reducible refine' wpAny_attempt ?_) | (first | (with_reducible refine' m_val c2 ?_) | (with_reducible refine' m_val c4 ?_) | (with_reducible refine' m_val c5 ?_) | (with_reducible refine' m_val c7 ?_) | (with_reducible refine' m_val c9 ?_) | (with_reducible refine' m_val l1 ?_) | (with_reducible refine' m_val l2 ?_) | (with_reducible refine' m_val l3 ?_) | (with_reducible refine' m_val l4 ?_) | (with_reducible refine' m_val l5 ?_) | (with_reducible refine' m_val sn_str ?_) | (with_reducible refine' m_val sn_int ?_) | (with_reducible refine' m_val sn_list ?_) | (with_reducible refine' m_val sn_function ?_) | (with_reducible refine' m_val sn_NoneType ?_) | (with_reducible refine' m_val sn_tuple ?_) | (with_reducible refine' m_val sn_mem ?_) | ((with_reducible show wpAny _ _ (run (Code.call (.builtin "classmethod_descriptor.__get__") _)) _ _ _); refine' run_of_call (wpAny_sh ?S (cmget_ok0 _ _ _ _ _ _ _ _ _ ?hC ?_)); (case S => first | assumption | exact Deep.sh (by assumption) | exact Deep.in1 (by assumption) | exact Deep.in2 (by assumption)); (case hC => (first | assumption | exact Lg.base0 (by assumption) (by assumption) | exact Lg.hit (by assumption) (by (repeat (first | exact List.Mem.head _ | refine List.Mem.tail _ ?_))))); intro hG aG tG kG nG eG; (have LG := Lg.add (by assumption) kG nG eG); clear kG nG eG)) | (with_reducible refine' m_slot ?hi ?_; (case hi => kernel_rfl!)) | (with_reducible refine' m_iteB ?hb ?_; (case hb => kernel_rfl!)) | (with_reducible refine' m_iteN ?hb ?_; (case hb => kernel_rfl!)) | refine' x_pure ?_ | (refine' m_load ?ho ?_; (case ho => (first | assumption | exact Lg.base0 (by assumption) (by assumption) | exact Lg.hit (by assumption) (by (repeat (first | exact List.Mem.head _ | refine List.Mem.tail _ ?_))))); (any_goals (try exact (Option.none : Option Value)))) | (refine' m_fresh ?_) | (refine' m_allocN ?D ?e ?f ?_; (case D => assumption); (case e => (conv => lhs; reduce); try exact rfl); (case f => exact rfl); intro a' h' D') | (refine' m_update ?D ?U ?e ?f ?_; (case D => assumption); (case U => (repeat (first | apply SetAt.here | apply SetAt.there))); (case e => rfl); (case f => rfl); intro h' D') | (refine' x_rule ?_) | (refine' x_ask ?_) | (refine' x_point ?_) | (refine' x_at ?_) | refine' m_bind ?_)
  refine' K _ _ _ (Lg.keeps ?L) ?f ?g
  case L => assumption
  case f =>
    refine' Lg.fresh0 ?L2 ?m
    case L2 => assumption
    case m => exact List.Mem.head _
  case g => exact Lg.hit (by assumption) (List.Mem.head _)
end Mine

-- TNF
namespace Mine
theorem super_go {w : World} {A : Around} {h₀ h : Heap} {g d t os} {md C ns lst slA saA f0 f1 f2 f3 f4 f5 basesA : Addr} {hh0 hh2 hh3 hh4 hh5 hh6 hh7 hh8 hh9 hh10 hh11 : Int} {t0 t2 t3 t4 t5 t6 t7 t8 t9 t10 t11 v0 v1 v2 x tn ts : Tok} {o1 o2 o3 o4 : Obj} {Q : Flow → Shared → Prop} {E : Value → Shared → Prop} (S : Shallow A)
    (L : Lg [] h₀ h [(md, o1), (C, o2), (ns, o3), (lst, o4)]) (e1 : o1 = oMd C x) (e2 : o2 = oK C ns basesA tn v1) (e3 : o3 = oNs w md slA saA f0 f1 f2 f3 f4 f5 hh0 hh2 hh3 hh4 hh5 hh6 hh7 hh8 hh9 hh10 hh11 t0 t2 t3 t4 t5 t6 t7 t8 t9 t10 t11 v0 v2 x)
    (e4 : o4 = { cls := .type "list", data := .seq #[.str ⟨#[111, 98, 106]⟩ ts] 1 })
    (k : ∀ h' a tk', Lg [] h₀ h' [(a, { cls := .type "super", data := .fields #[.ref C, .ref C, .ref C] }), (md, oMd C x), (C, oK C ns basesA tn v1), (ns, oNs w md slA saA f0 f1 f2 f3 f4 f5 hh0 hh2 hh3 hh4 hh5 hh6 hh7 hh8 hh9 hh10 hh11 t0 t2 t3 t4 t5 t6 t7 t8 t9 t10 t11 v0 v2 x)] → Q (.ret (.ref a)) ⟨h', g, d, tk', os⟩) :
    wpAny (model PG w) A (run (.call (.type "super") ⟨[.ref C, .ref C], []⟩)) Q E ⟨h, g, d, t, os⟩ := by
  subst e1 e2 e3 e4
  refine run_of_call (wpAny_sh S (super_ok0 w _ C ns basesA tn v1 _ _ (L.hit (.tail _ (.head _))) fun h' a tk kp nn e => k h' a tk ?_))
  exact Lg.sub (Lg.add L kp nn e) (.cons_cons _ (.cons_cons _ (.cons_cons _ (.cons_cons _ (List.sublist_append_right [_] [])))))

set_option maxRecDepth 100000
set_option maxHeartbeats 4000000
set_option pp.maxSteps 2500
set_option pp.deepTerms false
theorem type_new_ok (w : World) (h₀ : Heap) (g d tk os) (A : Around) (basesA nsA slA saA f0 f1 f2 f3 f4 f5 : Addr) (hh0 hh1 hh2 hh3 hh4 hh5 hh6 hh7 hh8 hh9 hh10 hh11 : Int) (t0 t1 t2 t3 t4 t5 t6 t7 t8 t9 t10 t11 v0 v1 v2 tn ts : Tok) (n1 n2 n3 : Nat) (d0 d1 d2 d3 d4 d5 : Data)
   (sa : Array Value) (Q : PySem.Fin → Shared → Prop) (E : Value → Shared → Prop)
   (hB : h₀.get? basesA = some { cls := .type "tuple", data := .seq #[.type "object"] n1 })
   (hN : h₀.get? nsA = some { cls := .type "dict", data := .dict #[⟨hh0, .str ⟨#[95, 95, 109, 111, 100, 117, 108, 101, 95, 95]⟩ t0, .str ⟨#[99, 112, 121, 51, 49, 51, 46, 102, 117, 110, 99, 116, 111, 111, 108, 115]⟩ v0⟩,
      ⟨hh1, .str ⟨#[95, 95, 113, 117, 97, 108, 110, 97, 109, 101, 95, 95]⟩ t1, .str ⟨#[99, 109, 112, 95, 116, 111, 95, 107, 101, 121, 46, 60, 108, 111, 99, 97, 108, 115, 62, 46, 75]⟩ v1⟩,
      ⟨hh2, .str ⟨#[95, 95, 102, 105, 114, 115, 116, 108, 105, 110, 101, 110, 111, 95, 95]⟩ t2, .int 4 v2⟩,
      ⟨hh3, .str ⟨#[95, 95, 115, 108, 111, 116, 115, 95, 95]⟩ t3, .ref slA⟩,
      ⟨hh4, .str ⟨#[95, 95, 105, 110, 105, 116, 95, 95]⟩ t4, .ref f0⟩,
      ⟨hh5, .str ⟨#[95, 95, 108, 116, 95, 95]⟩ t5, .ref f1⟩,
      ⟨hh6, .str ⟨#[95, 95, 103, 116, 95, 95]⟩ t6, .ref f2⟩,
      ⟨hh7, .str ⟨#[95, 95, 101, 113, 95, 95]⟩ t7, .ref f3⟩,
      ⟨hh8, .str ⟨#[95, 95, 108, 101, 95, 95]⟩ t8, .ref f4⟩,
      ⟨hh9, .str ⟨#[95, 95, 103, 101, 95, 95]⟩ t9, .ref f5⟩,
      ⟨hh10, .str ⟨#[95, 95, 104, 97, 115, 104, 95, 95]⟩ t10, .none⟩,
      ⟨hh11, .str ⟨#[95, 95, 115, 116, 97, 116, 105, 99, 95, 97, 116, 116, 114, 105, 98, 117, 116, 101, 115, 95, 95]⟩ t11, .ref saA⟩] n2 })
   (hSl : h₀.get? slA = some { cls := .type "list", data := .seq #[.str ⟨#[111, 98, 106]⟩ ts] n3 })
   (hSa : h₀.get? saA = some { cls := .type "tuple", data := .seq sa 0 })
   (hf0 : h₀.get? f0 = some { cls := .type "function", data := d0 })
   (hf1 : h₀.get? f1 = some { cls := .type "function", data := d1 })
   (hf2 : h₀.get? f2 = some { cls := .type "function", data := d2 })
   (hf3 : h₀.get? f3 = some { cls := .type "function", data := d3 })
   (hf4 : h₀.get? f4 = some { cls := .type "function", data := d4 })
   (hf5 : h₀.get? f5 = some { cls := .type "function", data := d5 })
   (h2 : h₀.get? 2 = some { cls := .none, data := .dict #[] 0 })
   (hns : nsA ≠ 1)
   (S : Deep A)
   (K : ∀ h' C md ns x tk', Lg [] h₀ h' [(md, oMd C x), (C, oK C ns basesA tn v1), (ns, oNs w md slA saA f0 f1 f2 f3 f4 f5 hh0 hh2 hh3 hh4 hh5 hh6 hh7 hh8 hh9 hh10 hh11 t0 t2 t3 t4 t5 t6 t7 t8 t9 t10 t11 v0 v2 x)] → Q (.done (.ret (.ref C))) ⟨h', g, d, tk', os⟩)
   :
   wpAny (model PG w) A (Builtin.«type.__new__» ⟨[.type "type", .str ⟨#[75]⟩ tn, .ref basesA, .ref nsA], []⟩) Q E ⟨h₀, g, d, tk, os⟩ := by
  have D := Lg.start h₀
  delta Builtin.«type.__new__»
  repeat (first | (with_reducible refine' wpAny_bind ?_) | (with_reducible refine' m_bind ?_) | (with_reducible refine' m_holding ?_) | (with_reducible refine' wpAny_tryCatch ?_) | (with_reducible refine' m_try ?_) | (with_reducible refine' m_keep ?_) | (with_reducible refine' wpAny_attempt ?_) | (first | (with_reducible refine' m_val c2 ?_) | (with_reducible refine' m_val c4 ?_) | (with_reducible refine' m_val c5 ?_) | (with_reducible refine' m_val c7 ?_) | (with_reducible refine' m_val c9 ?_) | (with_reducible refine' m_val l1 ?_) | (with_reducible refine' m_val l2 ?_) | (with_reducible refine' m_val l3 ?_) | (with_reducible refine' m_val l4 ?_) | (with_reducible refine' m_val l5 ?_) | (with_reducible refine' m_val sn_str ?_) | (with_reducible refine' m_val sn_int ?_) | (with_reducible refine' m_val sn_list ?_) | (with_reducible refine' m_val sn_function ?_) | (with_reducible refine' m_val sn_NoneType ?_) | (with_reducible refine' m_val sn_tuple ?_) | (with_reducible refine' m_val sn_mem ?_) | ((with_reducible show wpAny _ _ (runValue (Code.builtin "proto.collect" _)) _ _ _); refine' collect_ok ?S ?hSl ?_; (case S => exact Deep.sh (by assumption)); (case hSl => (first | assumption | exact Lg.base0 (by assumption) (by assumption) | exact Lg.hit (by assumption) (by (repeat (first | exact List.Mem.head _ | refine List.Mem.tail _ ?_))))); intro hC aC tkC kC nC eC; (have LC := Lg.add (by assumption) kC nC eC); clear kC nC eC) | ((with_reducible show wpAny _ _ (getAttr _ (Str.ofString "__init_subclass__")) _ _ _); refine' subget_ok _ _ ?S _ _ _ _ _ _ _ _ _ _ _ _ _ ?hC ?hS ?h2 ?_; (case S => assumption); (case hC => (first | assumption | exact Lg.base0 (by assumption) (by assumption) | exact Lg.hit (by assumption) (by (repeat (first | exact List.Mem.head _ | refine List.Mem.tail _ ?_))))); (case hS => (first | assumption | exact Lg.base0 (by assumption) (by assumption) | exact Lg.hit (by assumption) (by (repeat (first | exact List.Mem.head _ | refine List.Mem.tail _ ?_))))); (case h2 => (first | assumption | exact Lg.base0 (by assumption) (by assumption) | exact Lg.hit (by assumption) (by (repeat (first | exact List.Mem.head _ | refine List.Mem.tail _ ?_))))); intro hG aG tG kG nG eG; (have LG := Lg.add (by assumption) kG nG eG); clear kG nG eG) | ((with_reducible show wpAny _ _ (run (Code.call _ _)) _ _ _); refine' run_of_call (wpAny_sh ?S (initsub_ok0 _ _ _ _ _ _ _ _ _ _ ?hC ?hB ?_)); (case S => exact Deep.sh (by assumption)); (case hC => (first | assumption | exact Lg.base0 (by assumption) (by assumption) | exact Lg.hit (by assumption) (by (repeat (first | exact List.Mem.head _ | refine List.Mem.tail _ ?_))))); (case hB => (first | assumption | exact Lg.base0 (by assumption) (by assumption) | exact Lg.hit (by assumption) (by (repeat (first | exact List.Mem.head _ | refine List.Mem.tail _ ?_))))); intro hG tG kG; (have LG := Lg.grow (by assumption) kG); clear kG)) | (with_reducible refine' m_slot ?hi ?_; (case hi => kernel_rfl!)) | (with_reducible refine' m_iteB ?hb ?_; (case hb => kernel_rfl!)) | (with_reducible refine' m_iteN ?hb ?_; (case hb => kernel_rfl!)) | refine' x_pure ?_ | (refine' m_load ?ho ?_; (case ho => (first | assumption | exact Lg.base0 (by assumption) (by assumption) | exact Lg.hit (by assumption) (by (repeat (first | exact List.Mem.head _ | refine List.Mem.tail _ ?_))))); (any_goals (try exact (Option.none : Option Value)))) | (refine' m_fresh ?_) | (refine' m_allocN ?D ?e ?f ?_; (case D => assumption); (case e => (conv => lhs; reduce); try exact rfl); (case f => exact rfl); intro a' h' D') | (refine' m_update ?D ?U ?e ?f ?_; (case D => assumption); (case U => (repeat (first | (apply SetAt.here; exact rfl) | apply SetAt.there))); (case e => rfl); (case f => rfl); intro h' D') | (refine' x_rule ?_) | (refine' x_ask ?_) | (refine' x_point ?_) | (refine' x_at ?_) | refine' m_bind ?_)
  refine' m_iteF ?hc ?_
  case hc => simp [hns, sysModules]
  iterate 44 (try (first | (with_reducible refine' wpAny_bind ?_) | (with_reducible refine' m_bind ?_) | (with_reducible refine' m_holding ?_) | (with_reducible refine' wpAny_tryCatch ?_) | (with_reducible refine' m_try ?_) | (with_reducible refine' m_keep ?_) | (with_reducible refine' wpAny_attempt ?_) | (first | (with_reducible refine' m_val c2 ?_) | (with_reducible refine' m_val c4 ?_) | (with_reducible refine' m_val c5 ?_) | (with_reducible refine' m_val c7 ?_) | (with_reducible refine' m_val c9 ?_) | (with_reducible refine' m_val l1 ?_) | (with_reducible refine' m_val l2 ?_) | (with_reducible refine' m_val l3 ?_) | (with_reducible refine' m_val l4 ?_) | (with_reducible refine' m_val l5 ?_) | (with_reducible refine' m_val sn_str ?_) | (with_reducible refine' m_val sn_int ?_) | (with_reducible refine' m_val sn_list ?_) | (with_reducible refine' m_val sn_function ?_) | (with_reducible refine' m_val sn_NoneType ?_) | (with_reducible refine' m_val sn_tuple ?_) | (with_reducible refine' m_val sn_mem ?_) | ((with_reducible show wpAny _ _ (runValue (Code.builtin "proto.collect" _)) _ _ _); refine' collect_ok ?S ?hSl ?_; (case S => exact Deep.sh (by assumption)); (case hSl => (first | assumption | exact Lg.base0 (by assumption) (by assumption) | exact Lg.hit (by assumption) (by (repeat (first | exact List.Mem.head _ | refine List.Mem.tail _ ?_))))); intro hC aC tkC kC nC eC; (have LC := Lg.add (by assumption) kC nC eC); clear kC nC eC) | ((with_reducible show wpAny _ _ (getAttr _ (Str.ofString "__init_subclass__")) _ _ _); refine' subget_ok _ _ ?S _ _ _ _ _ _ _ _ _ _ _ _ _ ?hC ?hS ?h2 ?_; (case S => assumption); (case hC => (first | assumption | exact Lg.base0 (by assumption) (by assumption) | exact Lg.hit (by assumption) (by (repeat (first | exact List.Mem.head _ | refine List.Mem.tail _ ?_))))); (case hS => (first | assumption | exact Lg.base0 (by assumption) (by assumption) | exact Lg.hit (by assumption) (by (repeat (first | exact List.Mem.head _ | refine List.Mem.tail _ ?_))))); (case h2 => (first | assumption | exact Lg.base0 (by assumption) (by assumption) | exact Lg.hit (by assumption) (by (repeat (first | exact List.Mem.head _ | refine List.Mem.tail _ ?_))))); intro hG aG tG kG nG eG; (have LG := Lg.add (by assumption) kG nG eG); clear kG nG eG) | ((with_reducible show wpAny _ _ (run (Code.call _ _)) _ _ _); refine' run_of_call (wpAny_sh ?S (initsub_ok0 _ _ _ _ _ _ _ _ _ _ ?hC ?hB ?_)); (case S => exact Deep.sh (by assumption)); (case hC => (first | assumption | exact Lg.base0 (by assumption) (by assumption) | exact Lg.hit (by assumption) (by (repeat (first | exact List.Mem.head _ | refine List.Mem.tail _ ?_))))); (case hB => (first | assumption | exact Lg.base0 (by assumption) (by assumption) | exact Lg.hit (by assumption) (by (repeat (first | exact List.Mem.head _ | refine List.Mem.tail _ ?_))))); intro hG tG kG; (have LG := Lg.grow (by assumption) kG); clear kG)) | (with_reducible refine' m_slot ?hi ?_; (case hi => kernel_rfl!)) | (with_reducible refine' m_iteB ?hb ?_; (case hb => kernel_rfl!)) | (with_reducible refine' m_iteN ?hb ?_; (case hb => kernel_rfl!)) | refine' x_pure ?_ | (refine' m_load ?ho ?_; (case ho => (first | assumption | exact Lg.base0 (by assumption) (by assumption) | exact Lg.hit (by assumption) (by (repeat (first | exact List.Mem.head _ | refine List.Mem.tail _ ?_))))); (any_goals (try exact (Option.none : Option Value)))) | (refine' m_fresh ?_) | (refine' m_allocN ?D ?e ?f ?_; (case D => assumption); (case e => (conv => lhs; reduce); try exact rfl); (case f => exact rfl); intro a' h' D') | (refine' m_update ?D ?U ?e ?f ?_; (case D => assumption); (case U => (repeat (first | (apply SetAt.here; exact rfl) | apply SetAt.there))); (case e => rfl); (case f => rfl); intro h' D') | (refine' x_rule ?_) | (refine' x_ask ?_) | (refine' x_point ?_) | (refine' x_at ?_) | refine' m_bind ?_))
  refine' m_val (a := ForInStep.yield (false, false, #[⟨#[111, 98, 106]⟩], [])) (by kernel_rfl!) ?_
  refine' m_val (a := (false, false, #[⟨#[111, 98, 106]⟩], [])) (by kernel_rfl!) ?_
  (with_reducible refine' wpAny_bind ?_)
  refine' m_val (a := ([⟨#[111, 98, 106]⟩], 3)) (by kernel_rfl!) ?_
  repeat (first | (with_reducible refine' wpAny_bind ?_) | (with_reducible refine' m_bind ?_) | (with_reducible refine' m_holding ?_) | (with_reducible refine' wpAny_tryCatch ?_) | (with_reducible refine' m_try ?_) | (with_reducible refine' m_keep ?_) | (with_reducible refine' wpAny_attempt ?_) | (first | (with_reducible refine' m_val c2 ?_) | (with_reducible refine' m_val c4 ?_) | (with_reducible refine' m_val c5 ?_) | (with_reducible refine' m_val c7 ?_) | (with_reducible refine' m_val c9 ?_) | (with_reducible refine' m_val l1 ?_) | (with_reducible refine' m_val l2 ?_) | (with_reducible refine' m_val l3 ?_) | (with_reducible refine' m_val l4 ?_) | (with_reducible refine' m_val l5 ?_) | (with_reducible refine' m_val sn_str ?_) | (with_reducible refine' m_val sn_int ?_) | (with_reducible refine' m_val sn_list ?_) | (with_reducible refine' m_val sn_function ?_) | (with_reducible refine' m_val sn_NoneType ?_) | (with_reducible refine' m_val sn_tuple ?_) | (with_reducible refine' m_val sn_mem ?_) | ((with_reducible show wpAny _ _ (runValue (Code.builtin "proto.collect" _)) _ _ _); refine' collect_ok ?S ?hSl ?_; (case S => exact Deep.sh (by assumption)); (case hSl => (first | assumption | exact Lg.base0 (by assumption) (by assumption) | exact Lg.hit (by assumption) (by (repeat (first | exact List.Mem.head _ | refine List.Mem.tail _ ?_))))); intro hC aC tkC kC nC eC; (have LC := Lg.add (by assumption) kC nC eC); clear kC nC eC) | ((with_reducible show wpAny _ _ (getAttr _ (Str.ofString "__init_subclass__")) _ _ _); refine' subget_ok _ _ ?S _ _ _ _ _ _ _ _ _ _ _ _ _ ?hC ?hS ?h2 ?_; (case S => assumption); (case hC => (first | assumption | exact Lg.base0 (by assumption) (by assumption) | exact Lg.hit (by assumption) (by (repeat (first | exact List.Mem.head _ | refine List.Mem.tail _ ?_))))); (case hS => (first | assumption | exact Lg.base0 (by assumption) (by assumption) | exact Lg.hit (by assumption) (by (repeat (first | exact List.Mem.head _ | refine List.Mem.tail _ ?_))))); (case h2 => (first | assumption | exact Lg.base0 (by assumption) (by assumption) | exact Lg.hit (by assumption) (by (repeat (first | exact List.Mem.head _ | refine List.Mem.tail _ ?_))))); intro hG aG tG kG nG eG; (have LG := Lg.add (by assumption) kG nG eG); clear kG nG eG) | ((with_reducible show wpAny _ _ (run (Code.call _ _)) _ _ _); refine' run_of_call (wpAny_sh ?S (initsub_ok0 _ _ _ _ _ _ _ _ _ _ ?hC ?hB ?_)); (case S => exact Deep.sh (by assumption)); (case hC => (first | assumption | exact Lg.base0 (by assumption) (by assumption) | exact Lg.hit (by assumption) (by (repeat (first | exact List.Mem.head _ | refine List.Mem.tail _ ?_))))); (case hB => (first | assumption | exact Lg.base0 (by assumption) (by assumption) | exact Lg.hit (by assumption) (by (repeat (first | exact List.Mem.head _ | refine List.Mem.tail _ ?_))))); intro hG tG kG; (have LG := Lg.grow (by assumption) kG); clear kG)) | (with_reducible refine' m_slot ?hi ?_; (case hi => kernel_rfl!)) | (with_reducible refine' m_iteB ?hb ?_; (case hb => kernel_rfl!)) | (with_reducible refine' m_iteN ?hb ?_; (case hb => kernel_rfl!)) | refine' x_pure ?_ | (refine' m_load ?ho ?_; (case ho => (first | assumption | exact Lg.base0 (by assumption) (by assumption) | exact Lg.hit (by assumption) (by (repeat (first | exact List.Mem.head _ | refine List.Mem.tail _ ?_))))); (any_goals (try exact (Option.none : Option Value)))) | (refine' m_fresh ?_) | (refine' m_allocN ?D ?e ?f ?_; (case D => assumption); (case e => (conv => lhs; reduce); try exact rfl); (case f => exact rfl); intro a' h' D') | (refine' m_update ?D ?U ?e ?f ?_; (case D => assumption); (case U => (repeat (first | (apply SetAt.here; exact rfl) | apply SetAt.there))); (case e => rfl); (case f => rfl); intro h' D') | (refine' x_rule ?_) | (refine' x_ask ?_) | (refine' x_point ?_) | (refine' x_at ?_) | refine' m_bind ?_)
  refine' m_val (a := false) ?e ?_
  case e =>
    simp only [List.filter_cons, bne_self_eq_false]
    kernel_rfl!
  repeat (first | (with_reducible refine' wpAny_bind ?_) | (with_reducible refine' m_bind ?_) | (with_reducible refine' m_holding ?_) | (with_reducible refine' wpAny_tryCatch ?_) | (with_reducible refine' m_try ?_) | (with_reducible refine' m_keep ?_) | (with_reducible refine' wpAny_attempt ?_) | (first | (with_reducible refine' m_val c2 ?_) | (with_reducible refine' m_val c4 ?_) | (with_reducible refine' m_val c5 ?_) | (with_reducible refine' m_val c7 ?_) | (with_reducible refine' m_val c9 ?_) | (with_reducible refine' m_val l1 ?_) | (with_reducible refine' m_val l2 ?_) | (with_reducible refine' m_val l3 ?_) | (with_reducible refine' m_val l4 ?_) | (with_reducible refine' m_val l5 ?_) | (with_reducible refine' m_val sn_str ?_) | (with_reducible refine' m_val sn_int ?_) | (with_reducible refine' m_val sn_list ?_) | (with_reducible refine' m_val sn_function ?_) | (with_reducible refine' m_val sn_NoneType ?_) | (with_reducible refine' m_val sn_tuple ?_) | (with_reducible refine' m_val sn_mem ?_) | ((with_reducible show wpAny _ _ (runValue (Code.builtin "proto.collect" _)) _ _ _); refine' collect_ok ?S ?hSl ?_; (case S => exact Deep.sh (by assumption)); (case hSl => (first | assumption | exact Lg.base0 (by assumption) (by assumption) | exact Lg.hit (by assumption) (by (repeat (first | exact List.Mem.head _ | refine List.Mem.tail _ ?_))))); intro hC aC tkC kC nC eC; (have LC := Lg.add (by assumption) kC nC eC); clear kC nC eC) | ((with_reducible show wpAny _ _ (getAttr _ (Str.ofString "__init_subclass__")) _ _ _); refine' subget_ok _ _ ?S _ _ _ _ _ _ _ _ _ _ _ _ _ ?hC ?hS ?h2 ?_; (case S => assumption); (case hC => (first | assumption | exact Lg.base0 (by assumption) (by assumption) | exact Lg.hit (by assumption) (by (repeat (first | exact List.Mem.head _ | refine List.Mem.tail _ ?_))))); (case hS => (first | assumption | exact Lg.base0 (by assumption) (by assumption) | exact Lg.hit (by assumption) (by (repeat (first | exact List.Mem.head _ | refine List.Mem.tail _ ?_))))); (case h2 => (first | assumption | exact Lg.base0 (by assumption) (by assumption) | exact Lg.hit (by assumption) (by (repeat (first | exact List.Mem.head _ | refine List.Mem.tail _ ?_))))); intro hG aG tG kG nG eG; (have LG := Lg.add (by assumption) kG nG eG); clear kG nG eG) | ((with_reducible show wpAny _ _ (run (Code.call _ _)) _ _ _); refine' run_of_call (wpAny_sh ?S (initsub_ok0 _ _ _ _ _ _ _ _ _ _ ?hC ?hB ?_)); (case S => exact Deep.sh (by assumption)); (case hC => (first | assumption | exact Lg.base0 (by assumption) (by assumption) | exact Lg.hit (by assumption) (by (repeat (first | exact List.Mem.head _ | refine List.Mem.tail _ ?_))))); (case hB => (first | assumption | exact Lg.base0 (by assumption) (by assumption) | exact Lg.hit (by assumption) (by (repeat (first | exact List.Mem.head _ | refine List.Mem.tail _ ?_))))); intro hG tG kG; (have LG := Lg.grow (by assumption) kG); clear kG)) | (with_reducible refine' m_slot ?hi ?_; (case hi => kernel_rfl!)) | (with_reducible refine' m_iteB ?hb ?_; (case hb => kernel_rfl!)) | (with_reducible refine' m_iteN ?hb ?_; (case hb => kernel_rfl!)) | refine' x_pure ?_ | (refine' m_load ?ho ?_; (case ho => (first | assumption | exact Lg.base0 (by assumption) (by assumption) | exact Lg.hit (by assumption) (by (repeat (first | exact List.Mem.head _ | refine List.Mem.tail _ ?_))))); (any_goals (try exact (Option.none : Option Value)))) | (refine' m_fresh ?_) | (refine' m_allocN ?D ?e ?f ?_; (case D => assumption); (case e => (conv => lhs; reduce); try exact rfl); (case f => exact rfl); intro a' h' D') | (refine' m_update ?D ?U ?e ?f ?_; (case D => assumption); (case U => (repeat (first | (apply SetAt.here; exact rfl) | apply SetAt.there))); (case e => rfl); (case f => rfl); intro h' D') | (refine' x_rule ?_) | (refine' x_ask ?_) | (refine' x_point ?_) | (refine' x_at ?_) | refine' m_bind ?_)
  refine' super_go (slA := slA) (saA := saA) (f0 := f0) (f1 := f1) (f2 := f2) (f3 := f3) (f4 := f4) (f5 := f5) (basesA := basesA) (tn := tn) (ts := ts) (v0 := v0) (v1 := v1) (v2 := v2) (hh0 := hh0) (hh2 := hh2) (hh3 := hh3) (hh4 := hh4) (hh5 := hh5) (hh6 := hh6) (hh7 := hh7) (hh8 := hh8) (hh9 := hh9) (hh10 := hh10) (hh11 := hh11) (t0 := t0) (t2 := t2) (t3 := t3) (t4 := t4) (t5 := t5) (t6 := t6) (t7 := t7) (t8 := t8) (t9 := t9) (t10 := t10) (t11 := t11) ?S ?L ?e1 ?e2 ?e3 ?e4 ?_
  (case S => exact Deep.sh (by assumption)); (case L => assumption); (case e1 => exact rfl); (case e4 => kernel_rfl!); (case e2 => kernel_rfl!); (case e3 => kernel_rfl!)
  intro hG aG tG LG
  repeat (first | (with_reducible refine' wpAny_bind ?_) | (with_reducible refine' m_bind ?_) | (with_reducible refine' m_holding ?_) | (with_reducible refine' wpAny_tryCatch ?_) | (with_reducible refine' m_try ?_) | (with_reducible refine' m_keep ?_) | (with_reducible refine' wpAny_attempt ?_) | (first | (with_reducible refine' m_val c2 ?_) | (with_reducible refine' m_val c4 ?_) | (with_reducible refine' m_val c5 ?_) | (with_reducible refine' m_val c7 ?_) | (with_reducible refine' m_val c9 ?_) | (with_reducible refine' m_val l1 ?_) | (with_reducible refine' m_val l2 ?_) | (with_reducible refine' m_val l3 ?_) | (with_reducible refine' m_val l4 ?_) | (with_reducible refine' m_val l5 ?_) | (with_reducible refine' m_val sn_str ?_) | (with_reducible refine' m_val sn_int ?_) | (with_reducible refine' m_val sn_list ?_) | (with_reducible refine' m_val sn_function ?_) | (with_reducible refine' m_val sn_NoneType ?_) | (with_reducible refine' m_val sn_tuple ?_) | (with_reducible refine' m_val sn_mem ?_) | ((with_reducible show wpAny _ _ (runValue (Code.builtin "proto.collect" _)) _ _ _); refine' collect_ok ?S ?hSl ?_; (case S => exact Deep.sh (by assumption)); (case hSl => (first | assumption | exact Lg.base0 (by assumption) (by assumption) | exact Lg.hit (by assumption) (by (repeat (first | exact List.Mem.head _ | refine List.Mem.tail _ ?_))))); intro hC aC tkC kC nC eC; (have LC := Lg.add (by assumption) kC nC eC); clear kC nC eC) | ((with_reducible show wpAny _ _ (getAttr _ (Str.ofString "__init_subclass__")) _ _ _); refine' subget_ok _ _ ?S _ _ _ _ _ _ _ _ _ _ _ _ _ ?hC ?hS ?h2 ?_; (case S => assumption); (case hC => (first | assumption | exact Lg.base0 (by assumption) (by assumption) | exact Lg.hit (by assumption) (by (repeat (first | exact List.Mem.head _ | refine List.Mem.tail _ ?_))))); (case hS => (first | assumption | exact Lg.base0 (by assumption) (by assumption) | exact Lg.hit (by assumption) (by (repeat (first | exact List.Mem.head _ | refine List.Mem.tail _ ?_))))); (case h2 => (first | assumption | exact Lg.base0 (by assumption) (by assumption) | exact Lg.hit (by assumption) (by (repeat (first | exact List.Mem.head _ | refine List.Mem.tail _ ?_))))); intro hG aG tG kG nG eG; (have LG := Lg.add (by assumption) kG nG eG); clear kG nG eG) | ((with_reducible show wpAny _ _ (run (Code.call _ _)) _ _ _); refine' run_of_call (wpAny_sh ?S (initsub_ok0 _ _ _ _ _ _ _ _ _ _ ?hC ?hB ?_)); (case S => exact Deep.sh (by assumption)); (case hC => (first | assumption | exact Lg.base0 (by assumption) (by assumption) | exact Lg.hit (by assumption) (by (repeat (first | exact List.Mem.head _ | refine List.Mem.tail _ ?_))))); (case hB => (first | assumption | exact Lg.base0 (by assumption) (by assumption) | exact Lg.hit (by assumption) (by (repeat (first | exact List.Mem.head _ | refine List.Mem.tail _ ?_))))); intro hG tG kG; (have LG := Lg.grow (by assumption) kG); clear kG)) | (with_reducible refine' m_slot ?hi ?_; (case hi => kernel_rfl!)) | (with_reducible refine' m_iteB ?hb ?_; (case hb => kernel_rfl!)) | (with_reducible refine' m_iteN ?hb ?_; (case hb => kernel_rfl!)) | refine' x_pure ?_ | (refine' m_load ?ho ?_; (case ho => (first | assumption | exact Lg.base0 (by assumption) (by assumption) | exact Lg.hit (by assumption) (by (repeat (first | exact List.Mem.head _ | refine List.Mem.tail _ ?_))))); (any_goals (try exact (Option.none : Option Value)))) | (refine' m_fresh ?_) | (refine' m_allocN ?D ?e ?f ?_; (case D => assumption); (case e => (conv => lhs; reduce); try exact rfl); (case f => exact rfl); intro a' h' D') | (refine' m_update ?D ?U ?e ?f ?_; (case D => assumption); (case U => (repeat (first | (apply SetAt.here; exact rfl) | apply SetAt.there))); (case e => rfl); (case f => rfl); intro h' D') | (refine' x_rule ?_) | (refine' x_ask ?_) | (refine' x_point ?_) | (refine' x_at ?_) | refine' m_bind ?_)
  exact K _ _ _ _ _ _ (Lg.sub (by assumption) (List.Sublist.cons _ (List.Sublist.cons _ (List.Sublist.refl _))))
end Mine

-- TCALL
namespace Mine
set_option maxRecDepth 100000
set_option maxHeartbeats 4000000
set_option pp.maxSteps 2500
set_option pp.deepTerms false
theorem e_typeCall : entryFor table "type.__call__" = some Builtin.«type.__call__» := entryFor_of_fast (by kernel_rfl)
theorem e_typeInit : entryFor table "type.__init__" = some Builtin.«type.__init__» := entryFor_of_fast (by kernel_rfl)
theorem e_typeNew : entryFor table "type.__new__" = some Builtin.«type.__new__» := entryFor_of_fast (by kernel_rfl)
theorem type_call_ok (w : World) (h₀ : Heap) (g d tk os) (A : Around) (basesA nsA slA saA f0 f1 f2 f3 f4 f5 : Addr) (hh0 hh1 hh2 hh3 hh4 hh5 hh6 hh7 hh8 hh9 hh10 hh11 : Int) (t0 t1 t2 t3 t4 t5 t6 t7 t8 t9 t10 t11 v0 v1 v2 tn ts : Tok) (n1 n2 n3 : Nat) (d0 d1 d2 d3 d4 d5 : Data)
   (sa : Array Value) (Q : Flow → Shared → Prop) (E : Value → Shared → Prop)
   (hB : h₀.get? basesA = some { cls := .type "tuple", data := .seq #[.type "object"] n1 })
   (hN : h₀.get? nsA = some { cls := .type "dict", data := .dict #[⟨hh0, .str ⟨#[95, 95, 109, 111, 100, 117, 108, 101, 95, 95]⟩ t0, .str ⟨#[99, 112, 121, 51, 49, 51, 46, 102, 117, 110, 99, 116, 111, 111, 108, 115]⟩ v0⟩,
      ⟨hh1, .str ⟨#[95, 95, 113, 117, 97, 108, 110, 97, 109, 101, 95, 95]⟩ t1, .str ⟨#[99, 109, 112, 95, 116, 111, 95, 107, 101, 121, 46, 60, 108, 111, 99, 97, 108, 115, 62, 46, 75]⟩ v1⟩,
      ⟨hh2, .str ⟨#[95, 95, 102, 105, 114, 115, 116, 108, 105, 110, 101, 110, 111, 95, 95]⟩ t2, .int 4 v2⟩,
      ⟨hh3, .str ⟨#[95, 95, 115, 108, 111, 116, 115, 95, 95]⟩ t3, .ref slA⟩,
      ⟨hh4, .str ⟨#[95, 95, 105, 110, 105, 116, 95, 95]⟩ t4, .ref f0⟩,
      ⟨hh5, .str ⟨#[95, 95, 108, 116, 95, 95]⟩ t5, .ref f1⟩,
      ⟨hh6, .str ⟨#[95, 95, 103, 116, 95, 95]⟩ t6, .ref f2⟩,
      ⟨hh7, .str ⟨#[95, 95, 101, 113, 95, 95]⟩ t7, .ref f3⟩,
      ⟨hh8, .str ⟨#[95, 95, 108, 101, 95, 95]⟩ t8, .ref f4⟩,
      ⟨hh9, .str ⟨#[95, 95, 103, 101, 95, 95]⟩ t9, .ref f5⟩,
      ⟨hh10, .str ⟨#[95, 95, 104, 97, 115, 104, 95, 95]⟩ t10, .none⟩,
      ⟨hh11, .str ⟨#[95, 95, 115, 116, 97, 116, 105, 99, 95, 97, 116, 116, 114, 105, 98, 117, 116, 101, 115, 95, 95]⟩ t11, .ref saA⟩] n2 })
   (hSl : h₀.get? slA = some { cls := .type "list", data := .seq #[.str ⟨#[111, 98, 106]⟩ ts] n3 })
   (hSa : h₀.get? saA = some { cls := .type "tuple", data := .seq sa 0 })
   (hf0 : h₀.get? f0 = some { cls := .type "function", data := d0 })
   (hf1 : h₀.get? f1 = some { cls := .type "function", data := d1 })
   (hf2 : h₀.get? f2 = some { cls := .type "function", data := d2 })
   (hf3 : h₀.get? f3 = some { cls := .type "function", data := d3 })
   (hf4 : h₀.get? f4 = some { cls := .type "function", data := d4 })
   (hf5 : h₀.get? f5 = some { cls := .type "function", data := d5 })
   (h2 : h₀.get? 2 = some { cls := .none, data := .dict #[] 0 })
   (hns : nsA ≠ 1)
   (S : Deep2 A)
   (K : ∀ h' C md ns x tk', Lg [] h₀ h' [(md, oMd C x), (C, oK C ns basesA tn v1), (ns, oNs w md slA saA f0 f1 f2 f3 f4 f5 hh0 hh2 hh3 hh4 hh5 hh6 hh7 hh8 hh9 hh10 hh11 t0 t2 t3 t4 t5 t6 t7 t8 t9 t10 t11 v0 v2 x)] → Q (.ret (.ref C)) ⟨h', g, d, tk', os⟩)
   :
   wpAny (model PG w) A (run (.call (.type "type") ⟨[.str ⟨#[75]⟩ tn, .ref basesA, .ref nsA], []⟩)) Q E ⟨h₀, g, d, tk, os⟩ := by
  have D := Lg.start h₀
  refine wpAny_run (codeAny_of_tree ?_)
  show wpAny (model PG w) (A.mark none).in1 (callAny (.type "type") ⟨[.str ⟨#[75]⟩ tn, .ref basesA, .ref nsA], []⟩) _ _ _
  repeat (first | (with_reducible refine' wpAny_bind ?_) | (with_reducible refine' m_bind ?_) | (with_reducible refine' m_holding ?_) | (with_reducible refine' wpAny_tryCatch ?_) | (with_reducible refine' m_try ?_) | (with_reducible refine' m_keep ?_) | (with_reducible refine' wpAny_attempt ?_) | (first | (with_reducible refine' m_val c2 ?_) | (with_reducible refine' m_val c4 ?_) | (with_reducible refine' m_val c5 ?_) | (with_reducible refine' m_val c7 ?_) | (with_reducible refine' m_val c9 ?_) | (with_reducible refine' m_val l1 ?_) | (with_reducible refine' m_val l2 ?_) | (with_reducible refine' m_val l3 ?_) | (with_reducible refine' m_val l4 ?_) | (with_reducible refine' m_val l5 ?_) | (with_reducible refine' m_val sn_str ?_) | (with_reducible refine' m_val sn_int ?_) | (with_reducible refine' m_val sn_list ?_) | (with_reducible refine' m_val sn_function ?_) | (with_reducible refine' m_val sn_NoneType ?_) | (with_reducible refine' m_val sn_tuple ?_) | (with_reducible refine' m_val sn_mem ?_) | (with_reducible refine' wpAny_standAt ?_) | ((with_reducible show wpAny _ _ (Builtin.«type.__new__» _) _ _ _); apply type_new_ok; all_goals (first | assumption | skip))) | ((with_reducible refine' m_slot ?hi ?_); (case hi => kernel_rfl!)) | ((with_reducible refine' m_iteB ?hb ?_); (case hb => kernel_rfl!)) | ((with_reducible refine' m_iteN ?hb ?_); (case hb => kernel_rfl!)) | (with_reducible refine' x_pure ?_) | ((with_reducible refine' m_load ?ho ?_); (case ho => (first | assumption | exact Lg.base0 (by assumption) (by assumption) | exact Lg.hit (by assumption) (by (repeat (first | exact List.Mem.head _ | refine List.Mem.tail _ ?_))))); (any_goals (try exact (Option.none : Option Value)))) | (with_reducible refine' m_fresh ?_) | ((with_reducible refine' m_allocN ?D ?e ?f ?_); (case D => assumption); (case e => (conv => lhs; reduce); try exact rfl); (case f => exact rfl); intro a' h' D') | ((with_reducible refine' m_updateF ?D ?U ?e ?f ?_); (case D => assumption); (case U => (repeat (first | (apply SetAt.here; exact rfl) | apply SetAt.there))); (case e => (conv => lhs; reduce); try exact rfl); (case f => exact rfl); intro h' D') | ((with_reducible refine' m_update ?D ?U ?e ?f ?_); (case D => assumption); (case U => (repeat (first | (apply SetAt.here; exact rfl) | apply SetAt.there))); (case e => rfl); (case f => rfl); intro h' D') | (with_reducible refine' x_rule ?_) | (with_reducible refine' x_ask ?_) | (with_reducible refine' x_point ?_) | (with_reducible refine' x_at ?_) | ((conv => arg 3; whnf); first | (with_reducible refine' x_pure ?_) | ((with_reducible refine' m_load ?ho ?_); (case ho => (first | assumption | exact Lg.base0 (by assumption) (by assumption) | exact Lg.hit (by assumption) (by (repeat (first | exact List.Mem.head _ | refine List.Mem.tail _ ?_))))); (any_goals (try exact (Option.none : Option Value)))) | (with_reducible refine' m_fresh ?_) | ((with_reducible refine' m_allocN ?D ?e ?f ?_); (case D => assumption); (case e => (conv => lhs; reduce); try exact rfl); (case f => exact rfl); intro a' h' D') | ((with_reducible refine' m_updateF ?D ?U ?e ?f ?_); (case D => assumption); (case U => (repeat (first | (apply SetAt.here; exact rfl) | apply SetAt.there))); (case e => (conv => lhs; reduce); try exact rfl); (case f => exact rfl); intro h' D') | ((with_reducible refine' m_update ?D ?U ?e ?f ?_); (case D => assumption); (case U => (repeat (first | (apply SetAt.here; exact rfl) | apply SetAt.there))); (case e => rfl); (case f => rfl); intro h' D') | (with_reducible refine' x_rule ?_) | (with_reducible refine' x_ask ?_) | (with_reducible refine' x_point ?_) | (with_reducible refine' x_at ?_)) | refine' m_bind ?_)
  refine ⟨by kernel_rfl!, codeAny_builtin e_typeCall ?_⟩
  delta Builtin.«type.__call__»
  repeat (first | (with_reducible refine' wpAny_bind ?_) | (with_reducible refine' m_bind ?_) | (with_reducible refine' m_holding ?_) | (with_reducible refine' wpAny_tryCatch ?_) | (with_reducible refine' m_try ?_) | (with_reducible refine' m_keep ?_) | (with_reducible refine' wpAny_attempt ?_) | (first | (with_reducible refine' m_val c2 ?_) | (with_reducible refine' m_val c4 ?_) | (with_reducible refine' m_val c5 ?_) | (with_reducible refine' m_val c7 ?_) | (with_reducible refine' m_val c9 ?_) | (with_reducible refine' m_val l1 ?_) | (with_reducible refine' m_val l2 ?_) | (with_reducible refine' m_val l3 ?_) | (with_reducible refine' m_val l4 ?_) | (with_reducible refine' m_val l5 ?_) | (with_reducible refine' m_val sn_str ?_) | (with_reducible refine' m_val sn_int ?_) | (with_reducible refine' m_val sn_list ?_) | (with_reducible refine' m_val sn_function ?_) | (with_reducible refine' m_val sn_NoneType ?_) | (with_reducible refine' m_val sn_tuple ?_) | (with_reducible refine' m_val sn_mem ?_) | (with_reducible refine' wpAny_standAt ?_) | ((with_reducible show wpAny _ _ (Builtin.«type.__new__» _) _ _ _); apply type_new_ok; all_goals (first | assumption | skip))) | ((with_reducible refine' m_slot ?hi ?_); (case hi => kernel_rfl!)) | ((with_reducible refine' m_iteB ?hb ?_); (case hb => kernel_rfl!)) | ((with_reducible refine' m_iteN ?hb ?_); (case hb => kernel_rfl!)) | (with_reducible refine' x_pure ?_) | ((with_reducible refine' m_load ?ho ?_); (case ho => (first | assumption | exact Lg.base0 (by assumption) (by assumption) | exact Lg.hit (by assumption) (by (repeat (first | exact List.Mem.head _ | refine List.Mem.tail _ ?_))))); (any_goals (try exact (Option.none : Option Value)))) | (with_reducible refine' m_fresh ?_) | ((with_reducible refine' m_allocN ?D ?e ?f ?_); (case D => assumption); (case e => (conv => lhs; reduce); try exact rfl); (case f => exact rfl); intro a' h' D') | ((with_reducible refine' m_updateF ?D ?U ?e ?f ?_); (case D => assumption); (case U => (repeat (first | (apply SetAt.here; exact rfl) | apply SetAt.there))); (case e => (conv => lhs; reduce); try exact rfl); (case f => exact rfl); intro h' D') | ((with_reducible refine' m_update ?D ?U ?e ?f ?_); (case D => assumption); (case U => (repeat (first | (apply SetAt.here; exact rfl) | apply SetAt.there))); (case e => rfl); (case f => rfl); intro h' D') | (with_reducible refine' x_rule ?_) | (with_reducible refine' x_ask ?_) | (with_reducible refine' x_point ?_) | (with_reducible refine' x_at ?_) | ((conv => arg 3; whnf); first | (with_reducible refine' x_pure ?_) | ((with_reducible refine' m_load ?ho ?_); (case ho => (first | assumption | exact Lg.base0 (by assumption) (by assumption) | exact Lg.hit (by assumption) (by (repeat (first | exact List.Mem.head _ | refine List.Mem.tail _ ?_))))); (any_goals (try exact (Option.none : Option Value)))) | (with_reducible refine' m_fresh ?_) | ((with_reducible refine' m_allocN ?D ?e ?f ?_); (case D => assumption); (case e => (conv => lhs; reduce); try exact rfl); (case f => exact rfl); intro a' h' D') | ((with_reducible refine' m_updateF ?D ?U ?e ?f ?_); (case D => assumption); (case U => (repeat (first | (apply SetAt.here; exact rfl) | apply SetAt.there))); (case e => (conv => lhs; reduce); try exact rfl); (case f => exact rfl); intro h' D') | ((with_reducible refine' m_update ?D ?U ?e ?f ?_); (case D => assumption); (case U => (repeat (first | (apply SetAt.here; exact rfl) | apply SetAt.there))); (case e => rfl); (case f => rfl); intro h' D') | (with_reducible refine' x_rule ?_) | (with_reducible refine' x_ask ?_) | (with_reducible refine' x_point ?_) | (with_reducible refine' x_at ?_)) | refine' m_bind ?_)
  refine' m_is (m' := run (.call (.builtin "type.__new__") ⟨[.type "type", .str ⟨#[75]⟩ tn, .ref basesA, .ref nsA], []⟩)) (by kernel_rfl!) ?_
  refine wpAny_run (codeAny_call_builtin (by decide +kernel) e_typeNew ?_)
  repeat (first | (with_reducible refine' wpAny_bind ?_) | (with_reducible refine' m_bind ?_) | (with_reducible refine' m_holding ?_) | (with_reducible refine' wpAny_tryCatch ?_) | (with_reducible refine' m_try ?_) | (with_reducible refine' m_keep ?_) | (with_reducible refine' wpAny_attempt ?_) | (first | (with_reducible refine' m_val c2 ?_) | (with_reducible refine' m_val c4 ?_) | (with_reducible refine' m_val c5 ?_) | (with_reducible refine' m_val c7 ?_) | (with_reducible refine' m_val c9 ?_) | (with_reducible refine' m_val l1 ?_) | (with_reducible refine' m_val l2 ?_) | (with_reducible refine' m_val l3 ?_) | (with_reducible refine' m_val l4 ?_) | (with_reducible refine' m_val l5 ?_) | (with_reducible refine' m_val sn_str ?_) | (with_reducible refine' m_val sn_int ?_) | (with_reducible refine' m_val sn_list ?_) | (with_reducible refine' m_val sn_function ?_) | (with_reducible refine' m_val sn_NoneType ?_) | (with_reducible refine' m_val sn_tuple ?_) | (with_reducible refine' m_val sn_mem ?_) | (with_reducible refine' wpAny_standAt ?_) | ((with_reducible show wpAny _ _ (Builtin.«type.__new__» _) _ _ _); apply type_new_ok; all_goals (first | assumption | skip))) | ((with_reducible refine' m_slot ?hi ?_); (case hi => kernel_rfl!)) | ((with_reducible refine' m_iteB ?hb ?_); (case hb => kernel_rfl!)) | ((with_reducible refine' m_iteN ?hb ?_); (case hb => kernel_rfl!)) | (with_reducible refine' x_pure ?_) | ((with_reducible refine' m_load ?ho ?_); (case ho => (first | assumption | exact Lg.base0 (by assumption) (by assumption) | exact Lg.hit (by assumption) (by (repeat (first | exact List.Mem.head _ | refine List.Mem.tail _ ?_))))); (any_goals (try exact (Option.none : Option Value)))) | (with_reducible refine' m_fresh ?_) | ((with_reducible refine' m_allocN ?D ?e ?f ?_); (case D => assumption); (case e => (conv => lhs; reduce); try exact rfl); (case f => exact rfl); intro a' h' D') | ((with_reducible refine' m_updateF ?D ?U ?e ?f ?_); (case D => assumption); (case U => (repeat (first | (apply SetAt.here; exact rfl) | apply SetAt.there))); (case e => (conv => lhs; reduce); try exact rfl); (case f => exact rfl); intro h' D') | ((with_reducible refine' m_update ?D ?U ?e ?f ?_); (case D => assumption); (case U => (repeat (first | (apply SetAt.here; exact rfl) | apply SetAt.there))); (case e => rfl); (case f => rfl); intro h' D') | (with_reducible refine' x_rule ?_) | (with_reducible refine' x_ask ?_) | (with_reducible refine' x_point ?_) | (with_reducible refine' x_at ?_) | ((conv => arg 3; whnf); first | (with_reducible refine' x_pure ?_) | ((with_reducible refine' m_load ?ho ?_); (case ho => (first | assumption | exact Lg.base0 (by assumption) (by assumption) | exact Lg.hit (by assumption) (by (repeat (first | exact List.Mem.head _ | refine List.Mem.tail _ ?_))))); (any_goals (try exact (Option.none : Option Value)))) | (with_reducible refine' m_fresh ?_) | ((with_reducible refine' m_allocN ?D ?e ?f ?_); (case D => assumption); (case e => (conv => lhs; reduce); try exact rfl); (case f => exact rfl); intro a' h' D') | ((with_reducible refine' m_updateF ?D ?U ?e ?f ?_); (case D => assumption); (case U => (repeat (first | (apply SetAt.here; exact rfl) | apply SetAt.there))); (case e => (conv => lhs; reduce); try exact rfl); (case f => exact rfl); intro h' D') | ((with_reducible refine' m_update ?D ?U ?e ?f ?_); (case D => assumption); (case U => (repeat (first | (apply SetAt.here; exact rfl) | apply SetAt.there))); (case e => rfl); (case f => rfl); intro h' D') | (with_reducible refine' x_rule ?_) | (with_reducible refine' x_ask ?_) | (with_reducible refine' x_point ?_) | (with_reducible refine' x_at ?_)) | refine' m_bind ?_)
  case S =>
    refine Deep.go S rfl ?_ ?_
    · exact Nat.add_le_add_left (Nat.le_of_ble_eq_true (by kernel_rfl!)) A.depth
    · rw [show (((A.mark none).under (Code.builtin "type.__call__" ⟨[.type "type", .str ⟨#[75]⟩ tn, .ref basesA, .ref nsA], []⟩)).mark none).in1.units = A.units + 2 from by kernel_rfl!]
      omega
  intro h1 C md ns x tk1 L1
  show wpAny (model PG w) _ _ _ _ _
  repeat (first | (with_reducible refine' wpAny_bind ?_) | (with_reducible refine' m_bind ?_) | (with_reducible refine' m_holding ?_) | (with_reducible refine' wpAny_tryCatch ?_) | (with_reducible refine' m_try ?_) | (with_reducible refine' m_keep ?_) | (with_reducible refine' wpAny_attempt ?_) | (first | (with_reducible refine' m_val c2 ?_) | (with_reducible refine' m_val c4 ?_) | (with_reducible refine' m_val c5 ?_) | (with_reducible refine' m_val c7 ?_) | (with_reducible refine' m_val c9 ?_) | (with_reducible refine' m_val l1 ?_) | (with_reducible refine' m_val l2 ?_) | (with_reducible refine' m_val l3 ?_) | (with_reducible refine' m_val l4 ?_) | (with_reducible refine' m_val l5 ?_) | (with_reducible refine' m_val sn_str ?_) | (with_reducible refine' m_val sn_int ?_) | (with_reducible refine' m_val sn_list ?_) | (with_reducible refine' m_val sn_function ?_) | (with_reducible refine' m_val sn_NoneType ?_) | (with_reducible refine' m_val sn_tuple ?_) | (with_reducible refine' m_val sn_mem ?_) | (with_reducible refine' wpAny_standAt ?_) | ((with_reducible show wpAny _ _ (Builtin.«type.__new__» _) _ _ _); apply type_new_ok; all_goals (first | assumption | skip))) | ((with_reducible refine' m_slot ?hi ?_); (case hi => kernel_rfl!)) | ((with_reducible refine' m_iteB ?hb ?_); (case hb => kernel_rfl!)) | ((with_reducible refine' m_iteN ?hb ?_); (case hb => kernel_rfl!)) | (with_reducible refine' x_pure ?_) | ((with_reducible refine' m_load ?ho ?_); (case ho => (first | assumption | exact Lg.base0 (by assumption) (by assumption) | exact Lg.hit (by assumption) (by (repeat (first | exact List.Mem.head _ | refine List.Mem.tail _ ?_))))); (any_goals (try exact (Option.none : Option Value)))) | (with_reducible refine' m_fresh ?_) | ((with_reducible refine' m_allocN ?D ?e ?f ?_); (case D => assumption); (case e => (conv => lhs; reduce); try exact rfl); (case f => exact rfl); intro a' h' D') | ((with_reducible refine' m_updateF ?D ?U ?e ?f ?_); (case D => assumption); (case U => (repeat (first | (apply SetAt.here; exact rfl) | apply SetAt.there))); (case e => (conv => lhs; reduce); try exact rfl); (case f => exact rfl); intro h' D') | ((with_reducible refine' m_update ?D ?U ?e ?f ?_); (case D => assumption); (case U => (repeat (first | (apply SetAt.here; exact rfl) | apply SetAt.there))); (case e => rfl); (case f => rfl); intro h' D') | (with_reducible refine' x_rule ?_) | (with_reducible refine' x_ask ?_) | (with_reducible refine' x_point ?_) | (with_reducible refine' x_at ?_) | ((conv => arg 3; whnf); first | (with_reducible refine' x_pure ?_) | ((with_reducible refine' m_load ?ho ?_); (case ho => (first | assumption | exact Lg.base0 (by assumption) (by assumption) | exact Lg.hit (by assumption) (by (repeat (first | exact List.Mem.head _ | refine List.Mem.tail _ ?_))))); (any_goals (try exact (Option.none : Option Value)))) | (with_reducible refine' m_fresh ?_) | ((with_reducible refine' m_allocN ?D ?e ?f ?_); (case D => assumption); (case e => (conv => lhs; reduce); try exact rfl); (case f => exact rfl); intro a' h' D') | ((with_reducible refine' m_updateF ?D ?U ?e ?f ?_); (case D => assumption); (case U => (repeat (first | (apply SetAt.here; exact rfl) | apply SetAt.there))); (case e => (conv => lhs; reduce); try exact rfl); (case f => exact rfl); intro h' D') | ((with_reducible refine' m_update ?D ?U ?e ?f ?_); (case D => assumption); (case U => (repeat (first | (apply SetAt.here; exact rfl) | apply SetAt.there))); (case e => rfl); (case f => rfl); intro h' D') | (with_reducible refine' x_rule ?_) | (with_reducible refine' x_ask ?_) | (with_reducible refine' x_point ?_) | (with_reducible refine' x_at ?_)) | refine' m_bind ?_)
  refine' m_is (m' := run (.call (.builtin "type.__init__") ⟨[.ref C, .str ⟨#[75]⟩ tn, .ref basesA, .ref nsA], []⟩)) (by kernel_rfl!) ?_
  refine wpAny_run (codeAny_call_builtin (by decide +kernel) e_typeInit ?_)
  repeat (first | (with_reducible refine' wpAny_bind ?_) | (with_reducible refine' m_bind ?_) | (with_reducible refine' m_holding ?_) | (with_reducible refine' wpAny_tryCatch ?_) | (with_reducible refine' m_try ?_) | (with_reducible refine' m_keep ?_) | (with_reducible refine' wpAny_attempt ?_) | (first | (with_reducible refine' m_val c2 ?_) | (with_reducible refine' m_val c4 ?_) | (with_reducible refine' m_val c5 ?_) | (with_reducible refine' m_val c7 ?_) | (with_reducible refine' m_val c9 ?_) | (with_reducible refine' m_val l1 ?_) | (with_reducible refine' m_val l2 ?_) | (with_reducible refine' m_val l3 ?_) | (with_reducible refine' m_val l4 ?_) | (with_reducible refine' m_val l5 ?_) | (with_reducible refine' m_val sn_str ?_) | (with_reducible refine' m_val sn_int ?_) | (with_reducible refine' m_val sn_list ?_) | (with_reducible refine' m_val sn_function ?_) | (with_reducible refine' m_val sn_NoneType ?_) | (with_reducible refine' m_val sn_tuple ?_) | (with_reducible refine' m_val sn_mem ?_) | (with_reducible refine' wpAny_standAt ?_) | ((with_reducible show wpAny _ _ (Builtin.«type.__new__» _) _ _ _); apply type_new_ok; all_goals (first | assumption | skip))) | ((with_reducible refine' m_slot ?hi ?_); (case hi => kernel_rfl!)) | ((with_reducible refine' m_iteB ?hb ?_); (case hb => kernel_rfl!)) | ((with_reducible refine' m_iteN ?hb ?_); (case hb => kernel_rfl!)) | (with_reducible refine' x_pure ?_) | ((with_reducible refine' m_load ?ho ?_); (case ho => (first | assumption | exact Lg.base0 (by assumption) (by assumption) | exact Lg.hit (by assumption) (by (repeat (first | exact List.Mem.head _ | refine List.Mem.tail _ ?_))))); (any_goals (try exact (Option.none : Option Value)))) | (with_reducible refine' m_fresh ?_) | ((with_reducible refine' m_allocN ?D ?e ?f ?_); (case D => assumption); (case e => (conv => lhs; reduce); try exact rfl); (case f => exact rfl); intro a' h' D') | ((with_reducible refine' m_updateF ?D ?U ?e ?f ?_); (case D => assumption); (case U => (repeat (first | (apply SetAt.here; exact rfl) | apply SetAt.there))); (case e => (conv => lhs; reduce); try exact rfl); (case f => exact rfl); intro h' D') | ((with_reducible refine' m_update ?D ?U ?e ?f ?_); (case D => assumption); (case U => (repeat (first | (apply SetAt.here; exact rfl) | apply SetAt.there))); (case e => rfl); (case f => rfl); intro h' D') | (with_reducible refine' x_rule ?_) | (with_reducible refine' x_ask ?_) | (with_reducible refine' x_point ?_) | (with_reducible refine' x_at ?_) | ((conv => arg 3; whnf); first | (with_reducible refine' x_pure ?_) | ((with_reducible refine' m_load ?ho ?_); (case ho => (first | assumption | exact Lg.base0 (by assumption) (by assumption) | exact Lg.hit (by assumption) (by (repeat (first | exact List.Mem.head _ | refine List.Mem.tail _ ?_))))); (any_goals (try exact (Option.none : Option Value)))) | (with_reducible refine' m_fresh ?_) | ((with_reducible refine' m_allocN ?D ?e ?f ?_); (case D => assumption); (case e => (conv => lhs; reduce); try exact rfl); (case f => exact rfl); intro a' h' D') | ((with_reducible refine' m_updateF ?D ?U ?e ?f ?_); (case D => assumption); (case U => (repeat (first | (apply SetAt.here; exact rfl) | apply SetAt.there))); (case e => (conv => lhs; reduce); try exact rfl); (case f => exact rfl); intro h' D') | ((with_reducible refine' m_update ?D ?U ?e ?f ?_); (case D => assumption); (case U => (repeat (first | (apply SetAt.here; exact rfl) | apply SetAt.there))); (case e => rfl); (case f => rfl); intro h' D') | (with_reducible refine' x_rule ?_) | (with_reducible refine' x_ask ?_) | (with_reducible refine' x_point ?_) | (with_reducible refine' x_at ?_)) | refine' m_bind ?_)
  show wpAny (model PG w) _ _ _ _ _
  repeat (first | (with_reducible refine' wpAny_bind ?_) | (with_reducible refine' m_bind ?_) | (with_reducible refine' m_holding ?_) | (with_reducible refine' wpAny_tryCatch ?_) | (with_reducible refine' m_try ?_) | (with_reducible refine' m_keep ?_) | (with_reducible refine' wpAny_attempt ?_) | (first | (with_reducible refine' m_val c2 ?_) | (with_reducible refine' m_val c4 ?_) | (with_reducible refine' m_val c5 ?_) | (with_reducible refine' m_val c7 ?_) | (with_reducible refine' m_val c9 ?_) | (with_reducible refine' m_val l1 ?_) | (with_reducible refine' m_val l2 ?_) | (with_reducible refine' m_val l3 ?_) | (with_reducible refine' m_val l4 ?_) | (with_reducible refine' m_val l5 ?_) | (with_reducible refine' m_val sn_str ?_) | (with_reducible refine' m_val sn_int ?_) | (with_reducible refine' m_val sn_list ?_) | (with_reducible refine' m_val sn_function ?_) | (with_reducible refine' m_val sn_NoneType ?_) | (with_reducible refine' m_val sn_tuple ?_) | (with_reducible refine' m_val sn_mem ?_) | (with_reducible refine' wpAny_standAt ?_) | ((with_reducible show wpAny _ _ (Builtin.«type.__new__» _) _ _ _); apply type_new_ok; all_goals (first | assumption | skip))) | ((with_reducible refine' m_slot ?hi ?_); (case hi => kernel_rfl!)) | ((with_reducible refine' m_iteB ?hb ?_); (case hb => kernel_rfl!)) | ((with_reducible refine' m_iteN ?hb ?_); (case hb => kernel_rfl!)) | (with_reducible refine' x_pure ?_) | ((with_reducible refine' m_load ?ho ?_); (case ho => (first | assumption | exact Lg.base0 (by assumption) (by assumption) | exact Lg.hit (by assumption) (by (repeat (first | exact List.Mem.head _ | refine List.Mem.tail _ ?_))))); (any_goals (try exact (Option.none : Option Value)))) | (with_reducible refine' m_fresh ?_) | ((with_reducible refine' m_allocN ?D ?e ?f ?_); (case D => assumption); (case e => (conv => lhs; reduce); try exact rfl); (case f => exact rfl); intro a' h' D') | ((with_reducible refine' m_updateF ?D ?U ?e ?f ?_); (case D => assumption); (case U => (repeat (first | (apply SetAt.here; exact rfl) | apply SetAt.there))); (case e => (conv => lhs; reduce); try exact rfl); (case f => exact rfl); intro h' D') | ((with_reducible refine' m_update ?D ?U ?e ?f ?_); (case D => assumption); (case U => (repeat (first | (apply SetAt.here; exact rfl) | apply SetAt.there))); (case e => rfl); (case f => rfl); intro h' D') | (with_reducible refine' x_rule ?_) | (with_reducible refine' x_ask ?_) | (with_reducible refine' x_point ?_) | (with_reducible refine' x_at ?_) | ((conv => arg 3; whnf); first | (with_reducible refine' x_pure ?_) | ((with_reducible refine' m_load ?ho ?_); (case ho => (first | assumption | exact Lg.base0 (by assumption) (by assumption) | exact Lg.hit (by assumption) (by (repeat (first | exact List.Mem.head _ | refine List.Mem.tail _ ?_))))); (any_goals (try exact (Option.none : Option Value)))) | (with_reducible refine' m_fresh ?_) | ((with_reducible refine' m_allocN ?D ?e ?f ?_); (case D => assumption); (case e => (conv => lhs; reduce); try exact rfl); (case f => exact rfl); intro a' h' D') | ((with_reducible refine' m_updateF ?D ?U ?e ?f ?_); (case D => assumption); (case U => (repeat (first | (apply SetAt.here; exact rfl) | apply SetAt.there))); (case e => (conv => lhs; reduce); try exact rfl); (case f => exact rfl); intro h' D') | ((with_reducible refine' m_update ?D ?U ?e ?f ?_); (case D => assumption); (case U => (repeat (first | (apply SetAt.here; exact rfl) | apply SetAt.there))); (case e => rfl); (case f => rfl); intro h' D') | (with_reducible refine' x_rule ?_) | (with_reducible refine' x_ask ?_) | (with_reducible refine' x_point ?_) | (with_reducible refine' x_at ?_)) | refine' m_bind ?_)
  exact K _ _ _ _ _ _ (by assumption)
end Mine

-- XW
namespace Mine
section
variable {α : Type} {prog : Program} {w : World} {A : Around} {E : Value → Shared → Prop}
theorem p_croom {M : Model} {s : Shared} {what : String} {vs : List Value} {Q : Unit → Shared → Prop} (hu : A.units < cLine) (h : Q () s) : WP M A (cRoomFor what vs) Q E s := ⟨wpAny_cRoomFor hu h⟩
theorem shU {A : Around} (S : Shallow A) : A.units < cLine := Nat.lt_of_le_of_lt S.units (by decide +kernel)
theorem p_ite2 {M : Model} {s : Shared} {c : Prop} [Decidable c] {Q : α → Shared → Prop} {t e : Sem α} (h : WP M A t Q E s) (h2 : WP M A e Q E s) : WP M A (if c then t else e) Q E s := by split <;> assumption
end
end Mine

-- HE
namespace Mine
theorem Lg.sub9 {P : Prop} {but : List Addr} {h₀ h : Heap} {q1 q2 q3 q4 q5 q6 q7 q8 q9 o1 o2 o3 o4 o5 o6 o7 o8 o9 : Obj} (L : Obj → Obj → Obj → Obj → Obj → Obj → Obj → Obj → Obj → List (Addr × Obj))
    (e1 : q1 = o1) (e2 : q2 = o2) (e3 : q3 = o3) (e4 : q4 = o4) (e5 : q5 = o5) (e6 : q6 = o6) (e7 : q7 = o7) (e8 : q8 = o8) (e9 : q9 = o9)
    (D : Lg but h₀ h (L q1 q2 q3 q4 q5 q6 q7 q8 q9)) (k : Lg but h₀ h (L o1 o2 o3 o4 o5 o6 o7 o8 o9) → P) : P := by
  subst e1 e2 e3 e4 e5 e6 e7 e8 e9; exact k D
theorem Lg.sub5 {P : Prop} {but : List Addr} {h₀ h : Heap} {q1 q2 q3 q4 q5 o1 o2 o3 o4 o5 : Obj} (L : Obj → Obj → Obj → Obj → Obj → List (Addr × Obj))
    (e1 : q1 = o1) (e2 : q2 = o2) (e3 : q3 = o3) (e4 : q4 = o4) (e5 : q5 = o5) (D : Lg but h₀ h (L q1 q2 q3 q4 q5)) (k : Lg but h₀ h (L o1 o2 o3 o4 o5) → P) : P := by
  subst e1 e2 e3 e4 e5; exact k D
/-- P, wherever R -/
structure H (R P : Shared → Prop) : Prop where
  out : ∀ s, R s → P s
/-- a token, closed to the reducer's eyes -/
@[irreducible] def tokAt (b i : Nat) : Nat := b + i
theorem tokAt_zero (b : Nat) : tokAt b 0 = b := by unfold tokAt; rfl
theorem tokAt_succ (b i : Nat) : tokAt b (i + 1) = tokAt b i + 1 := by unfold tokAt; rfl
/-- the state: a heap with this ledger and this size -/
def St (but : List Addr) (h₀ : Heap) (g : Array GenState) (d : Drawn) (os : OsState) (t n : Nat) (news : List (Addr × Obj)) : Shared → Prop :=
  fun s => ∃ h, s = ⟨h, g, d, t, os⟩ ∧ Lg but h₀ h news ∧ h.objs.size = n
section
variable {α β : Type} {prog : Program} {w : World} {A : Around} {E : Value → Shared → Prop} {Q : α → Shared → Prop} {R : Shared → Prop} {M : Model}
noncomputable def SeeH (M : Model) (A : Around) (Q : α → Shared → Prop) (E : Value → Shared → Prop) (R : Shared → Prop) (m : Sem α) : Prop :=
  Sem.casesOn (motive := fun _ => Prop) m
    (fun a => Bx (H R (WP M A (.pure a) Q E))) (fun e => Bx (H R (WP M A (.raise e) Q E))) (fun e => Bx (H R (WP M A (.unsupported e) Q E))) (fun e => Bx (H R (WP M A (.finish e) Q E)))
    (fun a k => Bx (H R (WP M A (.rule a k) Q E))) (fun a k => Bx (H R (WP M A (.at a k) Q E))) (fun a b k => Bx (H R (WP M A (.load a b k) Q E))) (fun a b f k => Bx (H R (WP M A (.update a b f k) Q E)))
    (fun a k => Bx (H R (WP M A (.alloc a k) Q E))) (fun a k => Bx (H R (WP M A (.loadIfAlive a k) Q E))) (fun a k => Bx (H R (WP M A (.point a k) Q E))) (fun a k => Bx (H R (WP M A (.register a k) Q E)))
    (fun k => Bx (H R (WP M A (.fresh k) Q E))) (fun k => Bx (H R (WP M A (.ask k) Q E))) (fun a b k => Bx (H R (WP M A (.choose a b k) Q E))) (fun a b k => Bx (H R (WP M A (.os a b k) Q E)))
    (fun a b c l k => Bx (H R (WP M A (.call a b c l k) Q E))) (fun a k => Bx (H R (WP M A (.handled a k) Q E))) (fun a k => Bx (H R (WP M A (.newGen a k) Q E))) (fun a k => Bx (H R (WP M A (.genState a k) Q E)))
    (fun a b c k => Bx (H R (WP M A (.resume a b c k) Q E))) (fun a b c k => Bx (H R (WP M A (.yield a b c k) Q E))) (fun k => Bx (H R (WP M A (.stack k) Q E))) (fun a k => Bx (H R (WP M A (.fork a k) Q E)))
    (fun k => Bx (H R (WP M A (.thread k) Q E))) (fun a b c l k => Bx (H R (WP M A (.await a b c l k) Q E)))
theorem h_see {m : Sem α} (h : SeeH M A Q E R m) : H R (WP M A m Q E) := by
  cases m <;> exact h.out
theorem h_bind {m : Sem β} {f : β → Sem α} (h : H R (WP M A m (BQ M A f Q E) E)) : H R (WP M A (m >>= f) Q E) := ⟨fun s r => p_bind (h.out s r)⟩
theorem h_sbind {m : Sem β} {f : β → Sem α} (h : H R (WP M A m (BQ M A f Q E) E)) : H R (WP M A (Sem.bind m f) Q E) := ⟨fun s r => p_bind (h.out s r)⟩
theorem h_bq {f : β → Sem α} {a : β} (h : H R (WP M A (f a) Q E)) : H R (BQ M A f Q E a) := h
theorem h_ok {Q : Except Value α → Shared → Prop} {a : α} (h : H R (Q (.ok a))) : H R (OkQ Q a) := h
theorem h_pure {a : α} (h : H R (Q a)) : H R (WP (model prog w) A (Sem.pure a) Q E) := ⟨fun s r => p_pure (h.out s r)⟩
theorem h_rule {t : String} {k : Unit → Sem α} (h : H R (WP (model prog w) A (k ()) Q E)) : H R (WP (model prog w) A (.rule t k) Q E) := ⟨fun s r => p_rule (h.out s r)⟩
theorem h_at {q : Pos} {k : Unit → Sem α} (h : H R (WP (model prog w) A (k ()) Q E)) : H R (WP (model prog w) A (.at q k) Q E) := ⟨fun s r => p_at (h.out s r)⟩
theorem h_point {l : List Value} {k : Unit → Sem α} (h : H R (WP (model prog w) A (k ()) Q E)) : H R (WP (model prog w) A (.point l k) Q E) := ⟨fun s r => p_point (h.out s r)⟩
theorem h_ask {k : Setting → Sem α} (h : H R (WP (model prog w) A (k ⟨prog, w.params⟩) Q E)) : H R (WP (model prog w) A (.ask k) Q E) := ⟨fun s r => p_ask (h.out s r)⟩
theorem h_holding {vs : List Value} {m : Sem α} (h : H R (WP (model prog w) A m Q E)) : H R (WP (model prog w) A (holding vs m) Q E) := ⟨fun s r => p_holding (h.out s r)⟩
theorem h_keep {vs : List Value} {m : Sem α} (h : H R (WP (model prog w) A m Q E)) : H R (WP (model prog w) A (Sem.keep vs m) Q E) := ⟨fun s r => p_keep (h.out s r)⟩
theorem h_try {m : Sem α} {k : Value → Sem α} (h : H R (WP (model prog w) A m Q (BQ (model prog w) A k Q E))) : H R (WP (model prog w) A (Sem.tryCatch m k) Q E) := ⟨fun s r => p_try (h.out s r)⟩
theorem h_try' {m : Sem α} {k : Value → Sem α} (h : H R (WP (model prog w) A m Q (BQ (model prog w) A k Q E))) : H R (WP (model prog w) A (MonadExcept.tryCatch m k) Q E) := ⟨fun s r => p_try (h.out s r)⟩
theorem h_attempt {m : Sem α} {Q : Except Value α → Shared → Prop} (h : H R (WP M A m (OkQ Q) (ErQ Q))) : H R (WP M A m.attempt Q E) := ⟨fun s r => p_attempt (h.out s r)⟩
theorem h_val {m : Sem α} {a : α} (e : m = Sem.pure a) (h : H R (Q a)) : H R (WP (model prog w) A m Q E) := ⟨fun s r => p_val e (h.out s r)⟩
theorem h_is {m m' : Sem α} (e : m = m') (h : H R (WP M A m' Q E)) : H R (WP M A m Q E) := e ▸ h
theorem h_iteB {b : Bool} {t e : Sem α} (hb : b = true) (h : H R (WP M A t Q E)) : H R (WP M A (if b = true then t else e) Q E) := ⟨fun s r => p_iteB hb (h.out s r)⟩
theorem h_iteN {b : Bool} {t e : Sem α} (hb : b = false) (h : H R (WP M A e Q E)) : H R (WP M A (if b = true then t else e) Q E) := ⟨fun s r => p_iteN hb (h.out s r)⟩
theorem h_standAt {pos : Pos} {Q : Unit → Shared → Prop} (h : H R (Q ())) : H R (WP M A (standAt pos) Q E) := ⟨fun s r => p_standAt (h.out s r)⟩
theorem h_croom {what : String} {vs : List Value} {Q : Unit → Shared → Prop} (hu : A.units < cLine) (h : H R (Q ())) : H R (WP M A (cRoomFor what vs) Q E) := ⟨fun s r => ⟨wpAny_cRoomFor hu (h.out s r)⟩⟩
/-- what follows a statement -/
def ExQ (M : Model) (A : Around) (rest : List Stmt) (env : Env) (Q : Flow → Shared → Prop) (E : Value → Shared → Prop) : Flow → Shared → Prop := fun f s' => match f with
  | .next => WP M A (execs rest env) Q E s'
  | f => Q f s'
theorem h_execs {st : Stmt} {rest : List Stmt} {env : Env} {Q : Flow → Shared → Prop} (h : H R (WP (model prog w) A (exec st env) (ExQ (model prog w) A rest env Q E) E)) : H R (WP (model prog w) A (execs (st :: rest) env) Q E) :=
  ⟨fun s r => ⟨wpAny_execs_cons (wpAny_mono (h.out s r).out (fun f _ y => by cases f <;> first | exact y.out | exact y) fun _ _ e => e)⟩⟩
theorem h_exn {rest : List Stmt} {env : Env} {Q : Flow → Shared → Prop} (h : H R (WP M A (execs rest env) Q E)) : H R (ExQ M A rest env Q E .next) := h
theorem h_exr {rest : List Stmt} {env : Env} {v : Value} {Q : Flow → Shared → Prop} (h : H R (Q (.ret v))) : H R (ExQ M A rest env Q E (.ret v)) := h
end
section
variable {α : Type} {prog : Program} {w : World} {A : Around} {E : Value → Shared → Prop} {Q : α → Shared → Prop} {but : List Addr} {h₀ : Heap} {news news' : List (Addr × Obj)} {g : Array GenState} {d : Drawn} {t n : Nat} {os : OsState}
theorem h_load {a : Addr} {q : Option Value} {k : Obj → Sem α} {o : Obj} (hm : (a, o) ∈ news) (x : H (St but h₀ g d os t n news) (WP (model prog w) A (k o) Q E)) : H (St but h₀ g d os t n news) (WP (model prog w) A (.load a q k) Q E) :=
  ⟨fun s r => by
    have y := x.out s r
    obtain ⟨h, rfl, L, _⟩ := r
    exact p_load (L.hit hm) y⟩
theorem h_loadB {a : Addr} {q : Option Value} {k : Obj → Sem α} {o : Obj} (e : h₀.get? a = some o) (hb : a ∉ but) (x : H (St but h₀ g d os t n news) (WP (model prog w) A (k o) Q E)) : H (St but h₀ g d os t n news) (WP (model prog w) A (.load a q k) Q E) :=
  ⟨fun s r => by
    have y := x.out s r
    obtain ⟨h, rfl, L, _⟩ := r
    exact p_load (L.base e hb) y⟩
theorem h_loadB16 {a : Addr} {q : Option Value} {k : Obj → Sem α} {o : Obj} (e : h₀.get? a = some o) (hb : Nat.beq a 16 = false) (x : H (St [16] h₀ g d os t n news) (WP (model prog w) A (k o) Q E)) : H (St [16] h₀ g d os t n news) (WP (model prog w) A (.load a q k) Q E) :=
  h_loadB e (fun hm => by rw [List.mem_singleton.mp hm] at hb; cases hb) x
theorem h_loadB0 {a : Addr} {q : Option Value} {k : Obj → Sem α} {o : Obj} (e : h₀.get? a = some o) (x : H (St [] h₀ g d os t n news) (WP (model prog w) A (k o) Q E)) : H (St [] h₀ g d os t n news) (WP (model prog w) A (.load a q k) Q E) :=
  h_loadB e (fun hm => by cases hm) x
theorem h_fresh {b i : Nat} {k : Tok → Sem α} (x : H (St but h₀ g d os (tokAt b (i + 1)) n news) (WP (model prog w) A (k (tokAt b i)) Q E)) : H (St but h₀ g d os (tokAt b i) n news) (WP (model prog w) A (.fresh k) Q E) :=
  ⟨fun s r => by
    obtain ⟨h, rfl, L, z⟩ := r
    exact p_fresh (x.out _ ⟨h, by rw [tokAt_succ], L, z⟩)⟩
theorem h_alloc {b i : Nat} {o o' : Obj} {k : Addr → Sem α} (e : o = o') (hf : o'.isFreed = false) (x : H (St but h₀ g d os t (b + (i + 1)) ((b + i, o') :: news)) (WP (model prog w) A (k (b + i)) Q E)) :
    H (St but h₀ g d os t (b + i) news) (WP (model prog w) A (.alloc o k) Q E) :=
  ⟨fun s r => by
    obtain ⟨h, rfl, L, z⟩ := r
    subst e
    have y := x.out ⟨h.push o, g, d, t, os⟩ ⟨_, rfl, z ▸ L.alloc hf, by rw [Heap.size_push, z]; rfl⟩
    rw [← z] at y
    exact ⟨wpAny_bind (m := alloc o) (f := k) (wpAny_alloc y.out)⟩⟩
theorem h_allocFn {b i : Nat} {cl : Value} {fd : FuncData} {k : Addr → Sem α} (x : H (St but h₀ g d os t (b + (i + 1)) ((b + i, { cls := cl, data := .func fd }) :: news)) (WP (model prog w) A (k (b + i)) Q E)) :
    H (St but h₀ g d os t (b + i) news) (WP (model prog w) A (.alloc { cls := cl, data := .func fd } k) Q E) := h_alloc rfl rfl x
theorem size_update (h : Heap) (a : Addr) (f : Obj → Obj) : (h.update a f).objs.size = h.objs.size := by
  obtain ⟨os, l⟩ := h
  simp [Heap.update]
theorem h_update {a : Addr} {q : Option Value} {f : Obj → Obj} {k : Unit → Sem α} {o o' : Obj} (U : SetAt a o o' news news') (e : f o = o') (hf : o'.isFreed = false) (x : H (St but h₀ g d os t n news') (WP (model prog w) A (k ()) Q E)) :
    H (St but h₀ g d os t n news) (WP (model prog w) A (.update a q f k) Q E) :=
  ⟨fun s r => by
    obtain ⟨h, rfl, L, z⟩ := r
    have y := x.out ⟨h.update a f, g, d, t, os⟩ ⟨_, rfl, L.update U e hf, by rw [size_update]; exact z⟩
    exact ⟨wpAny_bind (m := updatePart a q f) (f := k) (wpAny_updatePart (L.hit U.mem) y.out)⟩⟩
theorem h_updateF {a : Addr} {q : Option Value} {f : Obj → Obj} {k : Unit → Sem α} {vs : Array Value} {o' : Obj} (U : SetAt a { cls := .none, data := .fields vs } o' news news') (e : f { cls := .none, data := .fields vs } = o') (hf : o'.isFreed = false)
    (x : H (St but h₀ g d os t n news') (WP (model prog w) A (k ()) Q E)) : H (St but h₀ g d os t n news) (WP (model prog w) A (.update a q f k) Q E) := h_update U e hf x
theorem h_start {h : Heap} {P : Shared → Prop} (D : Lg but h₀ h news) (k : ∀ n, H (St but h₀ g d os (tokAt t 0) (n + 0) news) P) : P ⟨h, g, d, t, os⟩ := (k h.objs.size).out _ ⟨h, by rw [tokAt_zero], D, rfl⟩
theorem h_end {P : Shared → Prop} (x : ∀ h, Lg but h₀ h news → P ⟨h, g, d, t, os⟩) : H (St but h₀ g d os t n news) P := ⟨fun _ ⟨h, e, D, _⟩ => e ▸ x h D⟩
def tagL (F : Nat → Obj) : Nat → List Addr → List (Addr × Obj)
  | _, [] => []
  | i, a :: r => (a, F i) :: tagL F (i + 1) r
def pickL {α : Type} : List Bool → List α → List α
  | true :: m, a :: l => a :: pickL m l
  | false :: m, _ :: l => pickL m l
  | _, _ => []
theorem pick_sub {α : Type} : ∀ (m : List Bool) (l : List α), (pickL m l).Sublist l
  | [], [] => .slnil
  | [], a :: l => List.nil_sublist _
  | true :: _, [] => .slnil
  | false :: _, [] => .slnil
  | true :: m, a :: l => .cons_cons a (pick_sub m l)
  | false :: m, a :: l => .cons a (pick_sub m l)
theorem tag_eq : ∀ (l : List (Addr × Obj)) (F : Nat → Obj) (i : Nat), (∀ j o, (l.map (·.2))[j]? = some o → F (i + j) = o) → tagL F i (l.map (·.1)) = l
  | [], _, _, _ => rfl
  | (a, o) :: r, F, i, h => by
    show (a, F i) :: tagL F (i + 1) (r.map (·.1)) = _
    rw [tag_eq r F (i + 1) (fun j o' e => by rw [Nat.add_assoc, Nat.add_comm 1 j]; exact h (j + 1) o' e), show F i = o from h 0 o rfl]
/-- the end, the objects named by F, and only those that the mask keeps -/
theorem h_endP {P : Shared → Prop} (mask : List Bool) (x : ∀ h (F : Nat → Obj), Lg but h₀ h (tagL F 0 ((pickL mask news).map (·.1))) → (∀ i o, ((pickL mask news).map (·.2))[i]? = some o → F i = o) → P ⟨h, g, d, t, os⟩) :
    H (St but h₀ g d os t n news) P := h_end fun h D => by
  have hq : ∀ (i : Nat) (o : Obj), ((pickL mask news).map (·.2))[i]? = some o → (((pickL mask news).map (·.2))[i]?.getD ({ cls := .none, data := .plain } : Obj)) = o := fun i o e => by rw [e]; rfl
  refine x h (fun i => ((pickL mask news).map (·.2))[i]?.getD ({ cls := .none, data := .plain } : Obj)) ?_ hq
  rw [tag_eq _ _ 0 (fun j o e => by rw [Nat.zero_add]; exact hq j o e)]
  exact D.sub (pick_sub mask news)
end
end Mine

-- BA
namespace Mine
section
variable {α : Type} {prog : Program} {w : World} {A : Around} {E : Value → Shared → Prop}
theorem p_allocS {h : Heap} {g d t os} {o : Obj} {k : Addr → Sem α} {Q : α → Shared → Prop} (hf : o.isFreed = false)
    (x : ∀ a h', a = h.objs.size → Keeps h h' → h.get? a = none → h'.get? a = some o → WP (model prog w) A (k a) Q E ⟨h', g, d, t, os⟩) : WP (model prog w) A (.alloc o k) Q E ⟨h, g, d, t, os⟩ :=
  ⟨wpAny_bind (m := alloc o) (f := k) (wpAny_alloc (x _ _ rfl (Keeps.push h o) (get?_size h) (Heap.get?_push_size _ hf)).out)⟩
theorem Old.lg16 {w : World} {h₀ h : Heap} {news : List (Addr × Obj)} (KR : Old w h₀) (L : Lg [16] h₀ h news) : Old w h := KR.mk2 (fun a o _ p _ e => L.keep a o e (by
  intro hm
  rw [List.mem_singleton.mp hm] at p; simp at p)) (fun o e => L.keep 0 o e (by decide)) fun o e => L.keep 4 o e (by decide)
theorem bi_bc : biN (Str.ofString "__build_class__") = some (some (.builtin "__build_class__")) := by decide +kernel
theorem p_env {M : Model} {s : Shared} {body : List Stmt} {sc : Scope} {lo gl : Addr} {ce : List (Str × Addr)} {qu : Str} {fn : Option Addr} {cd : Value} {fr : Option Addr} {bi : Addr} {Q : Flow → Shared → Prop}
    (h : WP M A (execs body ⟨sc, lo, gl, ce, qu, fn, cd, fr, bi⟩) Q E s) : WP M A (execs body ⟨sc, lo, gl, ce, qu, fn, cd, fr, bi⟩) Q E s := h
/-- an object that, as the table of builtins, reads as it should -/
def BiO (o : Obj) : Prop := ∀ nm v, biN nm = some (some v) → nsLook nm o = Sem.pure (some v)
theorem Old.bo {h : Heap} (KR : Old w h) : ∃ o, h.get? 0 = some o ∧ BiO o := by
  obtain ⟨mb, ⟨o, es, ep, ho, hd, hk, hf⟩, y⟩ := KR.bi
  refine ⟨o, ho, fun nm v e => ?_⟩
  unfold biN at e
  split at e
  · cases e
  · rename_i hn
    have e2 := (hf nm).trans ((y nm hn).trans (Option.some.inj e))
    unfold nsFind findBy at e2
    rw [nsLook_eq]
    unfold nsLookByArray
    rw [hd]
    dsimp only
    cases q : es.find? (·.key.isStr nm) with
    | none => rw [q] at e2; cases e2
    | some e' => rw [q] at e2; cases e2; rfl
theorem p_nsLookB {s : Shared} {o : Obj} {nm : Str} {v : Value} {Q : Option Value → Shared → Prop} (B : BiO o) (e : biN nm = some (some v)) (x : Q (some v) s) : WP (model prog w) A (nsLook nm o) Q E s := p_val (B _ _ e) x
end
section
set_option maxRecDepth 100000
set_option maxHeartbeats 0
set_option pp.maxSteps 3000
set_option pp.deepTerms false
theorem e_prep : entryFor table "type.__prepare__" = some Builtin.«type.__prepare__» := entryFor_of_fast (by kernel_rfl)
theorem prep2_ok (w : World) (A : Around) (S : Deep A) (h : Heap) (g d tk os) (t : Tok) (T P : Addr) (Q : Value → Shared → Prop) (E : Value → Shared → Prop)
   (hP : h.get? P = some { cls := .type "builtin_function_or_method", data := .fields #[.builtin "type.__prepare__", .type "type"] })
   (h2 : h.get? 2 = some { cls := .none, data := .dict #[] 0 })
   (k : ∀ h' a tk', Keeps h h' → h.get? a = none → a ≠ 1 → h'.get? a = some { cls := .type "dict", data := .dict #[] 0 } → Q (.ref a) ⟨h', g, d, tk', os⟩) :
   wpAny (model PG w) A (PySem.call (.ref P) [.str ⟨#[75]⟩ t, .ref T]) Q E ⟨h, g, d, tk, os⟩ := by
  have D := Lg.start h
  refine wpAny_call (codeAny_of_tree ?_)
  show wpAny (model PG w) A.in1 (callAny (.ref P) ⟨[.str ⟨#[75]⟩ t, .ref T], []⟩) _ _ _
  refine WP.out (WP.noE fun EE => ?_)
  repeat (first | ((with_reducible apply p_nsLookB); (case B => assumption); (case e => first | exact bi_object | exact bi_bc)) | (first | (first | ((with_reducible apply p_execsH); intro QQ kQ) | ((with_reducible apply p_goS); (case H => assumption); clear kQ QQ) | ((with_reducible apply p_goR); (case H => assumption); clear kQ QQ)) | with_reducible apply p_sbind | with_reducible apply p_bind | with_reducible apply p_rule | with_reducible apply p_point | with_reducible apply p_pure | ((with_reducible apply p_load); (case ho => (first | assumption | exact Lg.base16 (by assumption) (by assumption) rfl | exact Lg.base16 (by assumption) ((by assumption : Old _ _).fr _ _ rfl rfl rfl) rfl | exact Lg.base0 (by assumption) (by assumption) | exact Lg.base0 (by assumption) ((by assumption : Old _ _).fr _ _ rfl rfl rfl) | exact Lg.hitE (by assumption) (by (repeat (first | exact List.Mem.head _ | refine List.Mem.tail _ ?_))) (by first | assumption | exact rfl))); (any_goals (try exact (Option.none : Option Value)))) | with_reducible apply p_freshK | with_reducible apply p_fresh | with_reducible apply p_at | with_reducible apply p_ask | ((with_reducible apply p_allocFnG); (case L => assumption); intro _ _ _ _ _) | ((with_reducible apply p_allocG); (case L => assumption); (case e => (conv => lhs; reduce); try exact rfl); (case hf => exact rfl); intro _ _ _ _ _) | ((with_reducible apply p_updateFG); (case L => assumption); (case U => intro q'; (repeat (first | (apply SetAt.here; exact rfl) | apply SetAt.there))); (case e1 => first | assumption | exact rfl); (case e => (conv => lhs; reduce); try exact rfl); (case hf => exact rfl); intro _ _ _ _) | ((with_reducible apply p_updateG); (case L => assumption); (case U => intro q'; (repeat (first | (apply SetAt.here; exact rfl) | apply SetAt.there))); (case e1 => first | assumption | exact rfl); (case e => rfl); (case hf => rfl); intro _ _ _ _)) | with_reducible apply p_holding | with_reducible apply p_try' | with_reducible apply p_try | with_reducible apply p_keep | with_reducible apply p_attempt | (first | with_reducible apply p_val c2 | with_reducible apply p_val c4 | with_reducible apply p_val c5 | with_reducible apply p_val c7 | with_reducible apply p_val c9 | with_reducible apply p_val l1 | with_reducible apply p_val l2 | with_reducible apply p_val l3 | with_reducible apply p_val l4 | with_reducible apply p_val l5 | with_reducible apply p_val sn_str | with_reducible apply p_val sn_int | with_reducible apply p_val sn_list | with_reducible apply p_val sn_function | with_reducible apply p_val sn_NoneType | with_reducible apply p_val sn_tuple | with_reducible apply p_val sn_mem | ((with_reducible apply p_enter); (case nl => exact noLimit (by (show Heap.get? _ _ = _); (first | assumption | exact Lg.base16 (by assumption) (by assumption) rfl | exact Lg.base16 (by assumption) ((by assumption : Old _ _).fr _ _ rfl rfl rfl) rfl | exact Lg.base0 (by assumption) (by assumption) | exact Lg.base0 (by assumption) ((by assumption : Old _ _).fr _ _ rfl rfl rfl) | exact Lg.hitE (by assumption) (by (repeat (first | exact List.Mem.head _ | refine List.Mem.tail _ ?_))) (by first | assumption | exact rfl)))); (case dp => first | exact Deep.lt (by assumption) | exact Deep2.lt (by assumption) (by first | exact Nat.le_add_right _ _ | (simp [Around.deeper, Around.mark]; try omega)))) | (with_reducible apply p_standAt) | ((with_reducible show WP _ _ (buildClass _ _ _ _ _ _ _ _ _ _ _) _ _ _); conv => arg 3; delta buildClass) | ((with_reducible show WP _ _ (List.mapM mkText (Scope.freeNames _)) _ _ _); first | refine' p_is (m' := List.mapM mkText []) (by kernel_rfl!) ?_ | refine' p_is (m' := List.mapM mkText [⟨#[109, 121, 99, 109, 112]⟩]) (by kernel_rfl!) ?_) | ((with_reducible show wpAny _ _ (runValue (Code.builtin "proto.collect" _)) _ _ _); refine' collect_ok ?S ?hSl ?_; (case S => assumption); (case hSl => (first | assumption | exact Lg.base16 (by assumption) (by assumption) rfl | exact Lg.base16 (by assumption) ((by assumption : Old _ _).fr _ _ rfl rfl rfl) rfl | exact Lg.base0 (by assumption) (by assumption) | exact Lg.base0 (by assumption) ((by assumption : Old _ _).fr _ _ rfl rfl rfl) | exact Lg.hitE (by assumption) (by (repeat (first | exact List.Mem.head _ | refine List.Mem.tail _ ?_))) (by first | assumption | exact rfl))); intro hC aC tkC kC nC eC; (have LC := Lg.add (by assumption) kC nC eC); clear kC nC eC) | ((with_reducible apply p_croom); (case hu => assumption))) | ((with_reducible apply p_slot); (case hi => kernel_rfl!)) | ((with_reducible apply p_iteB); (case hb => kernel_rfl!)) | ((with_reducible apply p_iteN); (case hb => kernel_rfl!)) | ((refine' p_see (Bx.mk ?_)); (first | (first | ((with_reducible apply p_execsH); intro QQ kQ) | ((with_reducible apply p_goS); (case H => assumption); clear kQ QQ) | ((with_reducible apply p_goR); (case H => assumption); clear kQ QQ)) | with_reducible apply p_sbind | with_reducible apply p_bind | with_reducible apply p_rule | with_reducible apply p_point | with_reducible apply p_pure | ((with_reducible apply p_load); (case ho => (first | assumption | exact Lg.base16 (by assumption) (by assumption) rfl | exact Lg.base16 (by assumption) ((by assumption : Old _ _).fr _ _ rfl rfl rfl) rfl | exact Lg.base0 (by assumption) (by assumption) | exact Lg.base0 (by assumption) ((by assumption : Old _ _).fr _ _ rfl rfl rfl) | exact Lg.hitE (by assumption) (by (repeat (first | exact List.Mem.head _ | refine List.Mem.tail _ ?_))) (by first | assumption | exact rfl))); (any_goals (try exact (Option.none : Option Value)))) | with_reducible apply p_freshK | with_reducible apply p_fresh | with_reducible apply p_at | with_reducible apply p_ask | ((with_reducible apply p_allocFnG); (case L => assumption); intro _ _ _ _ _) | ((with_reducible apply p_allocG); (case L => assumption); (case e => (conv => lhs; reduce); try exact rfl); (case hf => exact rfl); intro _ _ _ _ _) | ((with_reducible apply p_updateFG); (case L => assumption); (case U => intro q'; (repeat (first | (apply SetAt.here; exact rfl) | apply SetAt.there))); (case e1 => first | assumption | exact rfl); (case e => (conv => lhs; reduce); try exact rfl); (case hf => exact rfl); intro _ _ _ _) | ((with_reducible apply p_updateG); (case L => assumption); (case U => intro q'; (repeat (first | (apply SetAt.here; exact rfl) | apply SetAt.there))); (case e1 => first | assumption | exact rfl); (case e => rfl); (case hf => rfl); intro _ _ _ _))) | (apply p_sbind) | (apply p_bind))
  refine ⟨by kernel_rfl!, codeAny_builtin e_prep ?_⟩
  refine WP.out (WP.noE fun EE => ?_)
  delta Builtin.«type.__prepare__»
  refine p_bind (p_see (Bx.mk ?_))
  refine p_allocS rfl fun a h' ea kk nn ee => ?_
  repeat (first | ((with_reducible apply p_nsLookB); (case B => assumption); (case e => first | exact bi_object | exact bi_bc)) | (first | (first | ((with_reducible apply p_execsH); intro QQ kQ) | ((with_reducible apply p_goS); (case H => assumption); clear kQ QQ) | ((with_reducible apply p_goR); (case H => assumption); clear kQ QQ)) | with_reducible apply p_sbind | with_reducible apply p_bind | with_reducible apply p_rule | with_reducible apply p_point | with_reducible apply p_pure | ((with_reducible apply p_load); (case ho => (first | assumption | exact Lg.base16 (by assumption) (by assumption) rfl | exact Lg.base16 (by assumption) ((by assumption : Old _ _).fr _ _ rfl rfl rfl) rfl | exact Lg.base0 (by assumption) (by assumption) | exact Lg.base0 (by assumption) ((by assumption : Old _ _).fr _ _ rfl rfl rfl) | exact Lg.hitE (by assumption) (by (repeat (first | exact List.Mem.head _ | refine List.Mem.tail _ ?_))) (by first | assumption | exact rfl))); (any_goals (try exact (Option.none : Option Value)))) | with_reducible apply p_freshK | with_reducible apply p_fresh | with_reducible apply p_at | with_reducible apply p_ask | ((with_reducible apply p_allocFnG); (case L => assumption); intro _ _ _ _ _) | ((with_reducible apply p_allocG); (case L => assumption); (case e => (conv => lhs; reduce); try exact rfl); (case hf => exact rfl); intro _ _ _ _ _) | ((with_reducible apply p_updateFG); (case L => assumption); (case U => intro q'; (repeat (first | (apply SetAt.here; exact rfl) | apply SetAt.there))); (case e1 => first | assumption | exact rfl); (case e => (conv => lhs; reduce); try exact rfl); (case hf => exact rfl); intro _ _ _ _) | ((with_reducible apply p_updateG); (case L => assumption); (case U => intro q'; (repeat (first | (apply SetAt.here; exact rfl) | apply SetAt.there))); (case e1 => first | assumption | exact rfl); (case e => rfl); (case hf => rfl); intro _ _ _ _)) | with_reducible apply p_holding | with_reducible apply p_try' | with_reducible apply p_try | with_reducible apply p_keep | with_reducible apply p_attempt | (first | with_reducible apply p_val c2 | with_reducible apply p_val c4 | with_reducible apply p_val c5 | with_reducible apply p_val c7 | with_reducible apply p_val c9 | with_reducible apply p_val l1 | with_reducible apply p_val l2 | with_reducible apply p_val l3 | with_reducible apply p_val l4 | with_reducible apply p_val l5 | with_reducible apply p_val sn_str | with_reducible apply p_val sn_int | with_reducible apply p_val sn_list | with_reducible apply p_val sn_function | with_reducible apply p_val sn_NoneType | with_reducible apply p_val sn_tuple | with_reducible apply p_val sn_mem | ((with_reducible apply p_enter); (case nl => exact noLimit (by (show Heap.get? _ _ = _); (first | assumption | exact Lg.base16 (by assumption) (by assumption) rfl | exact Lg.base16 (by assumption) ((by assumption : Old _ _).fr _ _ rfl rfl rfl) rfl | exact Lg.base0 (by assumption) (by assumption) | exact Lg.base0 (by assumption) ((by assumption : Old _ _).fr _ _ rfl rfl rfl) | exact Lg.hitE (by assumption) (by (repeat (first | exact List.Mem.head _ | refine List.Mem.tail _ ?_))) (by first | assumption | exact rfl)))); (case dp => first | exact Deep.lt (by assumption) | exact Deep2.lt (by assumption) (by first | exact Nat.le_add_right _ _ | (simp [Around.deeper, Around.mark]; try omega)))) | (with_reducible apply p_standAt) | ((with_reducible show WP _ _ (buildClass _ _ _ _ _ _ _ _ _ _ _) _ _ _); conv => arg 3; delta buildClass) | ((with_reducible show WP _ _ (List.mapM mkText (Scope.freeNames _)) _ _ _); first | refine' p_is (m' := List.mapM mkText []) (by kernel_rfl!) ?_ | refine' p_is (m' := List.mapM mkText [⟨#[109, 121, 99, 109, 112]⟩]) (by kernel_rfl!) ?_) | ((with_reducible show wpAny _ _ (runValue (Code.builtin "proto.collect" _)) _ _ _); refine' collect_ok ?S ?hSl ?_; (case S => assumption); (case hSl => (first | assumption | exact Lg.base16 (by assumption) (by assumption) rfl | exact Lg.base16 (by assumption) ((by assumption : Old _ _).fr _ _ rfl rfl rfl) rfl | exact Lg.base0 (by assumption) (by assumption) | exact Lg.base0 (by assumption) ((by assumption : Old _ _).fr _ _ rfl rfl rfl) | exact Lg.hitE (by assumption) (by (repeat (first | exact List.Mem.head _ | refine List.Mem.tail _ ?_))) (by first | assumption | exact rfl))); intro hC aC tkC kC nC eC; (have LC := Lg.add (by assumption) kC nC eC); clear kC nC eC) | ((with_reducible apply p_croom); (case hu => assumption))) | ((with_reducible apply p_slot); (case hi => kernel_rfl!)) | ((with_reducible apply p_iteB); (case hb => kernel_rfl!)) | ((with_reducible apply p_iteN); (case hb => kernel_rfl!)) | ((refine' p_see (Bx.mk ?_)); (first | (first | ((with_reducible apply p_execsH); intro QQ kQ) | ((with_reducible apply p_goS); (case H => assumption); clear kQ QQ) | ((with_reducible apply p_goR); (case H => assumption); clear kQ QQ)) | with_reducible apply p_sbind | with_reducible apply p_bind | with_reducible apply p_rule | with_reducible apply p_point | with_reducible apply p_pure | ((with_reducible apply p_load); (case ho => (first | assumption | exact Lg.base16 (by assumption) (by assumption) rfl | exact Lg.base16 (by assumption) ((by assumption : Old _ _).fr _ _ rfl rfl rfl) rfl | exact Lg.base0 (by assumption) (by assumption) | exact Lg.base0 (by assumption) ((by assumption : Old _ _).fr _ _ rfl rfl rfl) | exact Lg.hitE (by assumption) (by (repeat (first | exact List.Mem.head _ | refine List.Mem.tail _ ?_))) (by first | assumption | exact rfl))); (any_goals (try exact (Option.none : Option Value)))) | with_reducible apply p_freshK | with_reducible apply p_fresh | with_reducible apply p_at | with_reducible apply p_ask | ((with_reducible apply p_allocFnG); (case L => assumption); intro _ _ _ _ _) | ((with_reducible apply p_allocG); (case L => assumption); (case e => (conv => lhs; reduce); try exact rfl); (case hf => exact rfl); intro _ _ _ _ _) | ((with_reducible apply p_updateFG); (case L => assumption); (case U => intro q'; (repeat (first | (apply SetAt.here; exact rfl) | apply SetAt.there))); (case e1 => first | assumption | exact rfl); (case e => (conv => lhs; reduce); try exact rfl); (case hf => exact rfl); intro _ _ _ _) | ((with_reducible apply p_updateG); (case L => assumption); (case U => intro q'; (repeat (first | (apply SetAt.here; exact rfl) | apply SetAt.there))); (case e1 => first | assumption | exact rfl); (case e => rfl); (case hf => rfl); intro _ _ _ _))) | (apply p_sbind) | (apply p_bind))
  refine k h' a _ kk nn ?_ ee
  rintro rfl
  have z := Heap.lt_size h2
  rw [← ea] at z
  exact absurd z (by decide)
theorem ck_first (w : World) (A : Around) (S : Deep3 A) (h₀ : Heap) (KR : Old w h₀) (z16 : h₀.get? 16 = some { cls := .none, data := .fields #[] }) (g d tk os) (v : Value) (Q : Value → Shared → Prop) (E : Value → Shared → Prop)
   (KQ : ∀ h' T K tk', KeepsT h₀ h' → (∀ a ∈ K.as, h₀.get? a = none) → (∀ a ∈ T.as, h₀.get? a = none) → TabOK w h' T → KOK w h' T K v → Q (.ref K.C) ⟨h', g, d, tk', os⟩) :
   wpAny (model PG w) A (PySem.call (.ref 21) [v]) Q E ⟨h₀, g, d, tk, os⟩ := by
  have S0 := S.deep2
  have D := Lg.start1 z16
  clear z16
  obtain ⟨sl4, h4⟩ := KR.m4
  obtain ⟨o0, h0, B0⟩ := KR.bo
  have h2 := KR.fr 2 _ rfl rfl rfl
  have h21 := KR.fr 21 _ rfl rfl rfl
  have h20 := KR.fr 20 _ rfl rfl rfl
  have h3 := KR.fr 3 _ rfl rfl rfl
  refine wpAny_call (codeAny_of_tree ?_)
  show wpAny (model PG w) A.in1 (callAny (.ref 21) ⟨[v], []⟩) _ _ _
  refine WP.out (WP.noE fun EE => ?_)
  repeat (first | ((with_reducible apply p_nsLookB); (case B => assumption); (case e => first | exact bi_object | exact bi_bc)) | (first | (first | ((with_reducible apply p_execsH); intro QQ kQ) | ((with_reducible apply p_goS); (case H => assumption); clear kQ QQ) | ((with_reducible apply p_goR); (case H => assumption); clear kQ QQ)) | with_reducible apply p_sbind | with_reducible apply p_bind | with_reducible apply p_rule | with_reducible apply p_point | with_reducible apply p_pure | ((with_reducible apply p_load); (case ho => (first | assumption | exact Lg.base16 (by assumption) (by assumption) rfl | exact Lg.base16 (by assumption) ((by assumption : Old _ _).fr _ _ rfl rfl rfl) rfl | exact Lg.base0 (by assumption) (by assumption) | exact Lg.base0 (by assumption) ((by assumption : Old _ _).fr _ _ rfl rfl rfl) | exact Lg.hitE (by assumption) (by (repeat (first | exact List.Mem.head _ | refine List.Mem.tail _ ?_))) (by first | assumption | exact rfl))); (any_goals (try exact (Option.none : Option Value)))) | with_reducible apply p_freshK | with_reducible apply p_fresh | with_reducible apply p_at | with_reducible apply p_ask | ((with_reducible apply p_allocFnG); (case L => assumption); intro _ _ _ _ _) | ((with_reducible apply p_allocG); (case L => assumption); (case e => (conv => lhs; reduce); try exact rfl); (case hf => exact rfl); intro _ _ _ _ _) | ((with_reducible apply p_updateFG); (case L => assumption); (case U => intro q'; (repeat (first | (apply SetAt.here; exact rfl) | apply SetAt.there))); (case e1 => first | assumption | exact rfl); (case e => (conv => lhs; reduce); try exact rfl); (case hf => exact rfl); intro _ _ _ _) | ((with_reducible apply p_updateG); (case L => assumption); (case U => intro q'; (repeat (first | (apply SetAt.here; exact rfl) | apply SetAt.there))); (case e1 => first | assumption | exact rfl); (case e => rfl); (case hf => rfl); intro _ _ _ _)) | with_reducible apply p_holding | with_reducible apply p_try' | with_reducible apply p_try | with_reducible apply p_keep | with_reducible apply p_attempt | (first | with_reducible apply p_val c2 | with_reducible apply p_val c4 | with_reducible apply p_val c5 | with_reducible apply p_val c7 | with_reducible apply p_val c9 | with_reducible apply p_val l1 | with_reducible apply p_val l2 | with_reducible apply p_val l3 | with_reducible apply p_val l4 | with_reducible apply p_val l5 | with_reducible apply p_val sn_str | with_reducible apply p_val sn_int | with_reducible apply p_val sn_list | with_reducible apply p_val sn_function | with_reducible apply p_val sn_NoneType | with_reducible apply p_val sn_tuple | with_reducible apply p_val sn_mem | ((with_reducible apply p_enter); (case nl => exact noLimit (by (show Heap.get? _ _ = _); (first | assumption | exact Lg.base16 (by assumption) (by assumption) rfl | exact Lg.base16 (by assumption) ((by assumption : Old _ _).fr _ _ rfl rfl rfl) rfl | exact Lg.base0 (by assumption) (by assumption) | exact Lg.base0 (by assumption) ((by assumption : Old _ _).fr _ _ rfl rfl rfl) | exact Lg.hitE (by assumption) (by (repeat (first | exact List.Mem.head _ | refine List.Mem.tail _ ?_))) (by first | assumption | exact rfl)))); (case dp => first | exact Deep.lt (by assumption) | exact Deep2.lt (by assumption) (by first | exact Nat.le_add_right _ _ | (simp [Around.deeper, Around.mark]; try omega)))) | (with_reducible apply p_standAt) | ((with_reducible show WP _ _ (buildClass _ _ _ _ _ _ _ _ _ _ _) _ _ _); conv => arg 3; delta buildClass) | ((with_reducible show WP _ _ (List.mapM mkText (Scope.freeNames _)) _ _ _); first | refine' p_is (m' := List.mapM mkText []) (by kernel_rfl!) ?_ | refine' p_is (m' := List.mapM mkText [⟨#[109, 121, 99, 109, 112]⟩]) (by kernel_rfl!) ?_) | ((with_reducible show wpAny _ _ (runValue (Code.builtin "proto.collect" _)) _ _ _); refine' collect_ok ?S ?hSl ?_; (case S => assumption); (case hSl => (first | assumption | exact Lg.base16 (by assumption) (by assumption) rfl | exact Lg.base16 (by assumption) ((by assumption : Old _ _).fr _ _ rfl rfl rfl) rfl | exact Lg.base0 (by assumption) (by assumption) | exact Lg.base0 (by assumption) ((by assumption : Old _ _).fr _ _ rfl rfl rfl) | exact Lg.hitE (by assumption) (by (repeat (first | exact List.Mem.head _ | refine List.Mem.tail _ ?_))) (by first | assumption | exact rfl))); intro hC aC tkC kC nC eC; (have LC := Lg.add (by assumption) kC nC eC); clear kC nC eC) | ((with_reducible apply p_croom); (case hu => assumption))) | ((with_reducible apply p_slot); (case hi => kernel_rfl!)) | ((with_reducible apply p_iteB); (case hb => kernel_rfl!)) | ((with_reducible apply p_iteN); (case hb => kernel_rfl!)) | ((refine' p_see (Bx.mk ?_)); (first | (first | ((with_reducible apply p_execsH); intro QQ kQ) | ((with_reducible apply p_goS); (case H => assumption); clear kQ QQ) | ((with_reducible apply p_goR); (case H => assumption); clear kQ QQ)) | with_reducible apply p_sbind | with_reducible apply p_bind | with_reducible apply p_rule | with_reducible apply p_point | with_reducible apply p_pure | ((with_reducible apply p_load); (case ho => (first | assumption | exact Lg.base16 (by assumption) (by assumption) rfl | exact Lg.base16 (by assumption) ((by assumption : Old _ _).fr _ _ rfl rfl rfl) rfl | exact Lg.base0 (by assumption) (by assumption) | exact Lg.base0 (by assumption) ((by assumption : Old _ _).fr _ _ rfl rfl rfl) | exact Lg.hitE (by assumption) (by (repeat (first | exact List.Mem.head _ | refine List.Mem.tail _ ?_))) (by first | assumption | exact rfl))); (any_goals (try exact (Option.none : Option Value)))) | with_reducible apply p_freshK | with_reducible apply p_fresh | with_reducible apply p_at | with_reducible apply p_ask | ((with_reducible apply p_allocFnG); (case L => assumption); intro _ _ _ _ _) | ((with_reducible apply p_allocG); (case L => assumption); (case e => (conv => lhs; reduce); try exact rfl); (case hf => exact rfl); intro _ _ _ _ _) | ((with_reducible apply p_updateFG); (case L => assumption); (case U => intro q'; (repeat (first | (apply SetAt.here; exact rfl) | apply SetAt.there))); (case e1 => first | assumption | exact rfl); (case e => (conv => lhs; reduce); try exact rfl); (case hf => exact rfl); intro _ _ _ _) | ((with_reducible apply p_updateG); (case L => assumption); (case U => intro q'; (repeat (first | (apply SetAt.here; exact rfl) | apply SetAt.there))); (case e1 => first | assumption | exact rfl); (case e => rfl); (case hf => rfl); intro _ _ _ _))) | (apply p_sbind) | (apply p_bind))
  rename_i fr0 hf0 oohf0 EEhf0 Df0 cell hc0 oohc0 EEhc0 Dc0 hu0 oohu0 EEhu0 Du0
  refine ⟨rfl, codeAny_func ?_⟩
  refine WP.out (WP.noE fun EE => ?_)
  generalize hA : A.deeper _ = A1
  have S1' : Deep2 A1 := hA ▸ Deep3.deeper S _
  have S1 := S1'.deep
  clear hA
  refine p_env ?_
  repeat (first | ((with_reducible apply p_nsLookB); (case B => assumption); (case e => first | exact bi_object | exact bi_bc)) | (first | (first | ((with_reducible apply p_execsH); intro QQ kQ) | ((with_reducible apply p_goS); (case H => assumption); clear kQ QQ) | ((with_reducible apply p_goR); (case H => assumption); clear kQ QQ)) | with_reducible apply p_sbind | with_reducible apply p_bind | with_reducible apply p_rule | with_reducible apply p_point | with_reducible apply p_pure | ((with_reducible apply p_load); (case ho => (first | assumption | exact Lg.base16 (by assumption) (by assumption) rfl | exact Lg.base16 (by assumption) ((by assumption : Old _ _).fr _ _ rfl rfl rfl) rfl | exact Lg.base0 (by assumption) (by assumption) | exact Lg.base0 (by assumption) ((by assumption : Old _ _).fr _ _ rfl rfl rfl) | exact Lg.hitE (by assumption) (by (repeat (first | exact List.Mem.head _ | refine List.Mem.tail _ ?_))) (by first | assumption | exact rfl))); (any_goals (try exact (Option.none : Option Value)))) | with_reducible apply p_freshK | with_reducible apply p_fresh | with_reducible apply p_at | with_reducible apply p_ask | ((with_reducible apply p_allocFnG); (case L => assumption); intro _ _ _ _ _) | ((with_reducible apply p_allocG); (case L => assumption); (case e => (conv => lhs; reduce); try exact rfl); (case hf => exact rfl); intro _ _ _ _ _) | ((with_reducible apply p_updateFG); (case L => assumption); (case U => intro q'; (repeat (first | (apply SetAt.here; exact rfl) | apply SetAt.there))); (case e1 => first | assumption | exact rfl); (case e => (conv => lhs; reduce); try exact rfl); (case hf => exact rfl); intro _ _ _ _) | ((with_reducible apply p_updateG); (case L => assumption); (case U => intro q'; (repeat (first | (apply SetAt.here; exact rfl) | apply SetAt.there))); (case e1 => first | assumption | exact rfl); (case e => rfl); (case hf => rfl); intro _ _ _ _)) | with_reducible apply p_holding | with_reducible apply p_try' | with_reducible apply p_try | with_reducible apply p_keep | with_reducible apply p_attempt | (first | with_reducible apply p_val c2 | with_reducible apply p_val c4 | with_reducible apply p_val c5 | with_reducible apply p_val c7 | with_reducible apply p_val c9 | with_reducible apply p_val l1 | with_reducible apply p_val l2 | with_reducible apply p_val l3 | with_reducible apply p_val l4 | with_reducible apply p_val l5 | with_reducible apply p_val sn_str | with_reducible apply p_val sn_int | with_reducible apply p_val sn_list | with_reducible apply p_val sn_function | with_reducible apply p_val sn_NoneType | with_reducible apply p_val sn_tuple | with_reducible apply p_val sn_mem | ((with_reducible apply p_enter); (case nl => exact noLimit (by (show Heap.get? _ _ = _); (first | assumption | exact Lg.base16 (by assumption) (by assumption) rfl | exact Lg.base16 (by assumption) ((by assumption : Old _ _).fr _ _ rfl rfl rfl) rfl | exact Lg.base0 (by assumption) (by assumption) | exact Lg.base0 (by assumption) ((by assumption : Old _ _).fr _ _ rfl rfl rfl) | exact Lg.hitE (by assumption) (by (repeat (first | exact List.Mem.head _ | refine List.Mem.tail _ ?_))) (by first | assumption | exact rfl)))); (case dp => first | exact Deep.lt (by assumption) | exact Deep2.lt (by assumption) (by first | exact Nat.le_add_right _ _ | (simp [Around.deeper, Around.mark]; try omega)))) | (with_reducible apply p_standAt) | ((with_reducible show WP _ _ (buildClass _ _ _ _ _ _ _ _ _ _ _) _ _ _); conv => arg 3; delta buildClass) | ((with_reducible show WP _ _ (List.mapM mkText (Scope.freeNames _)) _ _ _); first | refine' p_is (m' := List.mapM mkText []) (by kernel_rfl!) ?_ | refine' p_is (m' := List.mapM mkText [⟨#[109, 121, 99, 109, 112]⟩]) (by kernel_rfl!) ?_) | ((with_reducible show wpAny _ _ (runValue (Code.builtin "proto.collect" _)) _ _ _); refine' collect_ok ?S ?hSl ?_; (case S => assumption); (case hSl => (first | assumption | exact Lg.base16 (by assumption) (by assumption) rfl | exact Lg.base16 (by assumption) ((by assumption : Old _ _).fr _ _ rfl rfl rfl) rfl | exact Lg.base0 (by assumption) (by assumption) | exact Lg.base0 (by assumption) ((by assumption : Old _ _).fr _ _ rfl rfl rfl) | exact Lg.hitE (by assumption) (by (repeat (first | exact List.Mem.head _ | refine List.Mem.tail _ ?_))) (by first | assumption | exact rfl))); intro hC aC tkC kC nC eC; (have LC := Lg.add (by assumption) kC nC eC); clear kC nC eC) | ((with_reducible apply p_croom); (case hu => assumption))) | ((with_reducible apply p_slot); (case hi => kernel_rfl!)) | ((with_reducible apply p_iteB); (case hb => kernel_rfl!)) | ((with_reducible apply p_iteN); (case hb => kernel_rfl!)) | ((refine' p_see (Bx.mk ?_)); (first | (first | ((with_reducible apply p_execsH); intro QQ kQ) | ((with_reducible apply p_goS); (case H => assumption); clear kQ QQ) | ((with_reducible apply p_goR); (case H => assumption); clear kQ QQ)) | with_reducible apply p_sbind | with_reducible apply p_bind | with_reducible apply p_rule | with_reducible apply p_point | with_reducible apply p_pure | ((with_reducible apply p_load); (case ho => (first | assumption | exact Lg.base16 (by assumption) (by assumption) rfl | exact Lg.base16 (by assumption) ((by assumption : Old _ _).fr _ _ rfl rfl rfl) rfl | exact Lg.base0 (by assumption) (by assumption) | exact Lg.base0 (by assumption) ((by assumption : Old _ _).fr _ _ rfl rfl rfl) | exact Lg.hitE (by assumption) (by (repeat (first | exact List.Mem.head _ | refine List.Mem.tail _ ?_))) (by first | assumption | exact rfl))); (any_goals (try exact (Option.none : Option Value)))) | with_reducible apply p_freshK | with_reducible apply p_fresh | with_reducible apply p_at | with_reducible apply p_ask | ((with_reducible apply p_allocFnG); (case L => assumption); intro _ _ _ _ _) | ((with_reducible apply p_allocG); (case L => assumption); (case e => (conv => lhs; reduce); try exact rfl); (case hf => exact rfl); intro _ _ _ _ _) | ((with_reducible apply p_updateFG); (case L => assumption); (case U => intro q'; (repeat (first | (apply SetAt.here; exact rfl) | apply SetAt.there))); (case e1 => first | assumption | exact rfl); (case e => (conv => lhs; reduce); try exact rfl); (case hf => exact rfl); intro _ _ _ _) | ((with_reducible apply p_updateG); (case L => assumption); (case U => intro q'; (repeat (first | (apply SetAt.here; exact rfl) | apply SetAt.there))); (case e1 => first | assumption | exact rfl); (case e => rfl); (case hf => rfl); intro _ _ _ _))) | (apply p_sbind) | (apply p_bind))
  rename_i aB hB oohB EEhB DB
  refine' p_is (m' := run (.call (.builtin "type.__getattribute__") ⟨[.type "type", .str ⟨#[95, 95, 112, 114, 101, 112, 97, 114, 101, 95, 95]⟩ (tk + 1)], []⟩)) (by kernel_rfl!) ?_
  refine' WP.mk (run_of_call (wpAny_sh (Deep.sh S1) (prep_ok0 _ _ _ _ _ ?_)))
  intro h4 aP t4 k4 n4 e4
  have L4 := Lg.add (by assumption) k4 n4 e4
  clear k4 n4 e4
  repeat (first | ((with_reducible apply p_nsLookB); (case B => assumption); (case e => first | exact bi_object | exact bi_bc)) | (first | (first | ((with_reducible apply p_execsH); intro QQ kQ) | ((with_reducible apply p_goS); (case H => assumption); clear kQ QQ) | ((with_reducible apply p_goR); (case H => assumption); clear kQ QQ)) | with_reducible apply p_sbind | with_reducible apply p_bind | with_reducible apply p_rule | with_reducible apply p_point | with_reducible apply p_pure | ((with_reducible apply p_load); (case ho => (first | assumption | exact Lg.base16 (by assumption) (by assumption) rfl | exact Lg.base16 (by assumption) ((by assumption : Old _ _).fr _ _ rfl rfl rfl) rfl | exact Lg.base0 (by assumption) (by assumption) | exact Lg.base0 (by assumption) ((by assumption : Old _ _).fr _ _ rfl rfl rfl) | exact Lg.hitE (by assumption) (by (repeat (first | exact List.Mem.head _ | refine List.Mem.tail _ ?_))) (by first | assumption | exact rfl))); (any_goals (try exact (Option.none : Option Value)))) | with_reducible apply p_freshK | with_reducible apply p_fresh | with_reducible apply p_at | with_reducible apply p_ask | ((with_reducible apply p_allocFnG); (case L => assumption); intro _ _ _ _ _) | ((with_reducible apply p_allocG); (case L => assumption); (case e => (conv => lhs; reduce); try exact rfl); (case hf => exact rfl); intro _ _ _ _ _) | ((with_reducible apply p_updateFG); (case L => assumption); (case U => intro q'; (repeat (first | (apply SetAt.here; exact rfl) | apply SetAt.there))); (case e1 => first | assumption | exact rfl); (case e => (conv => lhs; reduce); try exact rfl); (case hf => exact rfl); intro _ _ _ _) | ((with_reducible apply p_updateG); (case L => assumption); (case U => intro q'; (repeat (first | (apply SetAt.here; exact rfl) | apply SetAt.there))); (case e1 => first | assumption | exact rfl); (case e => rfl); (case hf => rfl); intro _ _ _ _)) | with_reducible apply p_holding | with_reducible apply p_try' | with_reducible apply p_try | with_reducible apply p_keep | with_reducible apply p_attempt | (first | with_reducible apply p_val c2 | with_reducible apply p_val c4 | with_reducible apply p_val c5 | with_reducible apply p_val c7 | with_reducible apply p_val c9 | with_reducible apply p_val l1 | with_reducible apply p_val l2 | with_reducible apply p_val l3 | with_reducible apply p_val l4 | with_reducible apply p_val l5 | with_reducible apply p_val sn_str | with_reducible apply p_val sn_int | with_reducible apply p_val sn_list | with_reducible apply p_val sn_function | with_reducible apply p_val sn_NoneType | with_reducible apply p_val sn_tuple | with_reducible apply p_val sn_mem | ((with_reducible apply p_enter); (case nl => exact noLimit (by (show Heap.get? _ _ = _); (first | assumption | exact Lg.base16 (by assumption) (by assumption) rfl | exact Lg.base16 (by assumption) ((by assumption : Old _ _).fr _ _ rfl rfl rfl) rfl | exact Lg.base0 (by assumption) (by assumption) | exact Lg.base0 (by assumption) ((by assumption : Old _ _).fr _ _ rfl rfl rfl) | exact Lg.hitE (by assumption) (by (repeat (first | exact List.Mem.head _ | refine List.Mem.tail _ ?_))) (by first | assumption | exact rfl)))); (case dp => first | exact Deep.lt (by assumption) | exact Deep2.lt (by assumption) (by first | exact Nat.le_add_right _ _ | (simp [Around.deeper, Around.mark]; try omega)))) | (with_reducible apply p_standAt) | ((with_reducible show WP _ _ (buildClass _ _ _ _ _ _ _ _ _ _ _) _ _ _); conv => arg 3; delta buildClass) | ((with_reducible show WP _ _ (List.mapM mkText (Scope.freeNames _)) _ _ _); first | refine' p_is (m' := List.mapM mkText []) (by kernel_rfl!) ?_ | refine' p_is (m' := List.mapM mkText [⟨#[109, 121, 99, 109, 112]⟩]) (by kernel_rfl!) ?_) | ((with_reducible show wpAny _ _ (runValue (Code.builtin "proto.collect" _)) _ _ _); refine' collect_ok ?S ?hSl ?_; (case S => assumption); (case hSl => (first | assumption | exact Lg.base16 (by assumption) (by assumption) rfl | exact Lg.base16 (by assumption) ((by assumption : Old _ _).fr _ _ rfl rfl rfl) rfl | exact Lg.base0 (by assumption) (by assumption) | exact Lg.base0 (by assumption) ((by assumption : Old _ _).fr _ _ rfl rfl rfl) | exact Lg.hitE (by assumption) (by (repeat (first | exact List.Mem.head _ | refine List.Mem.tail _ ?_))) (by first | assumption | exact rfl))); intro hC aC tkC kC nC eC; (have LC := Lg.add (by assumption) kC nC eC); clear kC nC eC) | ((with_reducible apply p_croom); (case hu => assumption))) | ((with_reducible apply p_slot); (case hi => kernel_rfl!)) | ((with_reducible apply p_iteB); (case hb => kernel_rfl!)) | ((with_reducible apply p_iteN); (case hb => kernel_rfl!)) | ((refine' p_see (Bx.mk ?_)); (first | (first | ((with_reducible apply p_execsH); intro QQ kQ) | ((with_reducible apply p_goS); (case H => assumption); clear kQ QQ) | ((with_reducible apply p_goR); (case H => assumption); clear kQ QQ)) | with_reducible apply p_sbind | with_reducible apply p_bind | with_reducible apply p_rule | with_reducible apply p_point | with_reducible apply p_pure | ((with_reducible apply p_load); (case ho => (first | assumption | exact Lg.base16 (by assumption) (by assumption) rfl | exact Lg.base16 (by assumption) ((by assumption : Old _ _).fr _ _ rfl rfl rfl) rfl | exact Lg.base0 (by assumption) (by assumption) | exact Lg.base0 (by assumption) ((by assumption : Old _ _).fr _ _ rfl rfl rfl) | exact Lg.hitE (by assumption) (by (repeat (first | exact List.Mem.head _ | refine List.Mem.tail _ ?_))) (by first | assumption | exact rfl))); (any_goals (try exact (Option.none : Option Value)))) | with_reducible apply p_freshK | with_reducible apply p_fresh | with_reducible apply p_at | with_reducible apply p_ask | ((with_reducible apply p_allocFnG); (case L => assumption); intro _ _ _ _ _) | ((with_reducible apply p_allocG); (case L => assumption); (case e => (conv => lhs; reduce); try exact rfl); (case hf => exact rfl); intro _ _ _ _ _) | ((with_reducible apply p_updateFG); (case L => assumption); (case U => intro q'; (repeat (first | (apply SetAt.here; exact rfl) | apply SetAt.there))); (case e1 => first | assumption | exact rfl); (case e => (conv => lhs; reduce); try exact rfl); (case hf => exact rfl); intro _ _ _ _) | ((with_reducible apply p_updateG); (case L => assumption); (case U => intro q'; (repeat (first | (apply SetAt.here; exact rfl) | apply SetAt.there))); (case e1 => first | assumption | exact rfl); (case e => rfl); (case hf => rfl); intro _ _ _ _))) | (apply p_sbind) | (apply p_bind))
  refine' p_is (m' := run (.call (.ref aP) ⟨[.str ⟨#[75]⟩ tk, .ref aB], []⟩)) (by kernel_rfl!) ?_
  refine' WP.mk (run_of_call (prep2_ok w _ ?hS _ _ _ _ _ _ _ _ _ _ ?hP ?hZ ?_))
  case hS => exact S1
  case hZ => (first | assumption | exact Lg.base16 (by assumption) (by assumption) rfl | exact Lg.base16 (by assumption) ((by assumption : Old _ _).fr _ _ rfl rfl rfl) rfl | exact Lg.base0 (by assumption) (by assumption) | exact Lg.base0 (by assumption) ((by assumption : Old _ _).fr _ _ rfl rfl rfl) | exact Lg.hitE (by assumption) (by (repeat (first | exact List.Mem.head _ | refine List.Mem.tail _ ?_))) (by first | assumption | exact rfl))
  case hP => (first | assumption | exact Lg.base16 (by assumption) (by assumption) rfl | exact Lg.base16 (by assumption) ((by assumption : Old _ _).fr _ _ rfl rfl rfl) rfl | exact Lg.base0 (by assumption) (by assumption) | exact Lg.base0 (by assumption) ((by assumption : Old _ _).fr _ _ rfl rfl rfl) | exact Lg.hitE (by assumption) (by (repeat (first | exact List.Mem.head _ | refine List.Mem.tail _ ?_))) (by first | assumption | exact rfl))
  intro h5 aN t5 k5 n5 hne e5
  have L5 := Lg.add (by assumption) k5 n5 e5
  clear k5 n5 e5
  repeat (first | ((with_reducible apply p_nsLookB); (case B => assumption); (case e => first | exact bi_object | exact bi_bc)) | (first | (first | ((with_reducible apply p_execsH); intro QQ kQ) | ((with_reducible apply p_goS); (case H => assumption); clear kQ QQ) | ((with_reducible apply p_goR); (case H => assumption); clear kQ QQ)) | with_reducible apply p_sbind | with_reducible apply p_bind | with_reducible apply p_rule | with_reducible apply p_point | with_reducible apply p_pure | ((with_reducible apply p_load); (case ho => (first | assumption | exact Lg.base16 (by assumption) (by assumption) rfl | exact Lg.base16 (by assumption) ((by assumption : Old _ _).fr _ _ rfl rfl rfl) rfl | exact Lg.base0 (by assumption) (by assumption) | exact Lg.base0 (by assumption) ((by assumption : Old _ _).fr _ _ rfl rfl rfl) | exact Lg.hitE (by assumption) (by (repeat (first | exact List.Mem.head _ | refine List.Mem.tail _ ?_))) (by first | assumption | exact rfl))); (any_goals (try exact (Option.none : Option Value)))) | with_reducible apply p_freshK | with_reducible apply p_fresh | with_reducible apply p_at | with_reducible apply p_ask | ((with_reducible apply p_allocFnG); (case L => assumption); intro _ _ _ _ _) | ((with_reducible apply p_allocG); (case L => assumption); (case e => (conv => lhs; reduce); try exact rfl); (case hf => exact rfl); intro _ _ _ _ _) | ((with_reducible apply p_updateFG); (case L => assumption); (case U => intro q'; (repeat (first | (apply SetAt.here; exact rfl) | apply SetAt.there))); (case e1 => first | assumption | exact rfl); (case e => (conv => lhs; reduce); try exact rfl); (case hf => exact rfl); intro _ _ _ _) | ((with_reducible apply p_updateG); (case L => assumption); (case U => intro q'; (repeat (first | (apply SetAt.here; exact rfl) | apply SetAt.there))); (case e1 => first | assumption | exact rfl); (case e => rfl); (case hf => rfl); intro _ _ _ _)) | with_reducible apply p_holding | with_reducible apply p_try' | with_reducible apply p_try | with_reducible apply p_keep | with_reducible apply p_attempt | (first | with_reducible apply p_val c2 | with_reducible apply p_val c4 | with_reducible apply p_val c5 | with_reducible apply p_val c7 | with_reducible apply p_val c9 | with_reducible apply p_val l1 | with_reducible apply p_val l2 | with_reducible apply p_val l3 | with_reducible apply p_val l4 | with_reducible apply p_val l5 | with_reducible apply p_val sn_str | with_reducible apply p_val sn_int | with_reducible apply p_val sn_list | with_reducible apply p_val sn_function | with_reducible apply p_val sn_NoneType | with_reducible apply p_val sn_tuple | with_reducible apply p_val sn_mem | ((with_reducible apply p_enter); (case nl => exact noLimit (by (show Heap.get? _ _ = _); (first | assumption | exact Lg.base16 (by assumption) (by assumption) rfl | exact Lg.base16 (by assumption) ((by assumption : Old _ _).fr _ _ rfl rfl rfl) rfl | exact Lg.base0 (by assumption) (by assumption) | exact Lg.base0 (by assumption) ((by assumption : Old _ _).fr _ _ rfl rfl rfl) | exact Lg.hitE (by assumption) (by (repeat (first | exact List.Mem.head _ | refine List.Mem.tail _ ?_))) (by first | assumption | exact rfl)))); (case dp => first | exact Deep.lt (by assumption) | exact Deep2.lt (by assumption) (by first | exact Nat.le_add_right _ _ | (simp [Around.deeper, Around.mark]; try omega)))) | (with_reducible apply p_standAt) | ((with_reducible show WP _ _ (buildClass _ _ _ _ _ _ _ _ _ _ _) _ _ _); conv => arg 3; delta buildClass) | ((with_reducible show WP _ _ (List.mapM mkText (Scope.freeNames _)) _ _ _); first | refine' p_is (m' := List.mapM mkText []) (by kernel_rfl!) ?_ | refine' p_is (m' := List.mapM mkText [⟨#[109, 121, 99, 109, 112]⟩]) (by kernel_rfl!) ?_) | ((with_reducible show wpAny _ _ (runValue (Code.builtin "proto.collect" _)) _ _ _); refine' collect_ok ?S ?hSl ?_; (case S => assumption); (case hSl => (first | assumption | exact Lg.base16 (by assumption) (by assumption) rfl | exact Lg.base16 (by assumption) ((by assumption : Old _ _).fr _ _ rfl rfl rfl) rfl | exact Lg.base0 (by assumption) (by assumption) | exact Lg.base0 (by assumption) ((by assumption : Old _ _).fr _ _ rfl rfl rfl) | exact Lg.hitE (by assumption) (by (repeat (first | exact List.Mem.head _ | refine List.Mem.tail _ ?_))) (by first | assumption | exact rfl))); intro hC aC tkC kC nC eC; (have LC := Lg.add (by assumption) kC nC eC); clear kC nC eC) | ((with_reducible apply p_croom); (case hu => assumption))) | ((with_reducible apply p_slot); (case hi => kernel_rfl!)) | ((with_reducible apply p_iteB); (case hb => kernel_rfl!)) | ((with_reducible apply p_iteN); (case hb => kernel_rfl!)) | ((refine' p_see (Bx.mk ?_)); (first | (first | ((with_reducible apply p_execsH); intro QQ kQ) | ((with_reducible apply p_goS); (case H => assumption); clear kQ QQ) | ((with_reducible apply p_goR); (case H => assumption); clear kQ QQ)) | with_reducible apply p_sbind | with_reducible apply p_bind | with_reducible apply p_rule | with_reducible apply p_point | with_reducible apply p_pure | ((with_reducible apply p_load); (case ho => (first | assumption | exact Lg.base16 (by assumption) (by assumption) rfl | exact Lg.base16 (by assumption) ((by assumption : Old _ _).fr _ _ rfl rfl rfl) rfl | exact Lg.base0 (by assumption) (by assumption) | exact Lg.base0 (by assumption) ((by assumption : Old _ _).fr _ _ rfl rfl rfl) | exact Lg.hitE (by assumption) (by (repeat (first | exact List.Mem.head _ | refine List.Mem.tail _ ?_))) (by first | assumption | exact rfl))); (any_goals (try exact (Option.none : Option Value)))) | with_reducible apply p_freshK | with_reducible apply p_fresh | with_reducible apply p_at | with_reducible apply p_ask | ((with_reducible apply p_allocFnG); (case L => assumption); intro _ _ _ _ _) | ((with_reducible apply p_allocG); (case L => assumption); (case e => (conv => lhs; reduce); try exact rfl); (case hf => exact rfl); intro _ _ _ _ _) | ((with_reducible apply p_updateFG); (case L => assumption); (case U => intro q'; (repeat (first | (apply SetAt.here; exact rfl) | apply SetAt.there))); (case e1 => first | assumption | exact rfl); (case e => (conv => lhs; reduce); try exact rfl); (case hf => exact rfl); intro _ _ _ _) | ((with_reducible apply p_updateG); (case L => assumption); (case U => intro q'; (repeat (first | (apply SetAt.here; exact rfl) | apply SetAt.there))); (case e1 => first | assumption | exact rfl); (case e => rfl); (case hf => rfl); intro _ _ _ _))) | (apply p_sbind) | (apply p_bind))
  refine WP.id' ?_
  conv => arg 3; delta notTheModulesDict
  refine' p_iteF ?hc ?_
  case hc => simp [sysModules, hne]
  repeat (first | ((with_reducible apply p_nsLookB); (case B => assumption); (case e => first | exact bi_object | exact bi_bc)) | (first | (first | ((with_reducible apply p_execsH); intro QQ kQ) | ((with_reducible apply p_goS); (case H => assumption); clear kQ QQ) | ((with_reducible apply p_goR); (case H => assumption); clear kQ QQ)) | with_reducible apply p_sbind | with_reducible apply p_bind | with_reducible apply p_rule | with_reducible apply p_point | with_reducible apply p_pure | ((with_reducible apply p_load); (case ho => (first | assumption | exact Lg.base16 (by assumption) (by assumption) rfl | exact Lg.base16 (by assumption) ((by assumption : Old _ _).fr _ _ rfl rfl rfl) rfl | exact Lg.base0 (by assumption) (by assumption) | exact Lg.base0 (by assumption) ((by assumption : Old _ _).fr _ _ rfl rfl rfl) | exact Lg.hitE (by assumption) (by (repeat (first | exact List.Mem.head _ | refine List.Mem.tail _ ?_))) (by first | assumption | exact rfl))); (any_goals (try exact (Option.none : Option Value)))) | with_reducible apply p_freshK | with_reducible apply p_fresh | with_reducible apply p_at | with_reducible apply p_ask | ((with_reducible apply p_allocFnG); (case L => assumption); intro _ _ _ _ _) | ((with_reducible apply p_allocG); (case L => assumption); (case e => (conv => lhs; reduce); try exact rfl); (case hf => exact rfl); intro _ _ _ _ _) | ((with_reducible apply p_updateFG); (case L => assumption); (case U => intro q'; (repeat (first | (apply SetAt.here; exact rfl) | apply SetAt.there))); (case e1 => first | assumption | exact rfl); (case e => (conv => lhs; reduce); try exact rfl); (case hf => exact rfl); intro _ _ _ _) | ((with_reducible apply p_updateG); (case L => assumption); (case U => intro q'; (repeat (first | (apply SetAt.here; exact rfl) | apply SetAt.there))); (case e1 => first | assumption | exact rfl); (case e => rfl); (case hf => rfl); intro _ _ _ _)) | with_reducible apply p_holding | with_reducible apply p_try' | with_reducible apply p_try | with_reducible apply p_keep | with_reducible apply p_attempt | (first | with_reducible apply p_val c2 | with_reducible apply p_val c4 | with_reducible apply p_val c5 | with_reducible apply p_val c7 | with_reducible apply p_val c9 | with_reducible apply p_val l1 | with_reducible apply p_val l2 | with_reducible apply p_val l3 | with_reducible apply p_val l4 | with_reducible apply p_val l5 | with_reducible apply p_val sn_str | with_reducible apply p_val sn_int | with_reducible apply p_val sn_list | with_reducible apply p_val sn_function | with_reducible apply p_val sn_NoneType | with_reducible apply p_val sn_tuple | with_reducible apply p_val sn_mem | ((with_reducible apply p_enter); (case nl => exact noLimit (by (show Heap.get? _ _ = _); (first | assumption | exact Lg.base16 (by assumption) (by assumption) rfl | exact Lg.base16 (by assumption) ((by assumption : Old _ _).fr _ _ rfl rfl rfl) rfl | exact Lg.base0 (by assumption) (by assumption) | exact Lg.base0 (by assumption) ((by assumption : Old _ _).fr _ _ rfl rfl rfl) | exact Lg.hitE (by assumption) (by (repeat (first | exact List.Mem.head _ | refine List.Mem.tail _ ?_))) (by first | assumption | exact rfl)))); (case dp => first | exact Deep.lt (by assumption) | exact Deep2.lt (by assumption) (by first | exact Nat.le_add_right _ _ | (simp [Around.deeper, Around.mark]; try omega)))) | (with_reducible apply p_standAt) | ((with_reducible show WP _ _ (buildClass _ _ _ _ _ _ _ _ _ _ _) _ _ _); conv => arg 3; delta buildClass) | ((with_reducible show WP _ _ (List.mapM mkText (Scope.freeNames _)) _ _ _); first | refine' p_is (m' := List.mapM mkText []) (by kernel_rfl!) ?_ | refine' p_is (m' := List.mapM mkText [⟨#[109, 121, 99, 109, 112]⟩]) (by kernel_rfl!) ?_) | ((with_reducible show wpAny _ _ (runValue (Code.builtin "proto.collect" _)) _ _ _); refine' collect_ok ?S ?hSl ?_; (case S => assumption); (case hSl => (first | assumption | exact Lg.base16 (by assumption) (by assumption) rfl | exact Lg.base16 (by assumption) ((by assumption : Old _ _).fr _ _ rfl rfl rfl) rfl | exact Lg.base0 (by assumption) (by assumption) | exact Lg.base0 (by assumption) ((by assumption : Old _ _).fr _ _ rfl rfl rfl) | exact Lg.hitE (by assumption) (by (repeat (first | exact List.Mem.head _ | refine List.Mem.tail _ ?_))) (by first | assumption | exact rfl))); intro hC aC tkC kC nC eC; (have LC := Lg.add (by assumption) kC nC eC); clear kC nC eC) | ((with_reducible apply p_croom); (case hu => assumption))) | ((with_reducible apply p_slot); (case hi => kernel_rfl!)) | ((with_reducible apply p_iteB); (case hb => kernel_rfl!)) | ((with_reducible apply p_iteN); (case hb => kernel_rfl!)) | ((refine' p_see (Bx.mk ?_)); (first | (first | ((with_reducible apply p_execsH); intro QQ kQ) | ((with_reducible apply p_goS); (case H => assumption); clear kQ QQ) | ((with_reducible apply p_goR); (case H => assumption); clear kQ QQ)) | with_reducible apply p_sbind | with_reducible apply p_bind | with_reducible apply p_rule | with_reducible apply p_point | with_reducible apply p_pure | ((with_reducible apply p_load); (case ho => (first | assumption | exact Lg.base16 (by assumption) (by assumption) rfl | exact Lg.base16 (by assumption) ((by assumption : Old _ _).fr _ _ rfl rfl rfl) rfl | exact Lg.base0 (by assumption) (by assumption) | exact Lg.base0 (by assumption) ((by assumption : Old _ _).fr _ _ rfl rfl rfl) | exact Lg.hitE (by assumption) (by (repeat (first | exact List.Mem.head _ | refine List.Mem.tail _ ?_))) (by first | assumption | exact rfl))); (any_goals (try exact (Option.none : Option Value)))) | with_reducible apply p_freshK | with_reducible apply p_fresh | with_reducible apply p_at | with_reducible apply p_ask | ((with_reducible apply p_allocFnG); (case L => assumption); intro _ _ _ _ _) | ((with_reducible apply p_allocG); (case L => assumption); (case e => (conv => lhs; reduce); try exact rfl); (case hf => exact rfl); intro _ _ _ _ _) | ((with_reducible apply p_updateFG); (case L => assumption); (case U => intro q'; (repeat (first | (apply SetAt.here; exact rfl) | apply SetAt.there))); (case e1 => first | assumption | exact rfl); (case e => (conv => lhs; reduce); try exact rfl); (case hf => exact rfl); intro _ _ _ _) | ((with_reducible apply p_updateG); (case L => assumption); (case U => intro q'; (repeat (first | (apply SetAt.here; exact rfl) | apply SetAt.there))); (case e1 => first | assumption | exact rfl); (case e => rfl); (case hf => rfl); intro _ _ _ _))) | (apply p_sbind) | (apply p_bind))
  rename_i fv hfv oohfv EEhfv Dfv pl hpl oohpl EEhpl Dpl cd hcd oohcd EEhcd Dcd hq0 oohq0 EEhq0 Dq0 fr hfr oohfr EEhfr Dfr hq1 oohq1 EEhq1 Dq1 hq2 oohq2 EEhq2 Dq2 hb oohb EEhb Db
  refine WP.mk (wpAny_run (codeAny_body rfl rfl ?_))
  refine WP.out (WP.noE fun EE => ?_)
  generalize hA : Around.deeper _ _ = A2
  have S2 : Deep A2 := hA ▸ Deep2.deeper S1' _
  clear hA
  refine p_env ?_
  refine Lg.sub9 (fun x1 x2 x3 x4 x5 x6 x7 x8 x9 => [(fr, x1), (cd, x2), (pl, x3), (fv, x4), (aN, x5), (aP, { cls := .type "builtin_function_or_method", data := .fields #[.builtin "type.__prepare__", .type "type"] }), (aB, x6), (cell, x7), (fr0, x8), (16, x9)]) EEhfr EEhcd EEhpl EEhfv EEhb EEhB EEhu0 EEhf0 EEhq0 Db fun Db => ?_
  refine h_start Db fun n0 => ?_
  clear Df0 Dc0 Du0 DB L4 L5 Dfv Dpl Dcd Dq0 Dfr Dq1 Dq2 Db
  repeat (first | (first | with_reducible apply h_sbind | with_reducible apply h_bind | with_reducible apply h_rule | with_reducible apply h_point | with_reducible apply h_pure | ((with_reducible apply h_load); (case hm => ((repeat (first | exact List.Mem.head _ | refine List.Mem.tail _ ?_)); done)); (any_goals (try exact (Option.none : Option Value)))) | ((with_reducible apply h_loadB16); (case e => first | assumption | exact (by assumption : Old _ _).fr _ _ rfl rfl rfl); (case hb => exact rfl); (any_goals (try exact (Option.none : Option Value)))) | with_reducible apply h_fresh | with_reducible apply h_at | with_reducible apply h_ask | with_reducible apply h_allocFn | ((with_reducible apply h_alloc); (case e => (conv => lhs; reduce); try exact rfl); (case hf => exact rfl)) | ((with_reducible apply h_updateF); (case U => ((repeat (first | (apply SetAt.here; exact rfl) | apply SetAt.there)); done)); (case e => (conv => lhs; reduce); try exact rfl); (case hf => exact rfl)) | ((with_reducible apply h_update); (case U => ((repeat (first | (apply SetAt.here; exact rfl) | apply SetAt.there)); done)); (case e => rfl); (case hf => rfl))) | with_reducible apply h_exn | with_reducible apply h_exr | with_reducible apply h_execs | with_reducible apply h_holding | with_reducible apply h_try' | with_reducible apply h_try | with_reducible apply h_keep | with_reducible apply h_attempt | (with_reducible apply h_standAt) | ((with_reducible show H _ (WP _ _ (List.mapM mkText (Scope.freeNames _)) _ _)); first | refine' h_is (m' := List.mapM mkText []) (by kernel_rfl!) ?_ | refine' h_is (m' := List.mapM mkText [⟨#[109, 121, 99, 109, 112]⟩]) (by kernel_rfl!) ?_) | ((with_reducible apply h_croom); (case hu => assumption)) | ((with_reducible apply h_iteB); (case hb => kernel_rfl!)) | ((with_reducible apply h_iteN); (case hb => kernel_rfl!)) | ((apply h_load); (case hm => ((repeat (first | exact List.Mem.head _ | refine List.Mem.tail _ ?_)); done)); (any_goals (try exact (Option.none : Option Value)))) | ((apply h_loadB16); (case e => first | assumption | exact (by assumption : Old _ _).fr _ _ rfl rfl rfl); (case hb => exact rfl); (any_goals (try exact (Option.none : Option Value)))) | (apply h_fresh) | (apply h_pure) | ((refine' h_see (Bx.mk ?_)); (first | with_reducible apply h_sbind | with_reducible apply h_bind | with_reducible apply h_rule | with_reducible apply h_point | with_reducible apply h_pure | ((with_reducible apply h_load); (case hm => ((repeat (first | exact List.Mem.head _ | refine List.Mem.tail _ ?_)); done)); (any_goals (try exact (Option.none : Option Value)))) | ((with_reducible apply h_loadB16); (case e => first | assumption | exact (by assumption : Old _ _).fr _ _ rfl rfl rfl); (case hb => exact rfl); (any_goals (try exact (Option.none : Option Value)))) | with_reducible apply h_fresh | with_reducible apply h_at | with_reducible apply h_ask | with_reducible apply h_allocFn | ((with_reducible apply h_alloc); (case e => (conv => lhs; reduce); try exact rfl); (case hf => exact rfl)) | ((with_reducible apply h_updateF); (case U => ((repeat (first | (apply SetAt.here; exact rfl) | apply SetAt.there)); done)); (case e => (conv => lhs; reduce); try exact rfl); (case hf => exact rfl)) | ((with_reducible apply h_update); (case U => ((repeat (first | (apply SetAt.here; exact rfl) | apply SetAt.there)); done)); (case e => rfl); (case hf => rfl)))) | (apply h_sbind) | (apply h_bind))
  refine h_endP [true, true, true, false, false, false, false, false, false, true, true, false, false, false, false, false, false, true, true, false, false, false, false, false, false, true, true, false, false, false, false, false, false, true, true, false, false, false, false, false, false, true, true, false, false, false, false, false, true, false, true, true, false, true, false, true, true, true, true] fun hh0 F DF q => ?_
  replace DF : Lg [16] h₀ hh0 [(n0 + 48, F 0), (n0 + 47, F 1), (n0 + 46, F 2), (n0 + 39, F 3), (n0 + 38, F 4), (n0 + 31, F 5), (n0 + 30, F 6), (n0 + 23, F 7), (n0 + 22, F 8), (n0 + 15, F 9), (n0 + 14, F 10), (n0 + 7, F 11), (n0 + 6, F 12), (n0 + 0, F 13), (cd, F 14), (pl, F 15), (aN, F 16), (aB, F 17), (cell, F 18), (fr0, F 19), (16, F 20)] := DF
  have f0 := q 19 _ (Eq.refl (some _))
  refine' p_is (m' := run (.call (.type "type") ⟨[.str ⟨#[75]⟩ tk, .ref aB, .ref aN], []⟩)) (by kernel_rfl!) ?_
  have eN : hh0.get? aN = some { cls := .type "dict", data := .dict #[⟨reduceHash (w.params.strHash #[95, 95, 109, 111, 100, 117, 108, 101, 95, 95]), .str ⟨#[95, 95, 109, 111, 100, 117, 108, 101, 95, 95]⟩ (t5 + 6), .str ⟨#[99, 112, 121, 51, 49, 51, 46, 102, 117, 110, 99, 116, 111, 111, 108, 115]⟩ (t5 + 11)⟩, ⟨reduceHash (w.params.strHash #[95, 95, 113, 117, 97, 108, 110, 97, 109, 101, 95, 95]), .str ⟨#[95, 95, 113, 117, 97, 108, 110, 97, 109, 101, 95, 95]⟩ (t5 + 8), .str ⟨#[99, 109, 112, 95, 116, 111, 95, 107, 101, 121, 46, 60, 108, 111, 99, 97, 108, 115, 62, 46, 75]⟩ (t5 + 7)⟩, ⟨reduceHash (w.params.strHash #[95, 95, 102, 105, 114, 115, 116, 108, 105, 110, 101, 110, 111, 95, 95]), .str ⟨#[95, 95, 102, 105, 114, 115, 116, 108, 105, 110, 101, 110, 111, 95, 95]⟩ (t5 + 10), .int 4 (t5 + 9)⟩, ⟨reduceHash (w.params.strHash #[95, 95, 115, 108, 111, 116, 115, 95, 95]), .str ⟨#[95, 95, 115, 108, 111, 116, 115, 95, 95]⟩ (t5 + 14), .ref (n0 + 0)⟩, ⟨reduceHash (w.params.strHash #[95, 95, 105, 110, 105, 116, 95, 95]), .str ⟨#[95, 95, 105, 110, 105, 116, 95, 95]⟩ (t5 + 22), .ref (n0 + 7)⟩, ⟨reduceHash (w.params.strHash #[95, 95, 108, 116, 95, 95]), .str ⟨#[95, 95, 108, 116, 95, 95]⟩ (t5 + 31), .ref (n0 + 15)⟩, ⟨reduceHash (w.params.strHash #[95, 95, 103, 116, 95, 95]), .str ⟨#[95, 95, 103, 116, 95, 95]⟩ (t5 + 40), .ref (n0 + 23)⟩, ⟨reduceHash (w.params.strHash #[95, 95, 101, 113, 95, 95]), .str ⟨#[95, 95, 101, 113, 95, 95]⟩ (t5 + 49), .ref (n0 + 31)⟩, ⟨reduceHash (w.params.strHash #[95, 95, 108, 101, 95, 95]), .str ⟨#[95, 95, 108, 101, 95, 95]⟩ (t5 + 58), .ref (n0 + 39)⟩, ⟨reduceHash (w.params.strHash #[95, 95, 103, 101, 95, 95]), .str ⟨#[95, 95, 103, 101, 95, 95]⟩ (t5 + 67), .ref (n0 + 47)⟩, ⟨reduceHash (w.params.strHash #[95, 95, 104, 97, 115, 104, 95, 95]), .str ⟨#[95, 95, 104, 97, 115, 104, 95, 95]⟩ (t5 + 68), .none⟩, ⟨reduceHash (w.params.strHash #[95, 95, 115, 116, 97, 116, 105, 99, 95, 97, 116, 116, 114, 105, 98, 117, 116, 101, 115, 95, 95]), .str ⟨#[95, 95, 115, 116, 97, 116, 105, 99, 95, 97, 116, 116, 114, 105, 98, 117, 116, 101, 115, 95, 95]⟩ (t5 + 70), .ref (n0 + 48)⟩] 12 } := (Lg.hitE DF (by (repeat (first | exact List.Mem.head _ | refine List.Mem.tail _ ?_))) (q _ _ (Eq.refl (some _)))).trans (by kernel_rfl!)
  have hSl : hh0.get? (n0 + 0) = some { cls := .type "list", data := .seq #[.str ⟨#[111, 98, 106]⟩ (t5 + 13)] 0 } := (Lg.hitE DF (by (repeat (first | exact List.Mem.head _ | refine List.Mem.tail _ ?_))) (q _ _ (Eq.refl (some _)))).trans (by kernel_rfl!)
  have hSa : hh0.get? (n0 + 48) = some { cls := .type "tuple", data := .seq #[.str ⟨#[111, 98, 106]⟩ (t5 + 69)] 0 } := (Lg.hitE DF (by (repeat (first | exact List.Mem.head _ | refine List.Mem.tail _ ?_))) (q _ _ (Eq.refl (some _)))).trans (by kernel_rfl!)
  have hBa : hh0.get? aB = some { cls := .type "tuple", data := .seq #[.type "object"] 0 } := (Lg.hitE DF (by (repeat (first | exact List.Mem.head _ | refine List.Mem.tail _ ?_))) (q _ _ (Eq.refl (some _)))).trans (by kernel_rfl!)
  refine' WP.mk (type_call_ok w hh0 _ _ _ _ A1 aB aN (n0 + 0) (n0 + 48) (n0 + 7) (n0 + 15) (n0 + 23) (n0 + 31) (n0 + 39) (n0 + 47) _ _ _ _ _ _ _ _ _ _ _ _ _ _ _ _ _ _ _ _ _ _ _ _ _ _ _ _ _ _ _ _ _ _ _ _ _ _ _ _ _ hBa eN hSl hSa (Lg.hitE DF (by (repeat (first | exact List.Mem.head _ | refine List.Mem.tail _ ?_))) (q _ _ (Eq.refl (some _)))) (Lg.hitE DF (by (repeat (first | exact List.Mem.head _ | refine List.Mem.tail _ ?_))) (q _ _ (Eq.refl (some _)))) (Lg.hitE DF (by (repeat (first | exact List.Mem.head _ | refine List.Mem.tail _ ?_))) (q _ _ (Eq.refl (some _)))) (Lg.hitE DF (by (repeat (first | exact List.Mem.head _ | refine List.Mem.tail _ ?_))) (q _ _ (Eq.refl (some _)))) (Lg.hitE DF (by (repeat (first | exact List.Mem.head _ | refine List.Mem.tail _ ?_))) (q _ _ (Eq.refl (some _)))) (Lg.hitE DF (by (repeat (first | exact List.Mem.head _ | refine List.Mem.tail _ ?_))) (q _ _ (Eq.refl (some _)))) (Lg.base16 DF h2 rfl) hne S1' ?_)
  intro hz C md ns x tkz Lz
  have LZ := Lg.trans DF Lz
  repeat (first | ((with_reducible apply p_nsLookB); (case B => assumption); (case e => first | exact bi_object | exact bi_bc)) | (first | (first | ((with_reducible apply p_execsH); intro QQ kQ) | ((with_reducible apply p_goS); (case H => assumption); clear kQ QQ) | ((with_reducible apply p_goR); (case H => assumption); clear kQ QQ)) | with_reducible apply p_sbind | with_reducible apply p_bind | with_reducible apply p_rule | with_reducible apply p_point | with_reducible apply p_pure | ((with_reducible apply p_load); (case ho => (first | assumption | exact Lg.base16 (by assumption) (by assumption) rfl | exact Lg.base16 (by assumption) ((by assumption : Old _ _).fr _ _ rfl rfl rfl) rfl | exact Lg.base0 (by assumption) (by assumption) | exact Lg.base0 (by assumption) ((by assumption : Old _ _).fr _ _ rfl rfl rfl) | exact Lg.hitE (by assumption) (by (repeat (first | exact List.Mem.head _ | refine List.Mem.tail _ ?_))) (by first | assumption | exact rfl))); (any_goals (try exact (Option.none : Option Value)))) | with_reducible apply p_freshK | with_reducible apply p_fresh | with_reducible apply p_at | with_reducible apply p_ask | ((with_reducible apply p_allocFnG); (case L => assumption); intro _ _ _ _ _) | ((with_reducible apply p_allocG); (case L => assumption); (case e => (conv => lhs; reduce); try exact rfl); (case hf => exact rfl); intro _ _ _ _ _) | ((with_reducible apply p_updateFG); (case L => assumption); (case U => intro q'; (repeat (first | (apply SetAt.here; exact rfl) | apply SetAt.there))); (case e1 => first | assumption | exact rfl); (case e => (conv => lhs; reduce); try exact rfl); (case hf => exact rfl); intro _ _ _ _) | ((with_reducible apply p_updateG); (case L => assumption); (case U => intro q'; (repeat (first | (apply SetAt.here; exact rfl) | apply SetAt.there))); (case e1 => first | assumption | exact rfl); (case e => rfl); (case hf => rfl); intro _ _ _ _)) | with_reducible apply p_holding | with_reducible apply p_try' | with_reducible apply p_try | with_reducible apply p_keep | with_reducible apply p_attempt | (first | with_reducible apply p_val c2 | with_reducible apply p_val c4 | with_reducible apply p_val c5 | with_reducible apply p_val c7 | with_reducible apply p_val c9 | with_reducible apply p_val l1 | with_reducible apply p_val l2 | with_reducible apply p_val l3 | with_reducible apply p_val l4 | with_reducible apply p_val l5 | with_reducible apply p_val sn_str | with_reducible apply p_val sn_int | with_reducible apply p_val sn_list | with_reducible apply p_val sn_function | with_reducible apply p_val sn_NoneType | with_reducible apply p_val sn_tuple | with_reducible apply p_val sn_mem | ((with_reducible apply p_enter); (case nl => exact noLimit (by (show Heap.get? _ _ = _); (first | assumption | exact Lg.base16 (by assumption) (by assumption) rfl | exact Lg.base16 (by assumption) ((by assumption : Old _ _).fr _ _ rfl rfl rfl) rfl | exact Lg.base0 (by assumption) (by assumption) | exact Lg.base0 (by assumption) ((by assumption : Old _ _).fr _ _ rfl rfl rfl) | exact Lg.hitE (by assumption) (by (repeat (first | exact List.Mem.head _ | refine List.Mem.tail _ ?_))) (by first | assumption | exact rfl)))); (case dp => first | exact Deep.lt (by assumption) | exact Deep2.lt (by assumption) (by first | exact Nat.le_add_right _ _ | (simp [Around.deeper, Around.mark]; try omega)))) | (with_reducible apply p_standAt) | ((with_reducible show WP _ _ (buildClass _ _ _ _ _ _ _ _ _ _ _) _ _ _); conv => arg 3; delta buildClass) | ((with_reducible show WP _ _ (List.mapM mkText (Scope.freeNames _)) _ _ _); first | refine' p_is (m' := List.mapM mkText []) (by kernel_rfl!) ?_ | refine' p_is (m' := List.mapM mkText [⟨#[109, 121, 99, 109, 112]⟩]) (by kernel_rfl!) ?_) | ((with_reducible show wpAny _ _ (runValue (Code.builtin "proto.collect" _)) _ _ _); refine' collect_ok ?S ?hSl ?_; (case S => assumption); (case hSl => (first | assumption | exact Lg.base16 (by assumption) (by assumption) rfl | exact Lg.base16 (by assumption) ((by assumption : Old _ _).fr _ _ rfl rfl rfl) rfl | exact Lg.base0 (by assumption) (by assumption) | exact Lg.base0 (by assumption) ((by assumption : Old _ _).fr _ _ rfl rfl rfl) | exact Lg.hitE (by assumption) (by (repeat (first | exact List.Mem.head _ | refine List.Mem.tail _ ?_))) (by first | assumption | exact rfl))); intro hC aC tkC kC nC eC; (have LC := Lg.add (by assumption) kC nC eC); clear kC nC eC) | ((with_reducible apply p_croom); (case hu => assumption))) | ((with_reducible apply p_slot); (case hi => kernel_rfl!)) | ((with_reducible apply p_iteB); (case hb => kernel_rfl!)) | ((with_reducible apply p_iteN); (case hb => kernel_rfl!)) | ((refine' p_see (Bx.mk ?_)); (first | (first | ((with_reducible apply p_execsH); intro QQ kQ) | ((with_reducible apply p_goS); (case H => assumption); clear kQ QQ) | ((with_reducible apply p_goR); (case H => assumption); clear kQ QQ)) | with_reducible apply p_sbind | with_reducible apply p_bind | with_reducible apply p_rule | with_reducible apply p_point | with_reducible apply p_pure | ((with_reducible apply p_load); (case ho => (first | assumption | exact Lg.base16 (by assumption) (by assumption) rfl | exact Lg.base16 (by assumption) ((by assumption : Old _ _).fr _ _ rfl rfl rfl) rfl | exact Lg.base0 (by assumption) (by assumption) | exact Lg.base0 (by assumption) ((by assumption : Old _ _).fr _ _ rfl rfl rfl) | exact Lg.hitE (by assumption) (by (repeat (first | exact List.Mem.head _ | refine List.Mem.tail _ ?_))) (by first | assumption | exact rfl))); (any_goals (try exact (Option.none : Option Value)))) | with_reducible apply p_freshK | with_reducible apply p_fresh | with_reducible apply p_at | with_reducible apply p_ask | ((with_reducible apply p_allocFnG); (case L => assumption); intro _ _ _ _ _) | ((with_reducible apply p_allocG); (case L => assumption); (case e => (conv => lhs; reduce); try exact rfl); (case hf => exact rfl); intro _ _ _ _ _) | ((with_reducible apply p_updateFG); (case L => assumption); (case U => intro q'; (repeat (first | (apply SetAt.here; exact rfl) | apply SetAt.there))); (case e1 => first | assumption | exact rfl); (case e => (conv => lhs; reduce); try exact rfl); (case hf => exact rfl); intro _ _ _ _) | ((with_reducible apply p_updateG); (case L => assumption); (case U => intro q'; (repeat (first | (apply SetAt.here; exact rfl) | apply SetAt.there))); (case e1 => first | assumption | exact rfl); (case e => rfl); (case hf => rfl); intro _ _ _ _))) | (apply p_sbind) | (apply p_bind))
  rename_i hE oohE EEhE DE
  obtain ⟨p01, p02, p03, p05, p04, C0⟩ : ∃ t1 t2 t3 t5 t4, hE.get? (n0 + 6) = some { cls := .type "code", data := .fields #[.str ⟨#[95, 95, 105, 110, 105, 116, 95, 95]⟩ t1, .str ⟨#[99, 109, 112, 95, 116, 111, 95, 107, 101, 121, 46, 60, 108, 111, 99, 97, 108, 115, 62, 46, 75, 46, 95, 95, 105, 110, 105, 116, 95, 95]⟩ t2, .str ⟨#[47, 99, 108, 97, 105, 109, 47, 99, 117, 116, 46, 112, 121]⟩ t3, .int 8 0, .int 2 0, .int 0 0, .int 0 0, .int 19 0, .ref (n0 + 1), .bool true, .int 181 0, .ref (n0 + 2), .none, .ref (n0 + 3), .ref (n0 + 4), .ref (n0 + 5), .int (Int.ofNat t4) 0, .int 8 0, .str ⟨#[47, 99, 108, 97, 105, 109, 47, 99, 117, 116, 46, 112, 121]⟩ t5] } := ⟨_, _, _, _, _, Lg.hitE DE (by (repeat (first | exact List.Mem.head _ | refine List.Mem.tail _ ?_))) (by first | exact q _ _ (Eq.refl (some _)) | assumption | exact rfl)⟩
  obtain ⟨p11, p12, p13, p15, p14, C1⟩ : ∃ t1 t2 t3 t5 t4, hE.get? (n0 + 14) = some { cls := .type "code", data := .fields #[.str ⟨#[95, 95, 108, 116, 95, 95]⟩ t1, .str ⟨#[99, 109, 112, 95, 116, 111, 95, 107, 101, 121, 46, 60, 108, 111, 99, 97, 108, 115, 62, 46, 75, 46, 95, 95, 108, 116, 95, 95]⟩ t2, .str ⟨#[47, 99, 108, 97, 105, 109, 47, 99, 117, 116, 46, 112, 121]⟩ t3, .int 11 0, .int 2 0, .int 0 0, .int 0 0, .int 19 0, .ref (n0 + 9), .bool true, .int 181 0, .ref (n0 + 10), .none, .ref (n0 + 11), .ref (n0 + 12), .ref (n0 + 13), .int (Int.ofNat t4) 0, .int 11 0, .str ⟨#[47, 99, 108, 97, 105, 109, 47, 99, 117, 116, 46, 112, 121]⟩ t5] } := ⟨_, _, _, _, _, Lg.hitE DE (by (repeat (first | exact List.Mem.head _ | refine List.Mem.tail _ ?_))) (by first | exact q _ _ (Eq.refl (some _)) | assumption | exact rfl)⟩
  obtain ⟨p21, p22, p23, p25, p24, C2⟩ : ∃ t1 t2 t3 t5 t4, hE.get? (n0 + 22) = some { cls := .type "code", data := .fields #[.str ⟨#[95, 95, 103, 116, 95, 95]⟩ t1, .str ⟨#[99, 109, 112, 95, 116, 111, 95, 107, 101, 121, 46, 60, 108, 111, 99, 97, 108, 115, 62, 46, 75, 46, 95, 95, 103, 116, 95, 95]⟩ t2, .str ⟨#[47, 99, 108, 97, 105, 109, 47, 99, 117, 116, 46, 112, 121]⟩ t3, .int 14 0, .int 2 0, .int 0 0, .int 0 0, .int 19 0, .ref (n0 + 17), .bool true, .int 181 0, .ref (n0 + 18), .none, .ref (n0 + 19), .ref (n0 + 20), .ref (n0 + 21), .int (Int.ofNat t4) 0, .int 14 0, .str ⟨#[47, 99, 108, 97, 105, 109, 47, 99, 117, 116, 46, 112, 121]⟩ t5] } := ⟨_, _, _, _, _, Lg.hitE DE (by (repeat (first | exact List.Mem.head _ | refine List.Mem.tail _ ?_))) (by first | exact q _ _ (Eq.refl (some _)) | assumption | exact rfl)⟩
  obtain ⟨p31, p32, p33, p35, p34, C3⟩ : ∃ t1 t2 t3 t5 t4, hE.get? (n0 + 30) = some { cls := .type "code", data := .fields #[.str ⟨#[95, 95, 101, 113, 95, 95]⟩ t1, .str ⟨#[99, 109, 112, 95, 116, 111, 95, 107, 101, 121, 46, 60, 108, 111, 99, 97, 108, 115, 62, 46, 75, 46, 95, 95, 101, 113, 95, 95]⟩ t2, .str ⟨#[47, 99, 108, 97, 105, 109, 47, 99, 117, 116, 46, 112, 121]⟩ t3, .int 17 0, .int 2 0, .int 0 0, .int 0 0, .int 19 0, .ref (n0 + 25), .bool true, .int 181 0, .ref (n0 + 26), .none, .ref (n0 + 27), .ref (n0 + 28), .ref (n0 + 29), .int (Int.ofNat t4) 0, .int 17 0, .str ⟨#[47, 99, 108, 97, 105, 109, 47, 99, 117, 116, 46, 112, 121]⟩ t5] } := ⟨_, _, _, _, _, Lg.hitE DE (by (repeat (first | exact List.Mem.head _ | refine List.Mem.tail _ ?_))) (by first | exact q _ _ (Eq.refl (some _)) | assumption | exact rfl)⟩
  obtain ⟨p41, p42, p43, p45, p44, C4⟩ : ∃ t1 t2 t3 t5 t4, hE.get? (n0 + 38) = some { cls := .type "code", data := .fields #[.str ⟨#[95, 95, 108, 101, 95, 95]⟩ t1, .str ⟨#[99, 109, 112, 95, 116, 111, 95, 107, 101, 121, 46, 60, 108, 111, 99, 97, 108, 115, 62, 46, 75, 46, 95, 95, 108, 101, 95, 95]⟩ t2, .str ⟨#[47, 99, 108, 97, 105, 109, 47, 99, 117, 116, 46, 112, 121]⟩ t3, .int 20 0, .int 2 0, .int 0 0, .int 0 0, .int 19 0, .ref (n0 + 33), .bool true, .int 181 0, .ref (n0 + 34), .none, .ref (n0 + 35), .ref (n0 + 36), .ref (n0 + 37), .int (Int.ofNat t4) 0, .int 20 0, .str ⟨#[47, 99, 108, 97, 105, 109, 47, 99, 117, 116, 46, 112, 121]⟩ t5] } := ⟨_, _, _, _, _, Lg.hitE DE (by (repeat (first | exact List.Mem.head _ | refine List.Mem.tail _ ?_))) (by first | exact q _ _ (Eq.refl (some _)) | assumption | exact rfl)⟩
  obtain ⟨p51, p52, p53, p55, p54, C5⟩ : ∃ t1 t2 t3 t5 t4, hE.get? (n0 + 46) = some { cls := .type "code", data := .fields #[.str ⟨#[95, 95, 103, 101, 95, 95]⟩ t1, .str ⟨#[99, 109, 112, 95, 116, 111, 95, 107, 101, 121, 46, 60, 108, 111, 99, 97, 108, 115, 62, 46, 75, 46, 95, 95, 103, 101, 95, 95]⟩ t2, .str ⟨#[47, 99, 108, 97, 105, 109, 47, 99, 117, 116, 46, 112, 121]⟩ t3, .int 23 0, .int 2 0, .int 0 0, .int 0 0, .int 19 0, .ref (n0 + 41), .bool true, .int 181 0, .ref (n0 + 42), .none, .ref (n0 + 43), .ref (n0 + 44), .ref (n0 + 45), .int (Int.ofNat t4) 0, .int 23 0, .str ⟨#[47, 99, 108, 97, 105, 109, 47, 99, 117, 116, 46, 112, 121]⟩ t5] } := ⟨_, _, _, _, _, Lg.hitE DE (by (repeat (first | exact List.Mem.head _ | refine List.Mem.tail _ ?_))) (by first | exact q _ _ (Eq.refl (some _)) | assumption | exact rfl)⟩
  have Ck : hE.get? cd = some (oCode0 ⟨cd, fv, pl, 0, 0, 0, t5, t5 + 1, t5 + 2, t5 + 5, t5 + 4⟩) := (Lg.hitE DE (by (repeat (first | exact List.Mem.head _ | refine List.Mem.tail _ ?_))) (by first | exact q _ _ (Eq.refl (some _)) | assumption | exact rfl)).trans (by kernel_rfl!)
  have Ct : hE.get? 16 = some { cls := .none, data := .fields #[.int 4 0, .int 4 0, .ref cd] } := (Lg.hitE DE (by (repeat (first | exact List.Mem.head _ | refine List.Mem.tail _ ?_))) (by first | exact q _ _ (Eq.refl (some _)) | assumption | exact rfl)).trans (by kernel_rfl!)
  have Cp : hE.get? pl = some { cls := .none, data := .fields #[.int 8 0, .int 8 0, .ref (n0 + 6), .int 11 0, .int 8 0, .ref (n0 + 14), .int 14 0, .int 8 0, .ref (n0 + 22), .int 17 0, .int 8 0, .ref (n0 + 30), .int 20 0, .int 8 0, .ref (n0 + 38), .int 23 0, .int 8 0, .ref (n0 + 46)] } := (Lg.hitE DE (by (repeat (first | exact List.Mem.head _ | refine List.Mem.tail _ ?_))) (by first | exact q _ _ (Eq.refl (some _)) | assumption | exact rfl)).trans (by kernel_rfl!)
  have Cba : hE.get? aB = some { cls := .type "tuple", data := .seq #[.type "object"] 0 } := (Lg.hitE DE (by (repeat (first | exact List.Mem.head _ | refine List.Mem.tail _ ?_))) (by first | exact q _ _ (Eq.refl (some _)) | assumption | exact rfl)).trans (by kernel_rfl!)
  have Ccell : hE.get? cell = some { cls := .type "cell", data := .cell (some v) } := (Lg.hitE DE (by (repeat (first | exact List.Mem.head _ | refine List.Mem.tail _ ?_))) (by first | exact q _ _ (Eq.refl (some _)) | assumption | exact rfl)).trans (by kernel_rfl!)
  have CC : hE.get? C = some (oK C ns aB tk (t5 + 7)) := Lg.hitE DE (by (repeat (first | exact List.Mem.head _ | refine List.Mem.tail _ ?_))) (by first | exact q _ _ (Eq.refl (some _)) | assumption | exact rfl)
  have Cmd : hE.get? md = some (oMd C x) := Lg.hitE DE (by (repeat (first | exact List.Mem.head _ | refine List.Mem.tail _ ?_))) (by first | exact q _ _ (Eq.refl (some _)) | assumption | exact rfl)
  have Cns := Lg.hit DE (a := ns) (by (repeat (first | exact List.Mem.head _ | refine List.Mem.tail _ ?_)))
  have Cno : h₀.get? C = none := by
    rcases (DE.nw (C, _) (by (repeat (first | exact List.Mem.head _ | refine List.Mem.tail _ ?_)))).2 with q | q
    · have q2 : C = 16 := List.mem_singleton.mp q
      rw [q2] at CC
      rw [Ct] at CC
      exact absurd (congrArg (fun o => o.map (·.cls)) CC) (by simp [oK])
    · exact q
  have F0 : ∀ o, oFunO w.params 0 ⟨#[99, 109, 112, 95, 116, 111, 95, 107, 101, 121, 46, 60, 108, 111, 99, 97, 108, 115, 62, 46, 75, 46, 95, 95, 105, 110, 105, 116, 95, 95]⟩ [] (.ref (n0 + 6)) .none = some o → hE.get? (n0 + 7) = some o := fun o e => (Lg.hitE DE (by (repeat (first | exact List.Mem.head _ | refine List.Mem.tail _ ?_))) (by first | exact q _ _ (Eq.refl (some _)) | assumption | exact rfl)).trans ((show some _ = oFunO w.params 0 ⟨#[99, 109, 112, 95, 116, 111, 95, 107, 101, 121, 46, 60, 108, 111, 99, 97, 108, 115, 62, 46, 75, 46, 95, 95, 105, 110, 105, 116, 95, 95]⟩ [] (.ref (n0 + 6)) .none from by kernel_rfl!).trans e)
  have F1 : ∀ o, oFunO w.params 1 ⟨#[99, 109, 112, 95, 116, 111, 95, 107, 101, 121, 46, 60, 108, 111, 99, 97, 108, 115, 62, 46, 75, 46, 95, 95, 108, 116, 95, 95]⟩ [(Str.ofString "mycmp", cell)] (.ref (n0 + 14)) (.ref (n0 + 8)) = some o → hE.get? (n0 + 15) = some o := fun o e => (Lg.hitE DE (by (repeat (first | exact List.Mem.head _ | refine List.Mem.tail _ ?_))) (by first | exact q _ _ (Eq.refl (some _)) | assumption | exact rfl)).trans ((show some _ = oFunO w.params 1 ⟨#[99, 109, 112, 95, 116, 111, 95, 107, 101, 121, 46, 60, 108, 111, 99, 97, 108, 115, 62, 46, 75, 46, 95, 95, 108, 116, 95, 95]⟩ [(Str.ofString "mycmp", cell)] (.ref (n0 + 14)) (.ref (n0 + 8)) from by kernel_rfl!).trans e)
  have F2 : ∀ o, oFunO w.params 2 ⟨#[99, 109, 112, 95, 116, 111, 95, 107, 101, 121, 46, 60, 108, 111, 99, 97, 108, 115, 62, 46, 75, 46, 95, 95, 103, 116, 95, 95]⟩ [(Str.ofString "mycmp", cell)] (.ref (n0 + 22)) (.ref (n0 + 16)) = some o → hE.get? (n0 + 23) = some o := fun o e => (Lg.hitE DE (by (repeat (first | exact List.Mem.head _ | refine List.Mem.tail _ ?_))) (by first | exact q _ _ (Eq.refl (some _)) | assumption | exact rfl)).trans ((show some _ = oFunO w.params 2 ⟨#[99, 109, 112, 95, 116, 111, 95, 107, 101, 121, 46, 60, 108, 111, 99, 97, 108, 115, 62, 46, 75, 46, 95, 95, 103, 116, 95, 95]⟩ [(Str.ofString "mycmp", cell)] (.ref (n0 + 22)) (.ref (n0 + 16)) from by kernel_rfl!).trans e)
  have F3 : ∀ o, oFunO w.params 3 ⟨#[99, 109, 112, 95, 116, 111, 95, 107, 101, 121, 46, 60, 108, 111, 99, 97, 108, 115, 62, 46, 75, 46, 95, 95, 101, 113, 95, 95]⟩ [(Str.ofString "mycmp", cell)] (.ref (n0 + 30)) (.ref (n0 + 24)) = some o → hE.get? (n0 + 31) = some o := fun o e => (Lg.hitE DE (by (repeat (first | exact List.Mem.head _ | refine List.Mem.tail _ ?_))) (by first | exact q _ _ (Eq.refl (some _)) | assumption | exact rfl)).trans ((show some _ = oFunO w.params 3 ⟨#[99, 109, 112, 95, 116, 111, 95, 107, 101, 121, 46, 60, 108, 111, 99, 97, 108, 115, 62, 46, 75, 46, 95, 95, 101, 113, 95, 95]⟩ [(Str.ofString "mycmp", cell)] (.ref (n0 + 30)) (.ref (n0 + 24)) from by kernel_rfl!).trans e)
  have F4 : ∀ o, oFunO w.params 4 ⟨#[99, 109, 112, 95, 116, 111, 95, 107, 101, 121, 46, 60, 108, 111, 99, 97, 108, 115, 62, 46, 75, 46, 95, 95, 108, 101, 95, 95]⟩ [(Str.ofString "mycmp", cell)] (.ref (n0 + 38)) (.ref (n0 + 32)) = some o → hE.get? (n0 + 39) = some o := fun o e => (Lg.hitE DE (by (repeat (first | exact List.Mem.head _ | refine List.Mem.tail _ ?_))) (by first | exact q _ _ (Eq.refl (some _)) | assumption | exact rfl)).trans ((show some _ = oFunO w.params 4 ⟨#[99, 109, 112, 95, 116, 111, 95, 107, 101, 121, 46, 60, 108, 111, 99, 97, 108, 115, 62, 46, 75, 46, 95, 95, 108, 101, 95, 95]⟩ [(Str.ofString "mycmp", cell)] (.ref (n0 + 38)) (.ref (n0 + 32)) from by kernel_rfl!).trans e)
  have F5 : ∀ o, oFunO w.params 5 ⟨#[99, 109, 112, 95, 116, 111, 95, 107, 101, 121, 46, 60, 108, 111, 99, 97, 108, 115, 62, 46, 75, 46, 95, 95, 103, 101, 95, 95]⟩ [(Str.ofString "mycmp", cell)] (.ref (n0 + 46)) (.ref (n0 + 40)) = some o → hE.get? (n0 + 47) = some o := fun o e => (Lg.hitE DE (by (repeat (first | exact List.Mem.head _ | refine List.Mem.tail _ ?_))) (by first | exact q _ _ (Eq.refl (some _)) | assumption | exact rfl)).trans ((show some _ = oFunO w.params 5 ⟨#[99, 109, 112, 95, 116, 111, 95, 107, 101, 121, 46, 60, 108, 111, 99, 97, 108, 115, 62, 46, 75, 46, 95, 95, 103, 101, 95, 95]⟩ [(Str.ofString "mycmp", cell)] (.ref (n0 + 46)) (.ref (n0 + 40)) from by kernel_rfl!).trans e)
  have KN : ∀ a ∈ (⟨C, ns, md, aB, (n0 + 0), (n0 + 48), cell, (n0 + 7), (n0 + 15), (n0 + 23), (n0 + 31), (n0 + 39), (n0 + 47), (n0 + 8), (n0 + 16), (n0 + 24), (n0 + 32), (n0 + 40), tk, t5 + 7, x, t5 + 6, t5 + 10, t5 + 14, t5 + 22, t5 + 31, t5 + 40, t5 + 49, t5 + 58, t5 + 67, t5 + 68, t5 + 70, t5 + 11, t5 + 9⟩ : KD).as, h₀.get? a = none := by
    intro a ha
    simp only [KD.as, List.mem_cons, List.not_mem_nil, or_false] at ha
    rcases ha with ha | ha | ha | ha | ha | ha | ha | ha | ha | ha | ha
    all_goals (rw [ha]; exact Lg.fresh16E DE (by (repeat (first | exact List.Mem.head _ | refine List.Mem.tail _ ?_))) (by first | exact q _ _ (Eq.refl (some _)) | assumption | exact rfl) Ct (fun e => by cases (congrArg Obj.cls e)))
  have TN : ∀ a ∈ (⟨⟨cd, fv, pl, 0, 0, 0, t5, t5 + 1, t5 + 2, t5 + 5, t5 + 4⟩, ⟨(n0 + 6), (n0 + 1), (n0 + 2), (n0 + 3), (n0 + 4), (n0 + 5), p01, p02, p03, p05, p04⟩, ⟨(n0 + 14), (n0 + 9), (n0 + 10), (n0 + 11), (n0 + 12), (n0 + 13), p11, p12, p13, p15, p14⟩, ⟨(n0 + 22), (n0 + 17), (n0 + 18), (n0 + 19), (n0 + 20), (n0 + 21), p21, p22, p23, p25, p24⟩, ⟨(n0 + 30), (n0 + 25), (n0 + 26), (n0 + 27), (n0 + 28), (n0 + 29), p31, p32, p33, p35, p34⟩, ⟨(n0 + 38), (n0 + 33), (n0 + 34), (n0 + 35), (n0 + 36), (n0 + 37), p41, p42, p43, p45, p44⟩, ⟨(n0 + 46), (n0 + 41), (n0 + 42), (n0 + 43), (n0 + 44), (n0 + 45), p51, p52, p53, p55, p54⟩⟩ : TD).as, h₀.get? a = none := by
    intro a ha
    simp only [TD.as, List.mem_cons, List.not_mem_nil, or_false] at ha
    rcases ha with ha | ha | ha | ha | ha | ha | ha | ha
    case inr.inl =>
      have h1 := get?_ne Cp Ct (by simp)
      rw [ha]
      rcases (DE.nw (pl, _) (by (repeat (first | exact List.Mem.head _ | refine List.Mem.tail _ ?_)))).2 with q | q
      · exact absurd (List.mem_singleton.mp q) h1
      · exact q
    all_goals (rw [ha]; exact Lg.fresh16E DE (by (repeat (first | exact List.Mem.head _ | refine List.Mem.tail _ ?_))) (by first | exact q _ _ (Eq.refl (some _)) | assumption | exact rfl) Ct (fun e => by cases (congrArg Obj.cls e)))
  exact KQ hE ⟨⟨cd, fv, pl, 0, 0, 0, t5, t5 + 1, t5 + 2, t5 + 5, t5 + 4⟩, ⟨(n0 + 6), (n0 + 1), (n0 + 2), (n0 + 3), (n0 + 4), (n0 + 5), p01, p02, p03, p05, p04⟩, ⟨(n0 + 14), (n0 + 9), (n0 + 10), (n0 + 11), (n0 + 12), (n0 + 13), p11, p12, p13, p15, p14⟩, ⟨(n0 + 22), (n0 + 17), (n0 + 18), (n0 + 19), (n0 + 20), (n0 + 21), p21, p22, p23, p25, p24⟩, ⟨(n0 + 30), (n0 + 25), (n0 + 26), (n0 + 27), (n0 + 28), (n0 + 29), p31, p32, p33, p35, p34⟩, ⟨(n0 + 38), (n0 + 33), (n0 + 34), (n0 + 35), (n0 + 36), (n0 + 37), p41, p42, p43, p45, p44⟩, ⟨(n0 + 46), (n0 + 41), (n0 + 42), (n0 + 43), (n0 + 44), (n0 + 45), p51, p52, p53, p55, p54⟩⟩ ⟨C, ns, md, aB, (n0 + 0), (n0 + 48), cell, (n0 + 7), (n0 + 15), (n0 + 23), (n0 + 31), (n0 + 39), (n0 + 47), (n0 + 8), (n0 + 16), (n0 + 24), (n0 + 32), (n0 + 40), tk, t5 + 7, x, t5 + 6, t5 + 10, t5 + 14, t5 + 22, t5 + 31, t5 + 40, t5 + 49, t5 + 58, t5 + 67, t5 + 68, t5 + 70, t5 + 11, t5 + 9⟩ (tkz + 1) ⟨fun b o e hb => DE.keep b o e (fun hm => hb (List.mem_singleton.mp hm))⟩ KN TN ⟨Ct, Ck, Cp, C0, C1, C2, C3, C4, C5⟩ ⟨CC, Cmd, Cba, Cns, Ccell, F0, F1, F2, F3, F4, F5⟩
theorem ck_later (w : World) (A : Around) (S : Deep3 A) (h₀ : Heap) (g d tk os) (v : Value) (Q : Value → Shared → Prop) (E : Value → Shared → Prop) (T : TD) (HT : TabOK w h₀ T)
   (KR : Old w h₀)
   (KQ : ∀ h' K tk', Keeps h₀ h' → (∀ a ∈ K.as, h₀.get? a = none) → KOK w h' T K v → Q (.ref K.C) ⟨h', g, d, tk', os⟩) :
   wpAny (model PG w) A (PySem.call (.ref 21) [v]) Q E ⟨h₀, g, d, tk, os⟩ := by
  have S0 := S.deep2
  have D := Lg.start h₀
  have h2 := KR.fr 2 _ rfl rfl rfl
  have h21 := KR.fr 21 _ rfl rfl rfl
  have h20 := KR.fr 20 _ rfl rfl rfl
  have h3 := KR.fr 3 _ rfl rfl rfl
  obtain ⟨sl4, h4⟩ := KR.m4
  obtain ⟨o0, h0, B0⟩ := KR.bo
  rcases T with ⟨⟨cd, fv, pl, z1, z2, z3, m1, m2, m3, m5, m4⟩, T0, T1, T2, T3, T4, T5⟩
  obtain ⟨ht16, hcd, hpl, hc0, hc1, hc2, hc3, hc4, hc5⟩ := HT
  rcases T0 with ⟨e0, _, _, _, _, _, _, _, _, _, _⟩
  rcases T1 with ⟨e1, _, _, _, _, _, _, _, _, _, _⟩
  rcases T2 with ⟨e2, _, _, _, _, _, _, _, _, _, _⟩
  rcases T3 with ⟨e3, _, _, _, _, _, _, _, _, _, _⟩
  rcases T4 with ⟨e4, _, _, _, _, _, _, _, _, _, _⟩
  rcases T5 with ⟨e5, _, _, _, _, _, _, _, _, _, _⟩
  dsimp only at ht16 hcd hpl hc0 hc1 hc2 hc3 hc4 hc5
  dsimp only [oCode0, oCode] at hcd hc0 hc1 hc2 hc3 hc4 hc5
  refine wpAny_call (codeAny_of_tree ?_)
  show wpAny (model PG w) A.in1 (callAny (.ref 21) ⟨[v], []⟩) _ _ _
  refine WP.out (WP.noE fun EE => ?_)
  repeat (first | ((with_reducible apply p_nsLookB); (case B => assumption); (case e => first | exact bi_object | exact bi_bc)) | (first | (first | ((with_reducible apply p_execsH); intro QQ kQ) | ((with_reducible apply p_goS); (case H => assumption); clear kQ QQ) | ((with_reducible apply p_goR); (case H => assumption); clear kQ QQ)) | with_reducible apply p_sbind | with_reducible apply p_bind | with_reducible apply p_rule | with_reducible apply p_point | with_reducible apply p_pure | ((with_reducible apply p_load); (case ho => (first | assumption | exact Lg.base16 (by assumption) (by assumption) rfl | exact Lg.base16 (by assumption) ((by assumption : Old _ _).fr _ _ rfl rfl rfl) rfl | exact Lg.base0 (by assumption) (by assumption) | exact Lg.base0 (by assumption) ((by assumption : Old _ _).fr _ _ rfl rfl rfl) | exact Lg.hitE (by assumption) (by (repeat (first | exact List.Mem.head _ | refine List.Mem.tail _ ?_))) (by first | assumption | exact rfl))); (any_goals (try exact (Option.none : Option Value)))) | with_reducible apply p_freshK | with_reducible apply p_fresh | with_reducible apply p_at | with_reducible apply p_ask | ((with_reducible apply p_allocFnG); (case L => assumption); intro _ _ _ _ _) | ((with_reducible apply p_allocG); (case L => assumption); (case e => (conv => lhs; reduce); try exact rfl); (case hf => exact rfl); intro _ _ _ _ _) | ((with_reducible apply p_updateFG); (case L => assumption); (case U => intro q'; (repeat (first | (apply SetAt.here; exact rfl) | apply SetAt.there))); (case e1 => first | assumption | exact rfl); (case e => (conv => lhs; reduce); try exact rfl); (case hf => exact rfl); intro _ _ _ _) | ((with_reducible apply p_updateG); (case L => assumption); (case U => intro q'; (repeat (first | (apply SetAt.here; exact rfl) | apply SetAt.there))); (case e1 => first | assumption | exact rfl); (case e => rfl); (case hf => rfl); intro _ _ _ _)) | with_reducible apply p_holding | with_reducible apply p_try' | with_reducible apply p_try | with_reducible apply p_keep | with_reducible apply p_attempt | (first | with_reducible apply p_val c2 | with_reducible apply p_val c4 | with_reducible apply p_val c5 | with_reducible apply p_val c7 | with_reducible apply p_val c9 | with_reducible apply p_val l1 | with_reducible apply p_val l2 | with_reducible apply p_val l3 | with_reducible apply p_val l4 | with_reducible apply p_val l5 | with_reducible apply p_val sn_str | with_reducible apply p_val sn_int | with_reducible apply p_val sn_list | with_reducible apply p_val sn_function | with_reducible apply p_val sn_NoneType | with_reducible apply p_val sn_tuple | with_reducible apply p_val sn_mem | ((with_reducible apply p_enter); (case nl => exact noLimit (by (show Heap.get? _ _ = _); (first | assumption | exact Lg.base16 (by assumption) (by assumption) rfl | exact Lg.base16 (by assumption) ((by assumption : Old _ _).fr _ _ rfl rfl rfl) rfl | exact Lg.base0 (by assumption) (by assumption) | exact Lg.base0 (by assumption) ((by assumption : Old _ _).fr _ _ rfl rfl rfl) | exact Lg.hitE (by assumption) (by (repeat (first | exact List.Mem.head _ | refine List.Mem.tail _ ?_))) (by first | assumption | exact rfl)))); (case dp => first | exact Deep.lt (by assumption) | exact Deep2.lt (by assumption) (by first | exact Nat.le_add_right _ _ | (simp [Around.deeper, Around.mark]; try omega)))) | (with_reducible apply p_standAt) | ((with_reducible show WP _ _ (buildClass _ _ _ _ _ _ _ _ _ _ _) _ _ _); conv => arg 3; delta buildClass) | ((with_reducible show WP _ _ (List.mapM mkText (Scope.freeNames _)) _ _ _); first | refine' p_is (m' := List.mapM mkText []) (by kernel_rfl!) ?_ | refine' p_is (m' := List.mapM mkText [⟨#[109, 121, 99, 109, 112]⟩]) (by kernel_rfl!) ?_) | ((with_reducible show wpAny _ _ (runValue (Code.builtin "proto.collect" _)) _ _ _); refine' collect_ok ?S ?hSl ?_; (case S => assumption); (case hSl => (first | assumption | exact Lg.base16 (by assumption) (by assumption) rfl | exact Lg.base16 (by assumption) ((by assumption : Old _ _).fr _ _ rfl rfl rfl) rfl | exact Lg.base0 (by assumption) (by assumption) | exact Lg.base0 (by assumption) ((by assumption : Old _ _).fr _ _ rfl rfl rfl) | exact Lg.hitE (by assumption) (by (repeat (first | exact List.Mem.head _ | refine List.Mem.tail _ ?_))) (by first | assumption | exact rfl))); intro hC aC tkC kC nC eC; (have LC := Lg.add (by assumption) kC nC eC); clear kC nC eC) | ((with_reducible apply p_croom); (case hu => assumption))) | ((with_reducible apply p_slot); (case hi => kernel_rfl!)) | ((with_reducible apply p_iteB); (case hb => kernel_rfl!)) | ((with_reducible apply p_iteN); (case hb => kernel_rfl!)) | ((refine' p_see (Bx.mk ?_)); (first | (first | ((with_reducible apply p_execsH); intro QQ kQ) | ((with_reducible apply p_goS); (case H => assumption); clear kQ QQ) | ((with_reducible apply p_goR); (case H => assumption); clear kQ QQ)) | with_reducible apply p_sbind | with_reducible apply p_bind | with_reducible apply p_rule | with_reducible apply p_point | with_reducible apply p_pure | ((with_reducible apply p_load); (case ho => (first | assumption | exact Lg.base16 (by assumption) (by assumption) rfl | exact Lg.base16 (by assumption) ((by assumption : Old _ _).fr _ _ rfl rfl rfl) rfl | exact Lg.base0 (by assumption) (by assumption) | exact Lg.base0 (by assumption) ((by assumption : Old _ _).fr _ _ rfl rfl rfl) | exact Lg.hitE (by assumption) (by (repeat (first | exact List.Mem.head _ | refine List.Mem.tail _ ?_))) (by first | assumption | exact rfl))); (any_goals (try exact (Option.none : Option Value)))) | with_reducible apply p_freshK | with_reducible apply p_fresh | with_reducible apply p_at | with_reducible apply p_ask | ((with_reducible apply p_allocFnG); (case L => assumption); intro _ _ _ _ _) | ((with_reducible apply p_allocG); (case L => assumption); (case e => (conv => lhs; reduce); try exact rfl); (case hf => exact rfl); intro _ _ _ _ _) | ((with_reducible apply p_updateFG); (case L => assumption); (case U => intro q'; (repeat (first | (apply SetAt.here; exact rfl) | apply SetAt.there))); (case e1 => first | assumption | exact rfl); (case e => (conv => lhs; reduce); try exact rfl); (case hf => exact rfl); intro _ _ _ _) | ((with_reducible apply p_updateG); (case L => assumption); (case U => intro q'; (repeat (first | (apply SetAt.here; exact rfl) | apply SetAt.there))); (case e1 => first | assumption | exact rfl); (case e => rfl); (case hf => rfl); intro _ _ _ _))) | (apply p_sbind) | (apply p_bind))
  rename_i fr0 hf0 oohf0 EEhf0 Df0 cell hc0 oohc0 EEhc0 Dc0 hu0 oohu0 EEhu0 Du0
  refine ⟨rfl, codeAny_func ?_⟩
  refine WP.out (WP.noE fun EE => ?_)
  generalize hA : A.deeper _ = A1
  have S1' : Deep2 A1 := hA ▸ Deep3.deeper S _
  have S1 := S1'.deep
  clear hA
  refine p_env ?_
  repeat (first | ((with_reducible apply p_nsLookB); (case B => assumption); (case e => first | exact bi_object | exact bi_bc)) | (first | (first | ((with_reducible apply p_execsH); intro QQ kQ) | ((with_reducible apply p_goS); (case H => assumption); clear kQ QQ) | ((with_reducible apply p_goR); (case H => assumption); clear kQ QQ)) | with_reducible apply p_sbind | with_reducible apply p_bind | with_reducible apply p_rule | with_reducible apply p_point | with_reducible apply p_pure | ((with_reducible apply p_load); (case ho => (first | assumption | exact Lg.base16 (by assumption) (by assumption) rfl | exact Lg.base16 (by assumption) ((by assumption : Old _ _).fr _ _ rfl rfl rfl) rfl | exact Lg.base0 (by assumption) (by assumption) | exact Lg.base0 (by assumption) ((by assumption : Old _ _).fr _ _ rfl rfl rfl) | exact Lg.hitE (by assumption) (by (repeat (first | exact List.Mem.head _ | refine List.Mem.tail _ ?_))) (by first | assumption | exact rfl))); (any_goals (try exact (Option.none : Option Value)))) | with_reducible apply p_freshK | with_reducible apply p_fresh | with_reducible apply p_at | with_reducible apply p_ask | ((with_reducible apply p_allocFnG); (case L => assumption); intro _ _ _ _ _) | ((with_reducible apply p_allocG); (case L => assumption); (case e => (conv => lhs; reduce); try exact rfl); (case hf => exact rfl); intro _ _ _ _ _) | ((with_reducible apply p_updateFG); (case L => assumption); (case U => intro q'; (repeat (first | (apply SetAt.here; exact rfl) | apply SetAt.there))); (case e1 => first | assumption | exact rfl); (case e => (conv => lhs; reduce); try exact rfl); (case hf => exact rfl); intro _ _ _ _) | ((with_reducible apply p_updateG); (case L => assumption); (case U => intro q'; (repeat (first | (apply SetAt.here; exact rfl) | apply SetAt.there))); (case e1 => first | assumption | exact rfl); (case e => rfl); (case hf => rfl); intro _ _ _ _)) | with_reducible apply p_holding | with_reducible apply p_try' | with_reducible apply p_try | with_reducible apply p_keep | with_reducible apply p_attempt | (first | with_reducible apply p_val c2 | with_reducible apply p_val c4 | with_reducible apply p_val c5 | with_reducible apply p_val c7 | with_reducible apply p_val c9 | with_reducible apply p_val l1 | with_reducible apply p_val l2 | with_reducible apply p_val l3 | with_reducible apply p_val l4 | with_reducible apply p_val l5 | with_reducible apply p_val sn_str | with_reducible apply p_val sn_int | with_reducible apply p_val sn_list | with_reducible apply p_val sn_function | with_reducible apply p_val sn_NoneType | with_reducible apply p_val sn_tuple | with_reducible apply p_val sn_mem | ((with_reducible apply p_enter); (case nl => exact noLimit (by (show Heap.get? _ _ = _); (first | assumption | exact Lg.base16 (by assumption) (by assumption) rfl | exact Lg.base16 (by assumption) ((by assumption : Old _ _).fr _ _ rfl rfl rfl) rfl | exact Lg.base0 (by assumption) (by assumption) | exact Lg.base0 (by assumption) ((by assumption : Old _ _).fr _ _ rfl rfl rfl) | exact Lg.hitE (by assumption) (by (repeat (first | exact List.Mem.head _ | refine List.Mem.tail _ ?_))) (by first | assumption | exact rfl)))); (case dp => first | exact Deep.lt (by assumption) | exact Deep2.lt (by assumption) (by first | exact Nat.le_add_right _ _ | (simp [Around.deeper, Around.mark]; try omega)))) | (with_reducible apply p_standAt) | ((with_reducible show WP _ _ (buildClass _ _ _ _ _ _ _ _ _ _ _) _ _ _); conv => arg 3; delta buildClass) | ((with_reducible show WP _ _ (List.mapM mkText (Scope.freeNames _)) _ _ _); first | refine' p_is (m' := List.mapM mkText []) (by kernel_rfl!) ?_ | refine' p_is (m' := List.mapM mkText [⟨#[109, 121, 99, 109, 112]⟩]) (by kernel_rfl!) ?_) | ((with_reducible show wpAny _ _ (runValue (Code.builtin "proto.collect" _)) _ _ _); refine' collect_ok ?S ?hSl ?_; (case S => assumption); (case hSl => (first | assumption | exact Lg.base16 (by assumption) (by assumption) rfl | exact Lg.base16 (by assumption) ((by assumption : Old _ _).fr _ _ rfl rfl rfl) rfl | exact Lg.base0 (by assumption) (by assumption) | exact Lg.base0 (by assumption) ((by assumption : Old _ _).fr _ _ rfl rfl rfl) | exact Lg.hitE (by assumption) (by (repeat (first | exact List.Mem.head _ | refine List.Mem.tail _ ?_))) (by first | assumption | exact rfl))); intro hC aC tkC kC nC eC; (have LC := Lg.add (by assumption) kC nC eC); clear kC nC eC) | ((with_reducible apply p_croom); (case hu => assumption))) | ((with_reducible apply p_slot); (case hi => kernel_rfl!)) | ((with_reducible apply p_iteB); (case hb => kernel_rfl!)) | ((with_reducible apply p_iteN); (case hb => kernel_rfl!)) | ((refine' p_see (Bx.mk ?_)); (first | (first | ((with_reducible apply p_execsH); intro QQ kQ) | ((with_reducible apply p_goS); (case H => assumption); clear kQ QQ) | ((with_reducible apply p_goR); (case H => assumption); clear kQ QQ)) | with_reducible apply p_sbind | with_reducible apply p_bind | with_reducible apply p_rule | with_reducible apply p_point | with_reducible apply p_pure | ((with_reducible apply p_load); (case ho => (first | assumption | exact Lg.base16 (by assumption) (by assumption) rfl | exact Lg.base16 (by assumption) ((by assumption : Old _ _).fr _ _ rfl rfl rfl) rfl | exact Lg.base0 (by assumption) (by assumption) | exact Lg.base0 (by assumption) ((by assumption : Old _ _).fr _ _ rfl rfl rfl) | exact Lg.hitE (by assumption) (by (repeat (first | exact List.Mem.head _ | refine List.Mem.tail _ ?_))) (by first | assumption | exact rfl))); (any_goals (try exact (Option.none : Option Value)))) | with_reducible apply p_freshK | with_reducible apply p_fresh | with_reducible apply p_at | with_reducible apply p_ask | ((with_reducible apply p_allocFnG); (case L => assumption); intro _ _ _ _ _) | ((with_reducible apply p_allocG); (case L => assumption); (case e => (conv => lhs; reduce); try exact rfl); (case hf => exact rfl); intro _ _ _ _ _) | ((with_reducible apply p_updateFG); (case L => assumption); (case U => intro q'; (repeat (first | (apply SetAt.here; exact rfl) | apply SetAt.there))); (case e1 => first | assumption | exact rfl); (case e => (conv => lhs; reduce); try exact rfl); (case hf => exact rfl); intro _ _ _ _) | ((with_reducible apply p_updateG); (case L => assumption); (case U => intro q'; (repeat (first | (apply SetAt.here; exact rfl) | apply SetAt.there))); (case e1 => first | assumption | exact rfl); (case e => rfl); (case hf => rfl); intro _ _ _ _))) | (apply p_sbind) | (apply p_bind))
  rename_i aB hB oohB EEhB DB
  refine' p_is (m' := run (.call (.builtin "type.__getattribute__") ⟨[.type "type", .str ⟨#[95, 95, 112, 114, 101, 112, 97, 114, 101, 95, 95]⟩ (tk + 1)], []⟩)) (by kernel_rfl!) ?_
  refine' WP.mk (run_of_call (wpAny_sh (Deep.sh S1) (prep_ok0 _ _ _ _ _ ?_)))
  intro h4 aP t4 k4 n4 e4
  have L4 := Lg.add (by assumption) k4 n4 e4
  clear k4 n4 e4
  repeat (first | ((with_reducible apply p_nsLookB); (case B => assumption); (case e => first | exact bi_object | exact bi_bc)) | (first | (first | ((with_reducible apply p_execsH); intro QQ kQ) | ((with_reducible apply p_goS); (case H => assumption); clear kQ QQ) | ((with_reducible apply p_goR); (case H => assumption); clear kQ QQ)) | with_reducible apply p_sbind | with_reducible apply p_bind | with_reducible apply p_rule | with_reducible apply p_point | with_reducible apply p_pure | ((with_reducible apply p_load); (case ho => (first | assumption | exact Lg.base16 (by assumption) (by assumption) rfl | exact Lg.base16 (by assumption) ((by assumption : Old _ _).fr _ _ rfl rfl rfl) rfl | exact Lg.base0 (by assumption) (by assumption) | exact Lg.base0 (by assumption) ((by assumption : Old _ _).fr _ _ rfl rfl rfl) | exact Lg.hitE (by assumption) (by (repeat (first | exact List.Mem.head _ | refine List.Mem.tail _ ?_))) (by first | assumption | exact rfl))); (any_goals (try exact (Option.none : Option Value)))) | with_reducible apply p_freshK | with_reducible apply p_fresh | with_reducible apply p_at | with_reducible apply p_ask | ((with_reducible apply p_allocFnG); (case L => assumption); intro _ _ _ _ _) | ((with_reducible apply p_allocG); (case L => assumption); (case e => (conv => lhs; reduce); try exact rfl); (case hf => exact rfl); intro _ _ _ _ _) | ((with_reducible apply p_updateFG); (case L => assumption); (case U => intro q'; (repeat (first | (apply SetAt.here; exact rfl) | apply SetAt.there))); (case e1 => first | assumption | exact rfl); (case e => (conv => lhs; reduce); try exact rfl); (case hf => exact rfl); intro _ _ _ _) | ((with_reducible apply p_updateG); (case L => assumption); (case U => intro q'; (repeat (first | (apply SetAt.here; exact rfl) | apply SetAt.there))); (case e1 => first | assumption | exact rfl); (case e => rfl); (case hf => rfl); intro _ _ _ _)) | with_reducible apply p_holding | with_reducible apply p_try' | with_reducible apply p_try | with_reducible apply p_keep | with_reducible apply p_attempt | (first | with_reducible apply p_val c2 | with_reducible apply p_val c4 | with_reducible apply p_val c5 | with_reducible apply p_val c7 | with_reducible apply p_val c9 | with_reducible apply p_val l1 | with_reducible apply p_val l2 | with_reducible apply p_val l3 | with_reducible apply p_val l4 | with_reducible apply p_val l5 | with_reducible apply p_val sn_str | with_reducible apply p_val sn_int | with_reducible apply p_val sn_list | with_reducible apply p_val sn_function | with_reducible apply p_val sn_NoneType | with_reducible apply p_val sn_tuple | with_reducible apply p_val sn_mem | ((with_reducible apply p_enter); (case nl => exact noLimit (by (show Heap.get? _ _ = _); (first | assumption | exact Lg.base16 (by assumption) (by assumption) rfl | exact Lg.base16 (by assumption) ((by assumption : Old _ _).fr _ _ rfl rfl rfl) rfl | exact Lg.base0 (by assumption) (by assumption) | exact Lg.base0 (by assumption) ((by assumption : Old _ _).fr _ _ rfl rfl rfl) | exact Lg.hitE (by assumption) (by (repeat (first | exact List.Mem.head _ | refine List.Mem.tail _ ?_))) (by first | assumption | exact rfl)))); (case dp => first | exact Deep.lt (by assumption) | exact Deep2.lt (by assumption) (by first | exact Nat.le_add_right _ _ | (simp [Around.deeper, Around.mark]; try omega)))) | (with_reducible apply p_standAt) | ((with_reducible show WP _ _ (buildClass _ _ _ _ _ _ _ _ _ _ _) _ _ _); conv => arg 3; delta buildClass) | ((with_reducible show WP _ _ (List.mapM mkText (Scope.freeNames _)) _ _ _); first | refine' p_is (m' := List.mapM mkText []) (by kernel_rfl!) ?_ | refine' p_is (m' := List.mapM mkText [⟨#[109, 121, 99, 109, 112]⟩]) (by kernel_rfl!) ?_) | ((with_reducible show wpAny _ _ (runValue (Code.builtin "proto.collect" _)) _ _ _); refine' collect_ok ?S ?hSl ?_; (case S => assumption); (case hSl => (first | assumption | exact Lg.base16 (by assumption) (by assumption) rfl | exact Lg.base16 (by assumption) ((by assumption : Old _ _).fr _ _ rfl rfl rfl) rfl | exact Lg.base0 (by assumption) (by assumption) | exact Lg.base0 (by assumption) ((by assumption : Old _ _).fr _ _ rfl rfl rfl) | exact Lg.hitE (by assumption) (by (repeat (first | exact List.Mem.head _ | refine List.Mem.tail _ ?_))) (by first | assumption | exact rfl))); intro hC aC tkC kC nC eC; (have LC := Lg.add (by assumption) kC nC eC); clear kC nC eC) | ((with_reducible apply p_croom); (case hu => assumption))) | ((with_reducible apply p_slot); (case hi => kernel_rfl!)) | ((with_reducible apply p_iteB); (case hb => kernel_rfl!)) | ((with_reducible apply p_iteN); (case hb => kernel_rfl!)) | ((refine' p_see (Bx.mk ?_)); (first | (first | ((with_reducible apply p_execsH); intro QQ kQ) | ((with_reducible apply p_goS); (case H => assumption); clear kQ QQ) | ((with_reducible apply p_goR); (case H => assumption); clear kQ QQ)) | with_reducible apply p_sbind | with_reducible apply p_bind | with_reducible apply p_rule | with_reducible apply p_point | with_reducible apply p_pure | ((with_reducible apply p_load); (case ho => (first | assumption | exact Lg.base16 (by assumption) (by assumption) rfl | exact Lg.base16 (by assumption) ((by assumption : Old _ _).fr _ _ rfl rfl rfl) rfl | exact Lg.base0 (by assumption) (by assumption) | exact Lg.base0 (by assumption) ((by assumption : Old _ _).fr _ _ rfl rfl rfl) | exact Lg.hitE (by assumption) (by (repeat (first | exact List.Mem.head _ | refine List.Mem.tail _ ?_))) (by first | assumption | exact rfl))); (any_goals (try exact (Option.none : Option Value)))) | with_reducible apply p_freshK | with_reducible apply p_fresh | with_reducible apply p_at | with_reducible apply p_ask | ((with_reducible apply p_allocFnG); (case L => assumption); intro _ _ _ _ _) | ((with_reducible apply p_allocG); (case L => assumption); (case e => (conv => lhs; reduce); try exact rfl); (case hf => exact rfl); intro _ _ _ _ _) | ((with_reducible apply p_updateFG); (case L => assumption); (case U => intro q'; (repeat (first | (apply SetAt.here; exact rfl) | apply SetAt.there))); (case e1 => first | assumption | exact rfl); (case e => (conv => lhs; reduce); try exact rfl); (case hf => exact rfl); intro _ _ _ _) | ((with_reducible apply p_updateG); (case L => assumption); (case U => intro q'; (repeat (first | (apply SetAt.here; exact rfl) | apply SetAt.there))); (case e1 => first | assumption | exact rfl); (case e => rfl); (case hf => rfl); intro _ _ _ _))) | (apply p_sbind) | (apply p_bind))
  refine' p_is (m' := run (.call (.ref aP) ⟨[.str ⟨#[75]⟩ tk, .ref aB], []⟩)) (by kernel_rfl!) ?_
  refine' WP.mk (run_of_call (prep2_ok w _ ?hS _ _ _ _ _ _ _ _ _ _ ?hP ?hZ ?_))
  case hS => exact S1
  case hZ => (first | assumption | exact Lg.base16 (by assumption) (by assumption) rfl | exact Lg.base16 (by assumption) ((by assumption : Old _ _).fr _ _ rfl rfl rfl) rfl | exact Lg.base0 (by assumption) (by assumption) | exact Lg.base0 (by assumption) ((by assumption : Old _ _).fr _ _ rfl rfl rfl) | exact Lg.hitE (by assumption) (by (repeat (first | exact List.Mem.head _ | refine List.Mem.tail _ ?_))) (by first | assumption | exact rfl))
  case hP => (first | assumption | exact Lg.base16 (by assumption) (by assumption) rfl | exact Lg.base16 (by assumption) ((by assumption : Old _ _).fr _ _ rfl rfl rfl) rfl | exact Lg.base0 (by assumption) (by assumption) | exact Lg.base0 (by assumption) ((by assumption : Old _ _).fr _ _ rfl rfl rfl) | exact Lg.hitE (by assumption) (by (repeat (first | exact List.Mem.head _ | refine List.Mem.tail _ ?_))) (by first | assumption | exact rfl))
  intro h5 aN t5 k5 n5 hne e5
  have L5 := Lg.add (by assumption) k5 n5 e5
  clear k5 n5 e5
  repeat (first | ((with_reducible apply p_nsLookB); (case B => assumption); (case e => first | exact bi_object | exact bi_bc)) | (first | (first | ((with_reducible apply p_execsH); intro QQ kQ) | ((with_reducible apply p_goS); (case H => assumption); clear kQ QQ) | ((with_reducible apply p_goR); (case H => assumption); clear kQ QQ)) | with_reducible apply p_sbind | with_reducible apply p_bind | with_reducible apply p_rule | with_reducible apply p_point | with_reducible apply p_pure | ((with_reducible apply p_load); (case ho => (first | assumption | exact Lg.base16 (by assumption) (by assumption) rfl | exact Lg.base16 (by assumption) ((by assumption : Old _ _).fr _ _ rfl rfl rfl) rfl | exact Lg.base0 (by assumption) (by assumption) | exact Lg.base0 (by assumption) ((by assumption : Old _ _).fr _ _ rfl rfl rfl) | exact Lg.hitE (by assumption) (by (repeat (first | exact List.Mem.head _ | refine List.Mem.tail _ ?_))) (by first | assumption | exact rfl))); (any_goals (try exact (Option.none : Option Value)))) | with_reducible apply p_freshK | with_reducible apply p_fresh | with_reducible apply p_at | with_reducible apply p_ask | ((with_reducible apply p_allocFnG); (case L => assumption); intro _ _ _ _ _) | ((with_reducible apply p_allocG); (case L => assumption); (case e => (conv => lhs; reduce); try exact rfl); (case hf => exact rfl); intro _ _ _ _ _) | ((with_reducible apply p_updateFG); (case L => assumption); (case U => intro q'; (repeat (first | (apply SetAt.here; exact rfl) | apply SetAt.there))); (case e1 => first | assumption | exact rfl); (case e => (conv => lhs; reduce); try exact rfl); (case hf => exact rfl); intro _ _ _ _) | ((with_reducible apply p_updateG); (case L => assumption); (case U => intro q'; (repeat (first | (apply SetAt.here; exact rfl) | apply SetAt.there))); (case e1 => first | assumption | exact rfl); (case e => rfl); (case hf => rfl); intro _ _ _ _)) | with_reducible apply p_holding | with_reducible apply p_try' | with_reducible apply p_try | with_reducible apply p_keep | with_reducible apply p_attempt | (first | with_reducible apply p_val c2 | with_reducible apply p_val c4 | with_reducible apply p_val c5 | with_reducible apply p_val c7 | with_reducible apply p_val c9 | with_reducible apply p_val l1 | with_reducible apply p_val l2 | with_reducible apply p_val l3 | with_reducible apply p_val l4 | with_reducible apply p_val l5 | with_reducible apply p_val sn_str | with_reducible apply p_val sn_int | with_reducible apply p_val sn_list | with_reducible apply p_val sn_function | with_reducible apply p_val sn_NoneType | with_reducible apply p_val sn_tuple | with_reducible apply p_val sn_mem | ((with_reducible apply p_enter); (case nl => exact noLimit (by (show Heap.get? _ _ = _); (first | assumption | exact Lg.base16 (by assumption) (by assumption) rfl | exact Lg.base16 (by assumption) ((by assumption : Old _ _).fr _ _ rfl rfl rfl) rfl | exact Lg.base0 (by assumption) (by assumption) | exact Lg.base0 (by assumption) ((by assumption : Old _ _).fr _ _ rfl rfl rfl) | exact Lg.hitE (by assumption) (by (repeat (first | exact List.Mem.head _ | refine List.Mem.tail _ ?_))) (by first | assumption | exact rfl)))); (case dp => first | exact Deep.lt (by assumption) | exact Deep2.lt (by assumption) (by first | exact Nat.le_add_right _ _ | (simp [Around.deeper, Around.mark]; try omega)))) | (with_reducible apply p_standAt) | ((with_reducible show WP _ _ (buildClass _ _ _ _ _ _ _ _ _ _ _) _ _ _); conv => arg 3; delta buildClass) | ((with_reducible show WP _ _ (List.mapM mkText (Scope.freeNames _)) _ _ _); first | refine' p_is (m' := List.mapM mkText []) (by kernel_rfl!) ?_ | refine' p_is (m' := List.mapM mkText [⟨#[109, 121, 99, 109, 112]⟩]) (by kernel_rfl!) ?_) | ((with_reducible show wpAny _ _ (runValue (Code.builtin "proto.collect" _)) _ _ _); refine' collect_ok ?S ?hSl ?_; (case S => assumption); (case hSl => (first | assumption | exact Lg.base16 (by assumption) (by assumption) rfl | exact Lg.base16 (by assumption) ((by assumption : Old _ _).fr _ _ rfl rfl rfl) rfl | exact Lg.base0 (by assumption) (by assumption) | exact Lg.base0 (by assumption) ((by assumption : Old _ _).fr _ _ rfl rfl rfl) | exact Lg.hitE (by assumption) (by (repeat (first | exact List.Mem.head _ | refine List.Mem.tail _ ?_))) (by first | assumption | exact rfl))); intro hC aC tkC kC nC eC; (have LC := Lg.add (by assumption) kC nC eC); clear kC nC eC) | ((with_reducible apply p_croom); (case hu => assumption))) | ((with_reducible apply p_slot); (case hi => kernel_rfl!)) | ((with_reducible apply p_iteB); (case hb => kernel_rfl!)) | ((with_reducible apply p_iteN); (case hb => kernel_rfl!)) | ((refine' p_see (Bx.mk ?_)); (first | (first | ((with_reducible apply p_execsH); intro QQ kQ) | ((with_reducible apply p_goS); (case H => assumption); clear kQ QQ) | ((with_reducible apply p_goR); (case H => assumption); clear kQ QQ)) | with_reducible apply p_sbind | with_reducible apply p_bind | with_reducible apply p_rule | with_reducible apply p_point | with_reducible apply p_pure | ((with_reducible apply p_load); (case ho => (first | assumption | exact Lg.base16 (by assumption) (by assumption) rfl | exact Lg.base16 (by assumption) ((by assumption : Old _ _).fr _ _ rfl rfl rfl) rfl | exact Lg.base0 (by assumption) (by assumption) | exact Lg.base0 (by assumption) ((by assumption : Old _ _).fr _ _ rfl rfl rfl) | exact Lg.hitE (by assumption) (by (repeat (first | exact List.Mem.head _ | refine List.Mem.tail _ ?_))) (by first | assumption | exact rfl))); (any_goals (try exact (Option.none : Option Value)))) | with_reducible apply p_freshK | with_reducible apply p_fresh | with_reducible apply p_at | with_reducible apply p_ask | ((with_reducible apply p_allocFnG); (case L => assumption); intro _ _ _ _ _) | ((with_reducible apply p_allocG); (case L => assumption); (case e => (conv => lhs; reduce); try exact rfl); (case hf => exact rfl); intro _ _ _ _ _) | ((with_reducible apply p_updateFG); (case L => assumption); (case U => intro q'; (repeat (first | (apply SetAt.here; exact rfl) | apply SetAt.there))); (case e1 => first | assumption | exact rfl); (case e => (conv => lhs; reduce); try exact rfl); (case hf => exact rfl); intro _ _ _ _) | ((with_reducible apply p_updateG); (case L => assumption); (case U => intro q'; (repeat (first | (apply SetAt.here; exact rfl) | apply SetAt.there))); (case e1 => first | assumption | exact rfl); (case e => rfl); (case hf => rfl); intro _ _ _ _))) | (apply p_sbind) | (apply p_bind))
  refine WP.id' ?_
  conv => arg 3; delta notTheModulesDict
  refine' p_iteF ?hc ?_
  case hc => simp [sysModules, hne]
  repeat (first | ((with_reducible apply p_nsLookB); (case B => assumption); (case e => first | exact bi_object | exact bi_bc)) | (first | (first | ((with_reducible apply p_execsH); intro QQ kQ) | ((with_reducible apply p_goS); (case H => assumption); clear kQ QQ) | ((with_reducible apply p_goR); (case H => assumption); clear kQ QQ)) | with_reducible apply p_sbind | with_reducible apply p_bind | with_reducible apply p_rule | with_reducible apply p_point | with_reducible apply p_pure | ((with_reducible apply p_load); (case ho => (first | assumption | exact Lg.base16 (by assumption) (by assumption) rfl | exact Lg.base16 (by assumption) ((by assumption : Old _ _).fr _ _ rfl rfl rfl) rfl | exact Lg.base0 (by assumption) (by assumption) | exact Lg.base0 (by assumption) ((by assumption : Old _ _).fr _ _ rfl rfl rfl) | exact Lg.hitE (by assumption) (by (repeat (first | exact List.Mem.head _ | refine List.Mem.tail _ ?_))) (by first | assumption | exact rfl))); (any_goals (try exact (Option.none : Option Value)))) | with_reducible apply p_freshK | with_reducible apply p_fresh | with_reducible apply p_at | with_reducible apply p_ask | ((with_reducible apply p_allocFnG); (case L => assumption); intro _ _ _ _ _) | ((with_reducible apply p_allocG); (case L => assumption); (case e => (conv => lhs; reduce); try exact rfl); (case hf => exact rfl); intro _ _ _ _ _) | ((with_reducible apply p_updateFG); (case L => assumption); (case U => intro q'; (repeat (first | (apply SetAt.here; exact rfl) | apply SetAt.there))); (case e1 => first | assumption | exact rfl); (case e => (conv => lhs; reduce); try exact rfl); (case hf => exact rfl); intro _ _ _ _) | ((with_reducible apply p_updateG); (case L => assumption); (case U => intro q'; (repeat (first | (apply SetAt.here; exact rfl) | apply SetAt.there))); (case e1 => first | assumption | exact rfl); (case e => rfl); (case hf => rfl); intro _ _ _ _)) | with_reducible apply p_holding | with_reducible apply p_try' | with_reducible apply p_try | with_reducible apply p_keep | with_reducible apply p_attempt | (first | with_reducible apply p_val c2 | with_reducible apply p_val c4 | with_reducible apply p_val c5 | with_reducible apply p_val c7 | with_reducible apply p_val c9 | with_reducible apply p_val l1 | with_reducible apply p_val l2 | with_reducible apply p_val l3 | with_reducible apply p_val l4 | with_reducible apply p_val l5 | with_reducible apply p_val sn_str | with_reducible apply p_val sn_int | with_reducible apply p_val sn_list | with_reducible apply p_val sn_function | with_reducible apply p_val sn_NoneType | with_reducible apply p_val sn_tuple | with_reducible apply p_val sn_mem | ((with_reducible apply p_enter); (case nl => exact noLimit (by (show Heap.get? _ _ = _); (first | assumption | exact Lg.base16 (by assumption) (by assumption) rfl | exact Lg.base16 (by assumption) ((by assumption : Old _ _).fr _ _ rfl rfl rfl) rfl | exact Lg.base0 (by assumption) (by assumption) | exact Lg.base0 (by assumption) ((by assumption : Old _ _).fr _ _ rfl rfl rfl) | exact Lg.hitE (by assumption) (by (repeat (first | exact List.Mem.head _ | refine List.Mem.tail _ ?_))) (by first | assumption | exact rfl)))); (case dp => first | exact Deep.lt (by assumption) | exact Deep2.lt (by assumption) (by first | exact Nat.le_add_right _ _ | (simp [Around.deeper, Around.mark]; try omega)))) | (with_reducible apply p_standAt) | ((with_reducible show WP _ _ (buildClass _ _ _ _ _ _ _ _ _ _ _) _ _ _); conv => arg 3; delta buildClass) | ((with_reducible show WP _ _ (List.mapM mkText (Scope.freeNames _)) _ _ _); first | refine' p_is (m' := List.mapM mkText []) (by kernel_rfl!) ?_ | refine' p_is (m' := List.mapM mkText [⟨#[109, 121, 99, 109, 112]⟩]) (by kernel_rfl!) ?_) | ((with_reducible show wpAny _ _ (runValue (Code.builtin "proto.collect" _)) _ _ _); refine' collect_ok ?S ?hSl ?_; (case S => assumption); (case hSl => (first | assumption | exact Lg.base16 (by assumption) (by assumption) rfl | exact Lg.base16 (by assumption) ((by assumption : Old _ _).fr _ _ rfl rfl rfl) rfl | exact Lg.base0 (by assumption) (by assumption) | exact Lg.base0 (by assumption) ((by assumption : Old _ _).fr _ _ rfl rfl rfl) | exact Lg.hitE (by assumption) (by (repeat (first | exact List.Mem.head _ | refine List.Mem.tail _ ?_))) (by first | assumption | exact rfl))); intro hC aC tkC kC nC eC; (have LC := Lg.add (by assumption) kC nC eC); clear kC nC eC) | ((with_reducible apply p_croom); (case hu => assumption))) | ((with_reducible apply p_slot); (case hi => kernel_rfl!)) | ((with_reducible apply p_iteB); (case hb => kernel_rfl!)) | ((with_reducible apply p_iteN); (case hb => kernel_rfl!)) | ((refine' p_see (Bx.mk ?_)); (first | (first | ((with_reducible apply p_execsH); intro QQ kQ) | ((with_reducible apply p_goS); (case H => assumption); clear kQ QQ) | ((with_reducible apply p_goR); (case H => assumption); clear kQ QQ)) | with_reducible apply p_sbind | with_reducible apply p_bind | with_reducible apply p_rule | with_reducible apply p_point | with_reducible apply p_pure | ((with_reducible apply p_load); (case ho => (first | assumption | exact Lg.base16 (by assumption) (by assumption) rfl | exact Lg.base16 (by assumption) ((by assumption : Old _ _).fr _ _ rfl rfl rfl) rfl | exact Lg.base0 (by assumption) (by assumption) | exact Lg.base0 (by assumption) ((by assumption : Old _ _).fr _ _ rfl rfl rfl) | exact Lg.hitE (by assumption) (by (repeat (first | exact List.Mem.head _ | refine List.Mem.tail _ ?_))) (by first | assumption | exact rfl))); (any_goals (try exact (Option.none : Option Value)))) | with_reducible apply p_freshK | with_reducible apply p_fresh | with_reducible apply p_at | with_reducible apply p_ask | ((with_reducible apply p_allocFnG); (case L => assumption); intro _ _ _ _ _) | ((with_reducible apply p_allocG); (case L => assumption); (case e => (conv => lhs; reduce); try exact rfl); (case hf => exact rfl); intro _ _ _ _ _) | ((with_reducible apply p_updateFG); (case L => assumption); (case U => intro q'; (repeat (first | (apply SetAt.here; exact rfl) | apply SetAt.there))); (case e1 => first | assumption | exact rfl); (case e => (conv => lhs; reduce); try exact rfl); (case hf => exact rfl); intro _ _ _ _) | ((with_reducible apply p_updateG); (case L => assumption); (case U => intro q'; (repeat (first | (apply SetAt.here; exact rfl) | apply SetAt.there))); (case e1 => first | assumption | exact rfl); (case e => rfl); (case hf => rfl); intro _ _ _ _))) | (apply p_sbind) | (apply p_bind))
  rename_i fr hfr oohfr EEhfr Dfr hq1 oohq1 EEhq1 Dq1 hq2 oohq2 EEhq2 Dq2 hb oohb EEhb Db
  refine WP.mk (wpAny_run (codeAny_body rfl rfl ?_))
  refine WP.out (WP.noE fun EE => ?_)
  generalize hA : Around.deeper _ _ = A2
  have S2 : Deep A2 := hA ▸ Deep2.deeper S1' _
  clear hA
  refine p_env ?_
  refine Lg.sub5 (fun x1 x2 x3 x4 x5 => [(fr, x1), (aN, x2), (aP, { cls := .type "builtin_function_or_method", data := .fields #[.builtin "type.__prepare__", .type "type"] }), (aB, x3), (cell, x4), (fr0, x5)]) EEhfr EEhb EEhB EEhu0 EEhf0 Db fun Db => ?_
  refine h_start Db fun n0 => ?_
  clear Df0 Dc0 Du0 DB L4 L5 Dfr Dq1 Dq2 Db
  repeat (first | (first | with_reducible apply h_sbind | with_reducible apply h_bind | with_reducible apply h_rule | with_reducible apply h_point | with_reducible apply h_pure | ((with_reducible apply h_load); (case hm => ((repeat (first | exact List.Mem.head _ | refine List.Mem.tail _ ?_)); done)); (any_goals (try exact (Option.none : Option Value)))) | ((with_reducible apply h_loadB0); (case e => first | assumption | exact (by assumption : Old _ _).fr _ _ rfl rfl rfl); (any_goals (try exact (Option.none : Option Value)))) | with_reducible apply h_fresh | with_reducible apply h_at | with_reducible apply h_ask | with_reducible apply h_allocFn | ((with_reducible apply h_alloc); (case e => (conv => lhs; reduce); try exact rfl); (case hf => exact rfl)) | ((with_reducible apply h_updateF); (case U => ((repeat (first | (apply SetAt.here; exact rfl) | apply SetAt.there)); done)); (case e => (conv => lhs; reduce); try exact rfl); (case hf => exact rfl)) | ((with_reducible apply h_update); (case U => ((repeat (first | (apply SetAt.here; exact rfl) | apply SetAt.there)); done)); (case e => rfl); (case hf => rfl))) | with_reducible apply h_exn | with_reducible apply h_exr | with_reducible apply h_execs | with_reducible apply h_holding | with_reducible apply h_try' | with_reducible apply h_try | with_reducible apply h_keep | with_reducible apply h_attempt | (with_reducible apply h_standAt) | ((with_reducible show H _ (WP _ _ (List.mapM mkText (Scope.freeNames _)) _ _)); first | refine' h_is (m' := List.mapM mkText []) (by kernel_rfl!) ?_ | refine' h_is (m' := List.mapM mkText [⟨#[109, 121, 99, 109, 112]⟩]) (by kernel_rfl!) ?_) | ((with_reducible apply h_croom); (case hu => assumption)) | ((with_reducible apply h_iteB); (case hb => kernel_rfl!)) | ((with_reducible apply h_iteN); (case hb => kernel_rfl!)) | ((apply h_load); (case hm => ((repeat (first | exact List.Mem.head _ | refine List.Mem.tail _ ?_)); done)); (any_goals (try exact (Option.none : Option Value)))) | ((apply h_loadB0); (case e => first | assumption | exact (by assumption : Old _ _).fr _ _ rfl rfl rfl); (any_goals (try exact (Option.none : Option Value)))) | (apply h_fresh) | (apply h_pure) | ((refine' h_see (Bx.mk ?_)); (first | with_reducible apply h_sbind | with_reducible apply h_bind | with_reducible apply h_rule | with_reducible apply h_point | with_reducible apply h_pure | ((with_reducible apply h_load); (case hm => ((repeat (first | exact List.Mem.head _ | refine List.Mem.tail _ ?_)); done)); (any_goals (try exact (Option.none : Option Value)))) | ((with_reducible apply h_loadB0); (case e => first | assumption | exact (by assumption : Old _ _).fr _ _ rfl rfl rfl); (any_goals (try exact (Option.none : Option Value)))) | with_reducible apply h_fresh | with_reducible apply h_at | with_reducible apply h_ask | with_reducible apply h_allocFn | ((with_reducible apply h_alloc); (case e => (conv => lhs; reduce); try exact rfl); (case hf => exact rfl)) | ((with_reducible apply h_updateF); (case U => ((repeat (first | (apply SetAt.here; exact rfl) | apply SetAt.there)); done)); (case e => (conv => lhs; reduce); try exact rfl); (case hf => exact rfl)) | ((with_reducible apply h_update); (case U => ((repeat (first | (apply SetAt.here; exact rfl) | apply SetAt.there)); done)); (case e => rfl); (case hf => rfl)))) | (apply h_sbind) | (apply h_bind))
  refine h_endP [true, true, false, true, false, true, false, true, false, true, false, true, true, false, true, false, true, true, true] fun hh0 F DF q => ?_
  replace DF : Lg [] h₀ hh0 [(n0 + 12, F 0), (n0 + 11, F 1), (n0 + 9, F 2), (n0 + 7, F 3), (n0 + 5, F 4), (n0 + 3, F 5), (n0 + 1, F 6), (n0 + 0, F 7), (aN, F 8), (aB, F 9), (cell, F 10), (fr0, F 11)] := DF
  have f0 := q 11 _ (Eq.refl (some _))
  refine' p_is (m' := run (.call (.type "type") ⟨[.str ⟨#[75]⟩ tk, .ref aB, .ref aN], []⟩)) (by kernel_rfl!) ?_
  have eN : hh0.get? aN = some { cls := .type "dict", data := .dict #[⟨reduceHash (w.params.strHash #[95, 95, 109, 111, 100, 117, 108, 101, 95, 95]), .str ⟨#[95, 95, 109, 111, 100, 117, 108, 101, 95, 95]⟩ t5, .str ⟨#[99, 112, 121, 51, 49, 51, 46, 102, 117, 110, 99, 116, 111, 111, 108, 115]⟩ (t5 + 5)⟩, ⟨reduceHash (w.params.strHash #[95, 95, 113, 117, 97, 108, 110, 97, 109, 101, 95, 95]), .str ⟨#[95, 95, 113, 117, 97, 108, 110, 97, 109, 101, 95, 95]⟩ (t5 + 2), .str ⟨#[99, 109, 112, 95, 116, 111, 95, 107, 101, 121, 46, 60, 108, 111, 99, 97, 108, 115, 62, 46, 75]⟩ (t5 + 1)⟩, ⟨reduceHash (w.params.strHash #[95, 95, 102, 105, 114, 115, 116, 108, 105, 110, 101, 110, 111, 95, 95]), .str ⟨#[95, 95, 102, 105, 114, 115, 116, 108, 105, 110, 101, 110, 111, 95, 95]⟩ (t5 + 4), .int 4 (t5 + 3)⟩, ⟨reduceHash (w.params.strHash #[95, 95, 115, 108, 111, 116, 115, 95, 95]), .str ⟨#[95, 95, 115, 108, 111, 116, 115, 95, 95]⟩ (t5 + 8), .ref (n0 + 0)⟩, ⟨reduceHash (w.params.strHash #[95, 95, 105, 110, 105, 116, 95, 95]), .str ⟨#[95, 95, 105, 110, 105, 116, 95, 95]⟩ (t5 + 9), .ref (n0 + 1)⟩, ⟨reduceHash (w.params.strHash #[95, 95, 108, 116, 95, 95]), .str ⟨#[95, 95, 108, 116, 95, 95]⟩ (t5 + 10), .ref (n0 + 3)⟩, ⟨reduceHash (w.params.strHash #[95, 95, 103, 116, 95, 95]), .str ⟨#[95, 95, 103, 116, 95, 95]⟩ (t5 + 11), .ref (n0 + 5)⟩, ⟨reduceHash (w.params.strHash #[95, 95, 101, 113, 95, 95]), .str ⟨#[95, 95, 101, 113, 95, 95]⟩ (t5 + 12), .ref (n0 + 7)⟩, ⟨reduceHash (w.params.strHash #[95, 95, 108, 101, 95, 95]), .str ⟨#[95, 95, 108, 101, 95, 95]⟩ (t5 + 13), .ref (n0 + 9)⟩, ⟨reduceHash (w.params.strHash #[95, 95, 103, 101, 95, 95]), .str ⟨#[95, 95, 103, 101, 95, 95]⟩ (t5 + 14), .ref (n0 + 11)⟩, ⟨reduceHash (w.params.strHash #[95, 95, 104, 97, 115, 104, 95, 95]), .str ⟨#[95, 95, 104, 97, 115, 104, 95, 95]⟩ (t5 + 15), .none⟩, ⟨reduceHash (w.params.strHash #[95, 95, 115, 116, 97, 116, 105, 99, 95, 97, 116, 116, 114, 105, 98, 117, 116, 101, 115, 95, 95]), .str ⟨#[95, 95, 115, 116, 97, 116, 105, 99, 95, 97, 116, 116, 114, 105, 98, 117, 116, 101, 115, 95, 95]⟩ (t5 + 17), .ref (n0 + 12)⟩] 12 } := (Lg.hitE DF (by (repeat (first | exact List.Mem.head _ | refine List.Mem.tail _ ?_))) (q _ _ (Eq.refl (some _)))).trans (by kernel_rfl!)
  have hSl : hh0.get? (n0 + 0) = some { cls := .type "list", data := .seq #[.str ⟨#[111, 98, 106]⟩ (t5 + 7)] 0 } := (Lg.hitE DF (by (repeat (first | exact List.Mem.head _ | refine List.Mem.tail _ ?_))) (q _ _ (Eq.refl (some _)))).trans (by kernel_rfl!)
  have hSa : hh0.get? (n0 + 12) = some { cls := .type "tuple", data := .seq #[.str ⟨#[111, 98, 106]⟩ (t5 + 16)] 0 } := (Lg.hitE DF (by (repeat (first | exact List.Mem.head _ | refine List.Mem.tail _ ?_))) (q _ _ (Eq.refl (some _)))).trans (by kernel_rfl!)
  have hBa : hh0.get? aB = some { cls := .type "tuple", data := .seq #[.type "object"] 0 } := (Lg.hitE DF (by (repeat (first | exact List.Mem.head _ | refine List.Mem.tail _ ?_))) (q _ _ (Eq.refl (some _)))).trans (by kernel_rfl!)
  refine' WP.mk (type_call_ok w hh0 _ _ _ _ A1 aB aN (n0 + 0) (n0 + 12) (n0 + 1) (n0 + 3) (n0 + 5) (n0 + 7) (n0 + 9) (n0 + 11) _ _ _ _ _ _ _ _ _ _ _ _ _ _ _ _ _ _ _ _ _ _ _ _ _ _ _ _ _ _ _ _ _ _ _ _ _ _ _ _ _ hBa eN hSl hSa (Lg.hitE DF (by (repeat (first | exact List.Mem.head _ | refine List.Mem.tail _ ?_))) (q _ _ (Eq.refl (some _)))) (Lg.hitE DF (by (repeat (first | exact List.Mem.head _ | refine List.Mem.tail _ ?_))) (q _ _ (Eq.refl (some _)))) (Lg.hitE DF (by (repeat (first | exact List.Mem.head _ | refine List.Mem.tail _ ?_))) (q _ _ (Eq.refl (some _)))) (Lg.hitE DF (by (repeat (first | exact List.Mem.head _ | refine List.Mem.tail _ ?_))) (q _ _ (Eq.refl (some _)))) (Lg.hitE DF (by (repeat (first | exact List.Mem.head _ | refine List.Mem.tail _ ?_))) (q _ _ (Eq.refl (some _)))) (Lg.hitE DF (by (repeat (first | exact List.Mem.head _ | refine List.Mem.tail _ ?_))) (q _ _ (Eq.refl (some _)))) (Lg.base0 DF h2) hne S1' ?_)
  intro hz C md ns x tkz Lz
  have LZ := Lg.trans DF Lz
  repeat (first | ((with_reducible apply p_nsLookB); (case B => assumption); (case e => first | exact bi_object | exact bi_bc)) | (first | (first | ((with_reducible apply p_execsH); intro QQ kQ) | ((with_reducible apply p_goS); (case H => assumption); clear kQ QQ) | ((with_reducible apply p_goR); (case H => assumption); clear kQ QQ)) | with_reducible apply p_sbind | with_reducible apply p_bind | with_reducible apply p_rule | with_reducible apply p_point | with_reducible apply p_pure | ((with_reducible apply p_load); (case ho => (first | assumption | exact Lg.base16 (by assumption) (by assumption) rfl | exact Lg.base16 (by assumption) ((by assumption : Old _ _).fr _ _ rfl rfl rfl) rfl | exact Lg.base0 (by assumption) (by assumption) | exact Lg.base0 (by assumption) ((by assumption : Old _ _).fr _ _ rfl rfl rfl) | exact Lg.hitE (by assumption) (by (repeat (first | exact List.Mem.head _ | refine List.Mem.tail _ ?_))) (by first | assumption | exact rfl))); (any_goals (try exact (Option.none : Option Value)))) | with_reducible apply p_freshK | with_reducible apply p_fresh | with_reducible apply p_at | with_reducible apply p_ask | ((with_reducible apply p_allocFnG); (case L => assumption); intro _ _ _ _ _) | ((with_reducible apply p_allocG); (case L => assumption); (case e => (conv => lhs; reduce); try exact rfl); (case hf => exact rfl); intro _ _ _ _ _) | ((with_reducible apply p_updateFG); (case L => assumption); (case U => intro q'; (repeat (first | (apply SetAt.here; exact rfl) | apply SetAt.there))); (case e1 => first | assumption | exact rfl); (case e => (conv => lhs; reduce); try exact rfl); (case hf => exact rfl); intro _ _ _ _) | ((with_reducible apply p_updateG); (case L => assumption); (case U => intro q'; (repeat (first | (apply SetAt.here; exact rfl) | apply SetAt.there))); (case e1 => first | assumption | exact rfl); (case e => rfl); (case hf => rfl); intro _ _ _ _)) | with_reducible apply p_holding | with_reducible apply p_try' | with_reducible apply p_try | with_reducible apply p_keep | with_reducible apply p_attempt | (first | with_reducible apply p_val c2 | with_reducible apply p_val c4 | with_reducible apply p_val c5 | with_reducible apply p_val c7 | with_reducible apply p_val c9 | with_reducible apply p_val l1 | with_reducible apply p_val l2 | with_reducible apply p_val l3 | with_reducible apply p_val l4 | with_reducible apply p_val l5 | with_reducible apply p_val sn_str | with_reducible apply p_val sn_int | with_reducible apply p_val sn_list | with_reducible apply p_val sn_function | with_reducible apply p_val sn_NoneType | with_reducible apply p_val sn_tuple | with_reducible apply p_val sn_mem | ((with_reducible apply p_enter); (case nl => exact noLimit (by (show Heap.get? _ _ = _); (first | assumption | exact Lg.base16 (by assumption) (by assumption) rfl | exact Lg.base16 (by assumption) ((by assumption : Old _ _).fr _ _ rfl rfl rfl) rfl | exact Lg.base0 (by assumption) (by assumption) | exact Lg.base0 (by assumption) ((by assumption : Old _ _).fr _ _ rfl rfl rfl) | exact Lg.hitE (by assumption) (by (repeat (first | exact List.Mem.head _ | refine List.Mem.tail _ ?_))) (by first | assumption | exact rfl)))); (case dp => first | exact Deep.lt (by assumption) | exact Deep2.lt (by assumption) (by first | exact Nat.le_add_right _ _ | (simp [Around.deeper, Around.mark]; try omega)))) | (with_reducible apply p_standAt) | ((with_reducible show WP _ _ (buildClass _ _ _ _ _ _ _ _ _ _ _) _ _ _); conv => arg 3; delta buildClass) | ((with_reducible show WP _ _ (List.mapM mkText (Scope.freeNames _)) _ _ _); first | refine' p_is (m' := List.mapM mkText []) (by kernel_rfl!) ?_ | refine' p_is (m' := List.mapM mkText [⟨#[109, 121, 99, 109, 112]⟩]) (by kernel_rfl!) ?_) | ((with_reducible show wpAny _ _ (runValue (Code.builtin "proto.collect" _)) _ _ _); refine' collect_ok ?S ?hSl ?_; (case S => assumption); (case hSl => (first | assumption | exact Lg.base16 (by assumption) (by assumption) rfl | exact Lg.base16 (by assumption) ((by assumption : Old _ _).fr _ _ rfl rfl rfl) rfl | exact Lg.base0 (by assumption) (by assumption) | exact Lg.base0 (by assumption) ((by assumption : Old _ _).fr _ _ rfl rfl rfl) | exact Lg.hitE (by assumption) (by (repeat (first | exact List.Mem.head _ | refine List.Mem.tail _ ?_))) (by first | assumption | exact rfl))); intro hC aC tkC kC nC eC; (have LC := Lg.add (by assumption) kC nC eC); clear kC nC eC) | ((with_reducible apply p_croom); (case hu => assumption))) | ((with_reducible apply p_slot); (case hi => kernel_rfl!)) | ((with_reducible apply p_iteB); (case hb => kernel_rfl!)) | ((with_reducible apply p_iteN); (case hb => kernel_rfl!)) | ((refine' p_see (Bx.mk ?_)); (first | (first | ((with_reducible apply p_execsH); intro QQ kQ) | ((with_reducible apply p_goS); (case H => assumption); clear kQ QQ) | ((with_reducible apply p_goR); (case H => assumption); clear kQ QQ)) | with_reducible apply p_sbind | with_reducible apply p_bind | with_reducible apply p_rule | with_reducible apply p_point | with_reducible apply p_pure | ((with_reducible apply p_load); (case ho => (first | assumption | exact Lg.base16 (by assumption) (by assumption) rfl | exact Lg.base16 (by assumption) ((by assumption : Old _ _).fr _ _ rfl rfl rfl) rfl | exact Lg.base0 (by assumption) (by assumption) | exact Lg.base0 (by assumption) ((by assumption : Old _ _).fr _ _ rfl rfl rfl) | exact Lg.hitE (by assumption) (by (repeat (first | exact List.Mem.head _ | refine List.Mem.tail _ ?_))) (by first | assumption | exact rfl))); (any_goals (try exact (Option.none : Option Value)))) | with_reducible apply p_freshK | with_reducible apply p_fresh | with_reducible apply p_at | with_reducible apply p_ask | ((with_reducible apply p_allocFnG); (case L => assumption); intro _ _ _ _ _) | ((with_reducible apply p_allocG); (case L => assumption); (case e => (conv => lhs; reduce); try exact rfl); (case hf => exact rfl); intro _ _ _ _ _) | ((with_reducible apply p_updateFG); (case L => assumption); (case U => intro q'; (repeat (first | (apply SetAt.here; exact rfl) | apply SetAt.there))); (case e1 => first | assumption | exact rfl); (case e => (conv => lhs; reduce); try exact rfl); (case hf => exact rfl); intro _ _ _ _) | ((with_reducible apply p_updateG); (case L => assumption); (case U => intro q'; (repeat (first | (apply SetAt.here; exact rfl) | apply SetAt.there))); (case e1 => first | assumption | exact rfl); (case e => rfl); (case hf => rfl); intro _ _ _ _))) | (apply p_sbind) | (apply p_bind))
  rename_i hE oohE EEhE DE
  have Cba : hE.get? aB = some { cls := .type "tuple", data := .seq #[.type "object"] 0 } := (Lg.hitE DE (by (repeat (first | exact List.Mem.head _ | refine List.Mem.tail _ ?_))) (by first | exact q _ _ (Eq.refl (some _)) | assumption | exact rfl)).trans (by kernel_rfl!)
  have Ccell : hE.get? cell = some { cls := .type "cell", data := .cell (some v) } := (Lg.hitE DE (by (repeat (first | exact List.Mem.head _ | refine List.Mem.tail _ ?_))) (by first | exact q _ _ (Eq.refl (some _)) | assumption | exact rfl)).trans (by kernel_rfl!)
  have CC : hE.get? C = some (oK C ns aB tk (t5 + 1)) := Lg.hitE DE (by (repeat (first | exact List.Mem.head _ | refine List.Mem.tail _ ?_))) (by first | exact q _ _ (Eq.refl (some _)) | assumption | exact rfl)
  have Cmd : hE.get? md = some (oMd C x) := Lg.hitE DE (by (repeat (first | exact List.Mem.head _ | refine List.Mem.tail _ ?_))) (by first | exact q _ _ (Eq.refl (some _)) | assumption | exact rfl)
  have Cns := Lg.hit DE (a := ns) (by (repeat (first | exact List.Mem.head _ | refine List.Mem.tail _ ?_)))
  have Cno : h₀.get? C = none := Lg.fresh0 DE (a := C) (o := oK C ns aB tk (t5 + 1)) (by (repeat (first | exact List.Mem.head _ | refine List.Mem.tail _ ?_)))
  have F0 : ∀ o, oFunO w.params 0 ⟨#[99, 109, 112, 95, 116, 111, 95, 107, 101, 121, 46, 60, 108, 111, 99, 97, 108, 115, 62, 46, 75, 46, 95, 95, 105, 110, 105, 116, 95, 95]⟩ [] (.ref e0) .none = some o → hE.get? (n0 + 1) = some o := fun o e => (Lg.hitE DE (by (repeat (first | exact List.Mem.head _ | refine List.Mem.tail _ ?_))) (by first | exact q _ _ (Eq.refl (some _)) | assumption | exact rfl)).trans ((show some _ = oFunO w.params 0 ⟨#[99, 109, 112, 95, 116, 111, 95, 107, 101, 121, 46, 60, 108, 111, 99, 97, 108, 115, 62, 46, 75, 46, 95, 95, 105, 110, 105, 116, 95, 95]⟩ [] (.ref e0) .none from by kernel_rfl!).trans e)
  have F1 : ∀ o, oFunO w.params 1 ⟨#[99, 109, 112, 95, 116, 111, 95, 107, 101, 121, 46, 60, 108, 111, 99, 97, 108, 115, 62, 46, 75, 46, 95, 95, 108, 116, 95, 95]⟩ [(Str.ofString "mycmp", cell)] (.ref e1) (.ref (n0 + 2)) = some o → hE.get? (n0 + 3) = some o := fun o e => (Lg.hitE DE (by (repeat (first | exact List.Mem.head _ | refine List.Mem.tail _ ?_))) (by first | exact q _ _ (Eq.refl (some _)) | assumption | exact rfl)).trans ((show some _ = oFunO w.params 1 ⟨#[99, 109, 112, 95, 116, 111, 95, 107, 101, 121, 46, 60, 108, 111, 99, 97, 108, 115, 62, 46, 75, 46, 95, 95, 108, 116, 95, 95]⟩ [(Str.ofString "mycmp", cell)] (.ref e1) (.ref (n0 + 2)) from by kernel_rfl!).trans e)
  have F2 : ∀ o, oFunO w.params 2 ⟨#[99, 109, 112, 95, 116, 111, 95, 107, 101, 121, 46, 60, 108, 111, 99, 97, 108, 115, 62, 46, 75, 46, 95, 95, 103, 116, 95, 95]⟩ [(Str.ofString "mycmp", cell)] (.ref e2) (.ref (n0 + 4)) = some o → hE.get? (n0 + 5) = some o := fun o e => (Lg.hitE DE (by (repeat (first | exact List.Mem.head _ | refine List.Mem.tail _ ?_))) (by first | exact q _ _ (Eq.refl (some _)) | assumption | exact rfl)).trans ((show some _ = oFunO w.params 2 ⟨#[99, 109, 112, 95, 116, 111, 95, 107, 101, 121, 46, 60, 108, 111, 99, 97, 108, 115, 62, 46, 75, 46, 95, 95, 103, 116, 95, 95]⟩ [(Str.ofString "mycmp", cell)] (.ref e2) (.ref (n0 + 4)) from by kernel_rfl!).trans e)
  have F3 : ∀ o, oFunO w.params 3 ⟨#[99, 109, 112, 95, 116, 111, 95, 107, 101, 121, 46, 60, 108, 111, 99, 97, 108, 115, 62, 46, 75, 46, 95, 95, 101, 113, 95, 95]⟩ [(Str.ofString "mycmp", cell)] (.ref e3) (.ref (n0 + 6)) = some o → hE.get? (n0 + 7) = some o := fun o e => (Lg.hitE DE (by (repeat (first | exact List.Mem.head _ | refine List.Mem.tail _ ?_))) (by first | exact q _ _ (Eq.refl (some _)) | assumption | exact rfl)).trans ((show some _ = oFunO w.params 3 ⟨#[99, 109, 112, 95, 116, 111, 95, 107, 101, 121, 46, 60, 108, 111, 99, 97, 108, 115, 62, 46, 75, 46, 95, 95, 101, 113, 95, 95]⟩ [(Str.ofString "mycmp", cell)] (.ref e3) (.ref (n0 + 6)) from by kernel_rfl!).trans e)
  have F4 : ∀ o, oFunO w.params 4 ⟨#[99, 109, 112, 95, 116, 111, 95, 107, 101, 121, 46, 60, 108, 111, 99, 97, 108, 115, 62, 46, 75, 46, 95, 95, 108, 101, 95, 95]⟩ [(Str.ofString "mycmp", cell)] (.ref e4) (.ref (n0 + 8)) = some o → hE.get? (n0 + 9) = some o := fun o e => (Lg.hitE DE (by (repeat (first | exact List.Mem.head _ | refine List.Mem.tail _ ?_))) (by first | exact q _ _ (Eq.refl (some _)) | assumption | exact rfl)).trans ((show some _ = oFunO w.params 4 ⟨#[99, 109, 112, 95, 116, 111, 95, 107, 101, 121, 46, 60, 108, 111, 99, 97, 108, 115, 62, 46, 75, 46, 95, 95, 108, 101, 95, 95]⟩ [(Str.ofString "mycmp", cell)] (.ref e4) (.ref (n0 + 8)) from by kernel_rfl!).trans e)
  have F5 : ∀ o, oFunO w.params 5 ⟨#[99, 109, 112, 95, 116, 111, 95, 107, 101, 121, 46, 60, 108, 111, 99, 97, 108, 115, 62, 46, 75, 46, 95, 95, 103, 101, 95, 95]⟩ [(Str.ofString "mycmp", cell)] (.ref e5) (.ref (n0 + 10)) = some o → hE.get? (n0 + 11) = some o := fun o e => (Lg.hitE DE (by (repeat (first | exact List.Mem.head _ | refine List.Mem.tail _ ?_))) (by first | exact q _ _ (Eq.refl (some _)) | assumption | exact rfl)).trans ((show some _ = oFunO w.params 5 ⟨#[99, 109, 112, 95, 116, 111, 95, 107, 101, 121, 46, 60, 108, 111, 99, 97, 108, 115, 62, 46, 75, 46, 95, 95, 103, 101, 95, 95]⟩ [(Str.ofString "mycmp", cell)] (.ref e5) (.ref (n0 + 10)) from by kernel_rfl!).trans e)
  have KN : ∀ a ∈ (KD.mk C ns md aB (n0 + 0) (n0 + 12) cell (n0 + 1) (n0 + 3) (n0 + 5) (n0 + 7) (n0 + 9) (n0 + 11) (n0 + 2) (n0 + 4) (n0 + 6) (n0 + 8) (n0 + 10) tk (t5 + 1) x t5 (t5 + 4) (t5 + 8) (t5 + 9) (t5 + 10) (t5 + 11) (t5 + 12) (t5 + 13) (t5 + 14) (t5 + 15) (t5 + 17) (t5 + 5) (t5 + 3)).as, h₀.get? a = none := by
    intro a ha
    simp only [KD.as, List.mem_cons, List.not_mem_nil, or_false] at ha
    rcases ha with ha | ha | ha | ha | ha | ha | ha | ha | ha | ha | ha
    all_goals (rw [ha]; exact Lg.fresh0 DE (by (repeat (first | exact List.Mem.head _ | refine List.Mem.tail _ ?_))))
  exact KQ hE ⟨C, ns, md, aB, (n0 + 0), (n0 + 12), cell, (n0 + 1), (n0 + 3), (n0 + 5), (n0 + 7), (n0 + 9), (n0 + 11), (n0 + 2), (n0 + 4), (n0 + 6), (n0 + 8), (n0 + 10), tk, t5 + 1, x, t5, (t5 + 4), (t5 + 8), (t5 + 9), (t5 + 10), (t5 + 11), (t5 + 12), (t5 + 13), (t5 + 14), (t5 + 15), (t5 + 17), (t5 + 5), (t5 + 3)⟩ (tkz + 1) DE.keeps KN ⟨CC, Cmd, Cba, Cns, Ccell, F0, F1, F2, F3, F4, F5⟩

theorem attr_obj (w : World) (A : Around) (S : Shal1 A) (h g d tk os) (KR : Old w h) (T : TD) (K : KD) (v : Value) (H : KOK w h T K v) (a da : Addr) (x : Int) (t : Tok)
   (ha : h.get? a = some (oInst K.C da x t)) (Q : Value → Shared → Prop) (E : Value → Shared → Prop)
   (hq : ∀ h' tk', Keeps h h' → Q (.int x t) ⟨h', g, d, tk', os⟩) :
   wpAny (model PG w) A (getAttr (.ref a) (Str.ofString "obj") true) Q E ⟨h, g, d, tk, os⟩ := by
  have D := Lg.start h
  have h2 := KR.fr 2 _ rfl rfl rfl
  have H' := H
  have ha' := ha
  obtain ⟨hC, hmd, hba, hns, hcell, f0, f1, f2, f3, f4, f5⟩ := H
  rcases K with ⟨C, ns, md, ba, sl, sa, cell, g0, g1, g2, g3, g4, g5, ct1, ct2, ct3, ct4, ct5, tn, v1, tx, t0, t2, t3, t4, t5, t6, t7, t8, t9, t10, t11, v0, v2⟩
  dsimp only [oK, oMd, oNs, oInst] at hC hmd hba hns hcell ha
  clear f0 f1 f2 f3 f4 f5
  refine WP.out (WP.noE fun EE => ?_)
  delta getAttr
  repeat (first | ((with_reducible apply p_nsLookB); (case B => assumption); (case e => first | exact bi_object | exact bi_bc)) | (first | (first | ((with_reducible apply p_execsH); intro QQ kQ) | ((with_reducible apply p_goS); (case H => assumption); clear kQ QQ) | ((with_reducible apply p_goR); (case H => assumption); clear kQ QQ)) | with_reducible apply p_sbind | with_reducible apply p_bind | with_reducible apply p_rule | with_reducible apply p_point | with_reducible apply p_pure | ((with_reducible apply p_load); (case ho => (first | assumption | exact Lg.base16 (by assumption) (by assumption) rfl | exact Lg.base16 (by assumption) ((by assumption : Old _ _).fr _ _ rfl rfl rfl) rfl | exact Lg.base0 (by assumption) (by assumption) | exact Lg.base0 (by assumption) ((by assumption : Old _ _).fr _ _ rfl rfl rfl) | exact Lg.hitE (by assumption) (by (repeat (first | exact List.Mem.head _ | refine List.Mem.tail _ ?_))) (by first | assumption | exact rfl))); (any_goals (try exact (Option.none : Option Value)))) | with_reducible apply p_freshK | with_reducible apply p_fresh | with_reducible apply p_at | with_reducible apply p_ask | ((with_reducible apply p_allocFnG); (case L => assumption); intro _ _ _ _ _) | ((with_reducible apply p_allocG); (case L => assumption); (case e => (conv => lhs; reduce); try exact rfl); (case hf => exact rfl); intro _ _ _ _ _) | ((with_reducible apply p_updateFG); (case L => assumption); (case U => intro q'; (repeat (first | (apply SetAt.here; exact rfl) | apply SetAt.there))); (case e1 => first | assumption | exact rfl); (case e => (conv => lhs; reduce); try exact rfl); (case hf => exact rfl); intro _ _ _ _) | ((with_reducible apply p_updateG); (case L => assumption); (case U => intro q'; (repeat (first | (apply SetAt.here; exact rfl) | apply SetAt.there))); (case e1 => first | assumption | exact rfl); (case e => rfl); (case hf => rfl); intro _ _ _ _)) | with_reducible apply p_holding | with_reducible apply p_try' | with_reducible apply p_try | with_reducible apply p_keep | with_reducible apply p_attempt | (first | with_reducible apply p_val c2 | with_reducible apply p_val c4 | with_reducible apply p_val c5 | with_reducible apply p_val c7 | with_reducible apply p_val c9 | with_reducible apply p_val l1 | with_reducible apply p_val l2 | with_reducible apply p_val l3 | with_reducible apply p_val l4 | with_reducible apply p_val l5 | with_reducible apply p_val sn_str | with_reducible apply p_val sn_int | with_reducible apply p_val sn_list | with_reducible apply p_val sn_function | with_reducible apply p_val sn_NoneType | with_reducible apply p_val sn_tuple | with_reducible apply p_val sn_mem | ((with_reducible apply p_enter); (case nl => exact noLimit (by (show Heap.get? _ _ = _); (first | assumption | exact Lg.base16 (by assumption) (by assumption) rfl | exact Lg.base16 (by assumption) ((by assumption : Old _ _).fr _ _ rfl rfl rfl) rfl | exact Lg.base0 (by assumption) (by assumption) | exact Lg.base0 (by assumption) ((by assumption : Old _ _).fr _ _ rfl rfl rfl) | exact Lg.hitE (by assumption) (by (repeat (first | exact List.Mem.head _ | refine List.Mem.tail _ ?_))) (by first | assumption | exact rfl)))); (case dp => first | exact Deep.lt (by assumption) | exact Deep2.lt (by assumption) (by first | exact Nat.le_add_right _ _ | (simp [Around.deeper, Around.mark]; try omega)))) | (with_reducible apply p_standAt) | ((with_reducible show WP _ _ (buildClass _ _ _ _ _ _ _ _ _ _ _) _ _ _); conv => arg 3; delta buildClass) | ((with_reducible show WP _ _ (List.mapM mkText (Scope.freeNames _)) _ _ _); first | refine' p_is (m' := List.mapM mkText []) (by kernel_rfl!) ?_ | refine' p_is (m' := List.mapM mkText [⟨#[109, 121, 99, 109, 112]⟩]) (by kernel_rfl!) ?_) | ((with_reducible show wpAny _ _ (runValue (Code.builtin "proto.collect" _)) _ _ _); refine' collect_ok ?S ?hSl ?_; (case S => assumption); (case hSl => (first | assumption | exact Lg.base16 (by assumption) (by assumption) rfl | exact Lg.base16 (by assumption) ((by assumption : Old _ _).fr _ _ rfl rfl rfl) rfl | exact Lg.base0 (by assumption) (by assumption) | exact Lg.base0 (by assumption) ((by assumption : Old _ _).fr _ _ rfl rfl rfl) | exact Lg.hitE (by assumption) (by (repeat (first | exact List.Mem.head _ | refine List.Mem.tail _ ?_))) (by first | assumption | exact rfl))); intro hC aC tkC kC nC eC; (have LC := Lg.add (by assumption) kC nC eC); clear kC nC eC) | ((with_reducible apply p_croom); (case hu => assumption))) | ((with_reducible apply p_slot); (case hi => kernel_rfl!)) | ((with_reducible apply p_iteB); (case hb => kernel_rfl!)) | ((with_reducible apply p_iteN); (case hb => kernel_rfl!)) | ((refine' p_see (Bx.mk ?_)); (first | (first | ((with_reducible apply p_execsH); intro QQ kQ) | ((with_reducible apply p_goS); (case H => assumption); clear kQ QQ) | ((with_reducible apply p_goR); (case H => assumption); clear kQ QQ)) | with_reducible apply p_sbind | with_reducible apply p_bind | with_reducible apply p_rule | with_reducible apply p_point | with_reducible apply p_pure | ((with_reducible apply p_load); (case ho => (first | assumption | exact Lg.base16 (by assumption) (by assumption) rfl | exact Lg.base16 (by assumption) ((by assumption : Old _ _).fr _ _ rfl rfl rfl) rfl | exact Lg.base0 (by assumption) (by assumption) | exact Lg.base0 (by assumption) ((by assumption : Old _ _).fr _ _ rfl rfl rfl) | exact Lg.hitE (by assumption) (by (repeat (first | exact List.Mem.head _ | refine List.Mem.tail _ ?_))) (by first | assumption | exact rfl))); (any_goals (try exact (Option.none : Option Value)))) | with_reducible apply p_freshK | with_reducible apply p_fresh | with_reducible apply p_at | with_reducible apply p_ask | ((with_reducible apply p_allocFnG); (case L => assumption); intro _ _ _ _ _) | ((with_reducible apply p_allocG); (case L => assumption); (case e => (conv => lhs; reduce); try exact rfl); (case hf => exact rfl); intro _ _ _ _ _) | ((with_reducible apply p_updateFG); (case L => assumption); (case U => intro q'; (repeat (first | (apply SetAt.here; exact rfl) | apply SetAt.there))); (case e1 => first | assumption | exact rfl); (case e => (conv => lhs; reduce); try exact rfl); (case hf => exact rfl); intro _ _ _ _) | ((with_reducible apply p_updateG); (case L => assumption); (case U => intro q'; (repeat (first | (apply SetAt.here; exact rfl) | apply SetAt.there))); (case e1 => first | assumption | exact rfl); (case e => rfl); (case hf => rfl); intro _ _ _ _))) | (apply p_sbind) | (apply p_bind))
  refine p_onRaise ?_
  refine WP.mk (wpAny_sh1 S (hooked_ok w _ KR.inO T _ v H' a da x t _ ha' _ _ fun h' tk' k => ?_))
  have hq' := fun tk' => hq h' tk' k
  clear hq
  repeat (first | ((with_reducible apply p_nsLookB); (case B => assumption); (case e => first | exact bi_object | exact bi_bc)) | (first | (first | ((with_reducible apply p_execsH); intro QQ kQ) | ((with_reducible apply p_goS); (case H => assumption); clear kQ QQ) | ((with_reducible apply p_goR); (case H => assumption); clear kQ QQ)) | with_reducible apply p_sbind | with_reducible apply p_bind | with_reducible apply p_rule | with_reducible apply p_point | with_reducible apply p_pure | ((with_reducible apply p_load); (case ho => (first | assumption | exact Lg.base16 (by assumption) (by assumption) rfl | exact Lg.base16 (by assumption) ((by assumption : Old _ _).fr _ _ rfl rfl rfl) rfl | exact Lg.base0 (by assumption) (by assumption) | exact Lg.base0 (by assumption) ((by assumption : Old _ _).fr _ _ rfl rfl rfl) | exact Lg.hitE (by assumption) (by (repeat (first | exact List.Mem.head _ | refine List.Mem.tail _ ?_))) (by first | assumption | exact rfl))); (any_goals (try exact (Option.none : Option Value)))) | with_reducible apply p_freshK | with_reducible apply p_fresh | with_reducible apply p_at | with_reducible apply p_ask | ((with_reducible apply p_allocFnG); (case L => assumption); intro _ _ _ _ _) | ((with_reducible apply p_allocG); (case L => assumption); (case e => (conv => lhs; reduce); try exact rfl); (case hf => exact rfl); intro _ _ _ _ _) | ((with_reducible apply p_updateFG); (case L => assumption); (case U => intro q'; (repeat (first | (apply SetAt.here; exact rfl) | apply SetAt.there))); (case e1 => first | assumption | exact rfl); (case e => (conv => lhs; reduce); try exact rfl); (case hf => exact rfl); intro _ _ _ _) | ((with_reducible apply p_updateG); (case L => assumption); (case U => intro q'; (repeat (first | (apply SetAt.here; exact rfl) | apply SetAt.there))); (case e1 => first | assumption | exact rfl); (case e => rfl); (case hf => rfl); intro _ _ _ _)) | with_reducible apply p_holding | with_reducible apply p_try' | with_reducible apply p_try | with_reducible apply p_keep | with_reducible apply p_attempt | (first | with_reducible apply p_val c2 | with_reducible apply p_val c4 | with_reducible apply p_val c5 | with_reducible apply p_val c7 | with_reducible apply p_val c9 | with_reducible apply p_val l1 | with_reducible apply p_val l2 | with_reducible apply p_val l3 | with_reducible apply p_val l4 | with_reducible apply p_val l5 | with_reducible apply p_val sn_str | with_reducible apply p_val sn_int | with_reducible apply p_val sn_list | with_reducible apply p_val sn_function | with_reducible apply p_val sn_NoneType | with_reducible apply p_val sn_tuple | with_reducible apply p_val sn_mem | ((with_reducible apply p_enter); (case nl => exact noLimit (by (show Heap.get? _ _ = _); (first | assumption | exact Lg.base16 (by assumption) (by assumption) rfl | exact Lg.base16 (by assumption) ((by assumption : Old _ _).fr _ _ rfl rfl rfl) rfl | exact Lg.base0 (by assumption) (by assumption) | exact Lg.base0 (by assumption) ((by assumption : Old _ _).fr _ _ rfl rfl rfl) | exact Lg.hitE (by assumption) (by (repeat (first | exact List.Mem.head _ | refine List.Mem.tail _ ?_))) (by first | assumption | exact rfl)))); (case dp => first | exact Deep.lt (by assumption) | exact Deep2.lt (by assumption) (by first | exact Nat.le_add_right _ _ | (simp [Around.deeper, Around.mark]; try omega)))) | (with_reducible apply p_standAt) | ((with_reducible show WP _ _ (buildClass _ _ _ _ _ _ _ _ _ _ _) _ _ _); conv => arg 3; delta buildClass) | ((with_reducible show WP _ _ (List.mapM mkText (Scope.freeNames _)) _ _ _); first | refine' p_is (m' := List.mapM mkText []) (by kernel_rfl!) ?_ | refine' p_is (m' := List.mapM mkText [⟨#[109, 121, 99, 109, 112]⟩]) (by kernel_rfl!) ?_) | ((with_reducible show wpAny _ _ (runValue (Code.builtin "proto.collect" _)) _ _ _); refine' collect_ok ?S ?hSl ?_; (case S => assumption); (case hSl => (first | assumption | exact Lg.base16 (by assumption) (by assumption) rfl | exact Lg.base16 (by assumption) ((by assumption : Old _ _).fr _ _ rfl rfl rfl) rfl | exact Lg.base0 (by assumption) (by assumption) | exact Lg.base0 (by assumption) ((by assumption : Old _ _).fr _ _ rfl rfl rfl) | exact Lg.hitE (by assumption) (by (repeat (first | exact List.Mem.head _ | refine List.Mem.tail _ ?_))) (by first | assumption | exact rfl))); intro hC aC tkC kC nC eC; (have LC := Lg.add (by assumption) kC nC eC); clear kC nC eC) | ((with_reducible apply p_croom); (case hu => assumption))) | ((with_reducible apply p_slot); (case hi => kernel_rfl!)) | ((with_reducible apply p_iteB); (case hb => kernel_rfl!)) | ((with_reducible apply p_iteN); (case hb => kernel_rfl!)) | ((refine' p_see (Bx.mk ?_)); (first | (first | ((with_reducible apply p_execsH); intro QQ kQ) | ((with_reducible apply p_goS); (case H => assumption); clear kQ QQ) | ((with_reducible apply p_goR); (case H => assumption); clear kQ QQ)) | with_reducible apply p_sbind | with_reducible apply p_bind | with_reducible apply p_rule | with_reducible apply p_point | with_reducible apply p_pure | ((with_reducible apply p_load); (case ho => (first | assumption | exact Lg.base16 (by assumption) (by assumption) rfl | exact Lg.base16 (by assumption) ((by assumption : Old _ _).fr _ _ rfl rfl rfl) rfl | exact Lg.base0 (by assumption) (by assumption) | exact Lg.base0 (by assumption) ((by assumption : Old _ _).fr _ _ rfl rfl rfl) | exact Lg.hitE (by assumption) (by (repeat (first | exact List.Mem.head _ | refine List.Mem.tail _ ?_))) (by first | assumption | exact rfl))); (any_goals (try exact (Option.none : Option Value)))) | with_reducible apply p_freshK | with_reducible apply p_fresh | with_reducible apply p_at | with_reducible apply p_ask | ((with_reducible apply p_allocFnG); (case L => assumption); intro _ _ _ _ _) | ((with_reducible apply p_allocG); (case L => assumption); (case e => (conv => lhs; reduce); try exact rfl); (case hf => exact rfl); intro _ _ _ _ _) | ((with_reducible apply p_updateFG); (case L => assumption); (case U => intro q'; (repeat (first | (apply SetAt.here; exact rfl) | apply SetAt.there))); (case e1 => first | assumption | exact rfl); (case e => (conv => lhs; reduce); try exact rfl); (case hf => exact rfl); intro _ _ _ _) | ((with_reducible apply p_updateG); (case L => assumption); (case U => intro q'; (repeat (first | (apply SetAt.here; exact rfl) | apply SetAt.there))); (case e1 => first | assumption | exact rfl); (case e => rfl); (case hf => rfl); intro _ _ _ _))) | (apply p_sbind) | (apply p_bind))
  exact hq' _

theorem special1 (w : World) (A : Around) (hu : A.units < cLine) (h g d tk os) (KR : Old w h) (T : TD) (K : KD) (v : Value) (H : KOK w h T K v) (a b da : Addr) (x : Int) (t : Tok)
   (ha : h.get? a = some (oInst K.C da x t)) (Q : Option Value → Shared → Prop) (E : Value → Shared → Prop)
   (hc : wpAny (model PG w) A (PySem.call (.ref K.f1) [.ref a, .ref b]) (fun v => Q (some v)) E ⟨h, g, d, tk, os⟩) :
   wpAny (model PG w) A (callSpecialIfBound? (.ref a) (Str.ofString "__lt__") [.ref b]) Q E ⟨h, g, d, tk, os⟩ := by
  have D := Lg.start h
  have h2 := KR.fr 2 _ rfl rfl rfl
  obtain ⟨hC, hmd, hba, hns, hcell, f0, f1, f2, f3, f4, f5⟩ := H
  rcases K with ⟨C, ns, md, ba, sl, sa, cell, g0, g1, g2, g3, g4, g5, ct1, ct2, ct3, ct4, ct5, tn, v1, tx, t0, t2, t3, t4, t5, t6, t7, t8, t9, t10, t11, v0, v2⟩
  dsimp only [oK, oMd, oNs, oInst] at hC hmd hba hns hcell ha hc
  replace f1 := f1 _ rfl
  dsimp only at f1
  refine WP.out ?_
  delta callSpecialIfBound?
  repeat (first | ((with_reducible apply p_nsLookB); (case B => assumption); (case e => first | exact bi_object | exact bi_bc)) | (first | (first | ((with_reducible apply p_execsH); intro QQ kQ) | ((with_reducible apply p_goS); (case H => assumption); clear kQ QQ) | ((with_reducible apply p_goR); (case H => assumption); clear kQ QQ)) | with_reducible apply p_sbind | with_reducible apply p_bind | with_reducible apply p_rule | with_reducible apply p_point | with_reducible apply p_pure | ((with_reducible apply p_load); (case ho => (first | assumption | exact Lg.base16 (by assumption) (by assumption) rfl | exact Lg.base16 (by assumption) ((by assumption : Old _ _).fr _ _ rfl rfl rfl) rfl | exact Lg.base0 (by assumption) (by assumption) | exact Lg.base0 (by assumption) ((by assumption : Old _ _).fr _ _ rfl rfl rfl) | exact Lg.hitE (by assumption) (by (repeat (first | exact List.Mem.head _ | refine List.Mem.tail _ ?_))) (by first | assumption | exact rfl))); (any_goals (try exact (Option.none : Option Value)))) | with_reducible apply p_freshK | with_reducible apply p_fresh | with_reducible apply p_at | with_reducible apply p_ask | ((with_reducible apply p_allocFnG); (case L => assumption); intro _ _ _ _ _) | ((with_reducible apply p_allocG); (case L => assumption); (case e => (conv => lhs; reduce); try exact rfl); (case hf => exact rfl); intro _ _ _ _ _) | ((with_reducible apply p_updateFG); (case L => assumption); (case U => intro q'; (repeat (first | (apply SetAt.here; exact rfl) | apply SetAt.there))); (case e1 => first | assumption | exact rfl); (case e => (conv => lhs; reduce); try exact rfl); (case hf => exact rfl); intro _ _ _ _) | ((with_reducible apply p_updateG); (case L => assumption); (case U => intro q'; (repeat (first | (apply SetAt.here; exact rfl) | apply SetAt.there))); (case e1 => first | assumption | exact rfl); (case e => rfl); (case hf => rfl); intro _ _ _ _)) | with_reducible apply p_holding | with_reducible apply p_try' | with_reducible apply p_try | with_reducible apply p_keep | with_reducible apply p_attempt | (first | with_reducible apply p_val c2 | with_reducible apply p_val c4 | with_reducible apply p_val c5 | with_reducible apply p_val c7 | with_reducible apply p_val c9 | with_reducible apply p_val l1 | with_reducible apply p_val l2 | with_reducible apply p_val l3 | with_reducible apply p_val l4 | with_reducible apply p_val l5 | with_reducible apply p_val sn_str | with_reducible apply p_val sn_int | with_reducible apply p_val sn_list | with_reducible apply p_val sn_function | with_reducible apply p_val sn_NoneType | with_reducible apply p_val sn_tuple | with_reducible apply p_val sn_mem | ((with_reducible apply p_enter); (case nl => exact noLimit (by (show Heap.get? _ _ = _); (first | assumption | exact Lg.base16 (by assumption) (by assumption) rfl | exact Lg.base16 (by assumption) ((by assumption : Old _ _).fr _ _ rfl rfl rfl) rfl | exact Lg.base0 (by assumption) (by assumption) | exact Lg.base0 (by assumption) ((by assumption : Old _ _).fr _ _ rfl rfl rfl) | exact Lg.hitE (by assumption) (by (repeat (first | exact List.Mem.head _ | refine List.Mem.tail _ ?_))) (by first | assumption | exact rfl)))); (case dp => first | exact Deep.lt (by assumption) | exact Deep2.lt (by assumption) (by first | exact Nat.le_add_right _ _ | (simp [Around.deeper, Around.mark]; try omega)))) | (with_reducible apply p_standAt) | ((with_reducible show WP _ _ (buildClass _ _ _ _ _ _ _ _ _ _ _) _ _ _); conv => arg 3; delta buildClass) | ((with_reducible show WP _ _ (List.mapM mkText (Scope.freeNames _)) _ _ _); first | refine' p_is (m' := List.mapM mkText []) (by kernel_rfl!) ?_ | refine' p_is (m' := List.mapM mkText [⟨#[109, 121, 99, 109, 112]⟩]) (by kernel_rfl!) ?_) | ((with_reducible show wpAny _ _ (runValue (Code.builtin "proto.collect" _)) _ _ _); refine' collect_ok ?S ?hSl ?_; (case S => assumption); (case hSl => (first | assumption | exact Lg.base16 (by assumption) (by assumption) rfl | exact Lg.base16 (by assumption) ((by assumption : Old _ _).fr _ _ rfl rfl rfl) rfl | exact Lg.base0 (by assumption) (by assumption) | exact Lg.base0 (by assumption) ((by assumption : Old _ _).fr _ _ rfl rfl rfl) | exact Lg.hitE (by assumption) (by (repeat (first | exact List.Mem.head _ | refine List.Mem.tail _ ?_))) (by first | assumption | exact rfl))); intro hC aC tkC kC nC eC; (have LC := Lg.add (by assumption) kC nC eC); clear kC nC eC) | ((with_reducible apply p_croom); (case hu => assumption))) | ((with_reducible apply p_slot); (case hi => kernel_rfl!)) | ((with_reducible apply p_iteB); (case hb => kernel_rfl!)) | ((with_reducible apply p_iteN); (case hb => kernel_rfl!)) | ((refine' p_see (Bx.mk ?_)); (first | (first | ((with_reducible apply p_execsH); intro QQ kQ) | ((with_reducible apply p_goS); (case H => assumption); clear kQ QQ) | ((with_reducible apply p_goR); (case H => assumption); clear kQ QQ)) | with_reducible apply p_sbind | with_reducible apply p_bind | with_reducible apply p_rule | with_reducible apply p_point | with_reducible apply p_pure | ((with_reducible apply p_load); (case ho => (first | assumption | exact Lg.base16 (by assumption) (by assumption) rfl | exact Lg.base16 (by assumption) ((by assumption : Old _ _).fr _ _ rfl rfl rfl) rfl | exact Lg.base0 (by assumption) (by assumption) | exact Lg.base0 (by assumption) ((by assumption : Old _ _).fr _ _ rfl rfl rfl) | exact Lg.hitE (by assumption) (by (repeat (first | exact List.Mem.head _ | refine List.Mem.tail _ ?_))) (by first | assumption | exact rfl))); (any_goals (try exact (Option.none : Option Value)))) | with_reducible apply p_freshK | with_reducible apply p_fresh | with_reducible apply p_at | with_reducible apply p_ask | ((with_reducible apply p_allocFnG); (case L => assumption); intro _ _ _ _ _) | ((with_reducible apply p_allocG); (case L => assumption); (case e => (conv => lhs; reduce); try exact rfl); (case hf => exact rfl); intro _ _ _ _ _) | ((with_reducible apply p_updateFG); (case L => assumption); (case U => intro q'; (repeat (first | (apply SetAt.here; exact rfl) | apply SetAt.there))); (case e1 => first | assumption | exact rfl); (case e => (conv => lhs; reduce); try exact rfl); (case hf => exact rfl); intro _ _ _ _) | ((with_reducible apply p_updateG); (case L => assumption); (case U => intro q'; (repeat (first | (apply SetAt.here; exact rfl) | apply SetAt.there))); (case e1 => first | assumption | exact rfl); (case e => rfl); (case hf => rfl); intro _ _ _ _))) | (apply p_sbind) | (apply p_bind))
  refine p_ite2 ?_ ?_
  all_goals repeat (first | ((with_reducible apply p_nsLookB); (case B => assumption); (case e => first | exact bi_object | exact bi_bc)) | (first | (first | ((with_reducible apply p_execsH); intro QQ kQ) | ((with_reducible apply p_goS); (case H => assumption); clear kQ QQ) | ((with_reducible apply p_goR); (case H => assumption); clear kQ QQ)) | with_reducible apply p_sbind | with_reducible apply p_bind | with_reducible apply p_rule | with_reducible apply p_point | with_reducible apply p_pure | ((with_reducible apply p_load); (case ho => (first | assumption | exact Lg.base16 (by assumption) (by assumption) rfl | exact Lg.base16 (by assumption) ((by assumption : Old _ _).fr _ _ rfl rfl rfl) rfl | exact Lg.base0 (by assumption) (by assumption) | exact Lg.base0 (by assumption) ((by assumption : Old _ _).fr _ _ rfl rfl rfl) | exact Lg.hitE (by assumption) (by (repeat (first | exact List.Mem.head _ | refine List.Mem.tail _ ?_))) (by first | assumption | exact rfl))); (any_goals (try exact (Option.none : Option Value)))) | with_reducible apply p_freshK | with_reducible apply p_fresh | with_reducible apply p_at | with_reducible apply p_ask | ((with_reducible apply p_allocFnG); (case L => assumption); intro _ _ _ _ _) | ((with_reducible apply p_allocG); (case L => assumption); (case e => (conv => lhs; reduce); try exact rfl); (case hf => exact rfl); intro _ _ _ _ _) | ((with_reducible apply p_updateFG); (case L => assumption); (case U => intro q'; (repeat (first | (apply SetAt.here; exact rfl) | apply SetAt.there))); (case e1 => first | assumption | exact rfl); (case e => (conv => lhs; reduce); try exact rfl); (case hf => exact rfl); intro _ _ _ _) | ((with_reducible apply p_updateG); (case L => assumption); (case U => intro q'; (repeat (first | (apply SetAt.here; exact rfl) | apply SetAt.there))); (case e1 => first | assumption | exact rfl); (case e => rfl); (case hf => rfl); intro _ _ _ _)) | with_reducible apply p_holding | with_reducible apply p_try' | with_reducible apply p_try | with_reducible apply p_keep | with_reducible apply p_attempt | (first | with_reducible apply p_val c2 | with_reducible apply p_val c4 | with_reducible apply p_val c5 | with_reducible apply p_val c7 | with_reducible apply p_val c9 | with_reducible apply p_val l1 | with_reducible apply p_val l2 | with_reducible apply p_val l3 | with_reducible apply p_val l4 | with_reducible apply p_val l5 | with_reducible apply p_val sn_str | with_reducible apply p_val sn_int | with_reducible apply p_val sn_list | with_reducible apply p_val sn_function | with_reducible apply p_val sn_NoneType | with_reducible apply p_val sn_tuple | with_reducible apply p_val sn_mem | ((with_reducible apply p_enter); (case nl => exact noLimit (by (show Heap.get? _ _ = _); (first | assumption | exact Lg.base16 (by assumption) (by assumption) rfl | exact Lg.base16 (by assumption) ((by assumption : Old _ _).fr _ _ rfl rfl rfl) rfl | exact Lg.base0 (by assumption) (by assumption) | exact Lg.base0 (by assumption) ((by assumption : Old _ _).fr _ _ rfl rfl rfl) | exact Lg.hitE (by assumption) (by (repeat (first | exact List.Mem.head _ | refine List.Mem.tail _ ?_))) (by first | assumption | exact rfl)))); (case dp => first | exact Deep.lt (by assumption) | exact Deep2.lt (by assumption) (by first | exact Nat.le_add_right _ _ | (simp [Around.deeper, Around.mark]; try omega)))) | (with_reducible apply p_standAt) | ((with_reducible show WP _ _ (buildClass _ _ _ _ _ _ _ _ _ _ _) _ _ _); conv => arg 3; delta buildClass) | ((with_reducible show WP _ _ (List.mapM mkText (Scope.freeNames _)) _ _ _); first | refine' p_is (m' := List.mapM mkText []) (by kernel_rfl!) ?_ | refine' p_is (m' := List.mapM mkText [⟨#[109, 121, 99, 109, 112]⟩]) (by kernel_rfl!) ?_) | ((with_reducible show wpAny _ _ (runValue (Code.builtin "proto.collect" _)) _ _ _); refine' collect_ok ?S ?hSl ?_; (case S => assumption); (case hSl => (first | assumption | exact Lg.base16 (by assumption) (by assumption) rfl | exact Lg.base16 (by assumption) ((by assumption : Old _ _).fr _ _ rfl rfl rfl) rfl | exact Lg.base0 (by assumption) (by assumption) | exact Lg.base0 (by assumption) ((by assumption : Old _ _).fr _ _ rfl rfl rfl) | exact Lg.hitE (by assumption) (by (repeat (first | exact List.Mem.head _ | refine List.Mem.tail _ ?_))) (by first | assumption | exact rfl))); intro hC aC tkC kC nC eC; (have LC := Lg.add (by assumption) kC nC eC); clear kC nC eC) | ((with_reducible apply p_croom); (case hu => assumption))) | ((with_reducible apply p_slot); (case hi => kernel_rfl!)) | ((with_reducible apply p_iteB); (case hb => kernel_rfl!)) | ((with_reducible apply p_iteN); (case hb => kernel_rfl!)) | ((refine' p_see (Bx.mk ?_)); (first | (first | ((with_reducible apply p_execsH); intro QQ kQ) | ((with_reducible apply p_goS); (case H => assumption); clear kQ QQ) | ((with_reducible apply p_goR); (case H => assumption); clear kQ QQ)) | with_reducible apply p_sbind | with_reducible apply p_bind | with_reducible apply p_rule | with_reducible apply p_point | with_reducible apply p_pure | ((with_reducible apply p_load); (case ho => (first | assumption | exact Lg.base16 (by assumption) (by assumption) rfl | exact Lg.base16 (by assumption) ((by assumption : Old _ _).fr _ _ rfl rfl rfl) rfl | exact Lg.base0 (by assumption) (by assumption) | exact Lg.base0 (by assumption) ((by assumption : Old _ _).fr _ _ rfl rfl rfl) | exact Lg.hitE (by assumption) (by (repeat (first | exact List.Mem.head _ | refine List.Mem.tail _ ?_))) (by first | assumption | exact rfl))); (any_goals (try exact (Option.none : Option Value)))) | with_reducible apply p_freshK | with_reducible apply p_fresh | with_reducible apply p_at | with_reducible apply p_ask | ((with_reducible apply p_allocFnG); (case L => assumption); intro _ _ _ _ _) | ((with_reducible apply p_allocG); (case L => assumption); (case e => (conv => lhs; reduce); try exact rfl); (case hf => exact rfl); intro _ _ _ _ _) | ((with_reducible apply p_updateFG); (case L => assumption); (case U => intro q'; (repeat (first | (apply SetAt.here; exact rfl) | apply SetAt.there))); (case e1 => first | assumption | exact rfl); (case e => (conv => lhs; reduce); try exact rfl); (case hf => exact rfl); intro _ _ _ _) | ((with_reducible apply p_updateG); (case L => assumption); (case U => intro q'; (repeat (first | (apply SetAt.here; exact rfl) | apply SetAt.there))); (case e1 => first | assumption | exact rfl); (case e => rfl); (case hf => rfl); intro _ _ _ _))) | (apply p_sbind) | (apply p_bind))
  all_goals refine' p_is (m' := run (.call (.ref g1) ⟨[.ref a, .ref b], []⟩)) (by kernel_rfl!) ?_
  all_goals refine WP.mk (run_of_call (wpAny_mono hc (fun v s' q => ?_) fun _ _ e => e))
  all_goals (repeat (first | ((with_reducible apply p_nsLookB); (case B => assumption); (case e => first | exact bi_object | exact bi_bc)) | (first | (first | ((with_reducible apply p_execsH); intro QQ kQ) | ((with_reducible apply p_goS); (case H => assumption); clear kQ QQ) | ((with_reducible apply p_goR); (case H => assumption); clear kQ QQ)) | with_reducible apply p_sbind | with_reducible apply p_bind | with_reducible apply p_rule | with_reducible apply p_point | with_reducible apply p_pure | ((with_reducible apply p_load); (case ho => (first | assumption | exact Lg.base16 (by assumption) (by assumption) rfl | exact Lg.base16 (by assumption) ((by assumption : Old _ _).fr _ _ rfl rfl rfl) rfl | exact Lg.base0 (by assumption) (by assumption) | exact Lg.base0 (by assumption) ((by assumption : Old _ _).fr _ _ rfl rfl rfl) | exact Lg.hitE (by assumption) (by (repeat (first | exact List.Mem.head _ | refine List.Mem.tail _ ?_))) (by first | assumption | exact rfl))); (any_goals (try exact (Option.none : Option Value)))) | with_reducible apply p_freshK | with_reducible apply p_fresh | with_reducible apply p_at | with_reducible apply p_ask | ((with_reducible apply p_allocFnG); (case L => assumption); intro _ _ _ _ _) | ((with_reducible apply p_allocG); (case L => assumption); (case e => (conv => lhs; reduce); try exact rfl); (case hf => exact rfl); intro _ _ _ _ _) | ((with_reducible apply p_updateFG); (case L => assumption); (case U => intro q'; (repeat (first | (apply SetAt.here; exact rfl) | apply SetAt.there))); (case e1 => first | assumption | exact rfl); (case e => (conv => lhs; reduce); try exact rfl); (case hf => exact rfl); intro _ _ _ _) | ((with_reducible apply p_updateG); (case L => assumption); (case U => intro q'; (repeat (first | (apply SetAt.here; exact rfl) | apply SetAt.there))); (case e1 => first | assumption | exact rfl); (case e => rfl); (case hf => rfl); intro _ _ _ _)) | with_reducible apply p_holding | with_reducible apply p_try' | with_reducible apply p_try | with_reducible apply p_keep | with_reducible apply p_attempt | (first | with_reducible apply p_val c2 | with_reducible apply p_val c4 | with_reducible apply p_val c5 | with_reducible apply p_val c7 | with_reducible apply p_val c9 | with_reducible apply p_val l1 | with_reducible apply p_val l2 | with_reducible apply p_val l3 | with_reducible apply p_val l4 | with_reducible apply p_val l5 | with_reducible apply p_val sn_str | with_reducible apply p_val sn_int | with_reducible apply p_val sn_list | with_reducible apply p_val sn_function | with_reducible apply p_val sn_NoneType | with_reducible apply p_val sn_tuple | with_reducible apply p_val sn_mem | ((with_reducible apply p_enter); (case nl => exact noLimit (by (show Heap.get? _ _ = _); (first | assumption | exact Lg.base16 (by assumption) (by assumption) rfl | exact Lg.base16 (by assumption) ((by assumption : Old _ _).fr _ _ rfl rfl rfl) rfl | exact Lg.base0 (by assumption) (by assumption) | exact Lg.base0 (by assumption) ((by assumption : Old _ _).fr _ _ rfl rfl rfl) | exact Lg.hitE (by assumption) (by (repeat (first | exact List.Mem.head _ | refine List.Mem.tail _ ?_))) (by first | assumption | exact rfl)))); (case dp => first | exact Deep.lt (by assumption) | exact Deep2.lt (by assumption) (by first | exact Nat.le_add_right _ _ | (simp [Around.deeper, Around.mark]; try omega)))) | (with_reducible apply p_standAt) | ((with_reducible show WP _ _ (buildClass _ _ _ _ _ _ _ _ _ _ _) _ _ _); conv => arg 3; delta buildClass) | ((with_reducible show WP _ _ (List.mapM mkText (Scope.freeNames _)) _ _ _); first | refine' p_is (m' := List.mapM mkText []) (by kernel_rfl!) ?_ | refine' p_is (m' := List.mapM mkText [⟨#[109, 121, 99, 109, 112]⟩]) (by kernel_rfl!) ?_) | ((with_reducible show wpAny _ _ (runValue (Code.builtin "proto.collect" _)) _ _ _); refine' collect_ok ?S ?hSl ?_; (case S => assumption); (case hSl => (first | assumption | exact Lg.base16 (by assumption) (by assumption) rfl | exact Lg.base16 (by assumption) ((by assumption : Old _ _).fr _ _ rfl rfl rfl) rfl | exact Lg.base0 (by assumption) (by assumption) | exact Lg.base0 (by assumption) ((by assumption : Old _ _).fr _ _ rfl rfl rfl) | exact Lg.hitE (by assumption) (by (repeat (first | exact List.Mem.head _ | refine List.Mem.tail _ ?_))) (by first | assumption | exact rfl))); intro hC aC tkC kC nC eC; (have LC := Lg.add (by assumption) kC nC eC); clear kC nC eC) | ((with_reducible apply p_croom); (case hu => assumption))) | ((with_reducible apply p_slot); (case hi => kernel_rfl!)) | ((with_reducible apply p_iteB); (case hb => kernel_rfl!)) | ((with_reducible apply p_iteN); (case hb => kernel_rfl!)) | ((refine' p_see (Bx.mk ?_)); (first | (first | ((with_reducible apply p_execsH); intro QQ kQ) | ((with_reducible apply p_goS); (case H => assumption); clear kQ QQ) | ((with_reducible apply p_goR); (case H => assumption); clear kQ QQ)) | with_reducible apply p_sbind | with_reducible apply p_bind | with_reducible apply p_rule | with_reducible apply p_point | with_reducible apply p_pure | ((with_reducible apply p_load); (case ho => (first | assumption | exact Lg.base16 (by assumption) (by assumption) rfl | exact Lg.base16 (by assumption) ((by assumption : Old _ _).fr _ _ rfl rfl rfl) rfl | exact Lg.base0 (by assumption) (by assumption) | exact Lg.base0 (by assumption) ((by assumption : Old _ _).fr _ _ rfl rfl rfl) | exact Lg.hitE (by assumption) (by (repeat (first | exact List.Mem.head _ | refine List.Mem.tail _ ?_))) (by first | assumption | exact rfl))); (any_goals (try exact (Option.none : Option Value)))) | with_reducible apply p_freshK | with_reducible apply p_fresh | with_reducible apply p_at | with_reducible apply p_ask | ((with_reducible apply p_allocFnG); (case L => assumption); intro _ _ _ _ _) | ((with_reducible apply p_allocG); (case L => assumption); (case e => (conv => lhs; reduce); try exact rfl); (case hf => exact rfl); intro _ _ _ _ _) | ((with_reducible apply p_updateFG); (case L => assumption); (case U => intro q'; (repeat (first | (apply SetAt.here; exact rfl) | apply SetAt.there))); (case e1 => first | assumption | exact rfl); (case e => (conv => lhs; reduce); try exact rfl); (case hf => exact rfl); intro _ _ _ _) | ((with_reducible apply p_updateG); (case L => assumption); (case U => intro q'; (repeat (first | (apply SetAt.here; exact rfl) | apply SetAt.there))); (case e1 => first | assumption | exact rfl); (case e => rfl); (case hf => rfl); intro _ _ _ _))) | (apply p_sbind) | (apply p_bind)))
  all_goals exact q
theorem rich1 (w : World) (A : Around) (hu : A.units < cLine) (h g d tk os) (KR : Old w h) (T : TD) (K : KD) (v : Value) (H : KOK w h T K v) (a b da db : Addr) (x y : Int) (t u : Tok)
   (ha : h.get? a = some (oInst K.C da x t)) (hb : h.get? b = some (oInst K.C db y u)) (Q : Value → Shared → Prop) (E : Value → Shared → Prop)
   (hc : wpAny (model PG w) A (PySem.call (.ref K.f1) [.ref a, .ref b]) (fun v s' => ∃ r, v = .bool r ∧ Q (.bool r) s') E ⟨h, g, d, tk, os⟩) :
   wpAny (model PG w) A (richCompare .Lt (.ref a) (.ref b)) Q E ⟨h, g, d, tk, os⟩ := by
  have D := Lg.start h
  have ha' := ha
  have hb' := hb
  dsimp only [oInst] at ha' hb'
  refine WP.out ?_
  delta richCompare
  repeat (first | ((with_reducible apply p_nsLookB); (case B => assumption); (case e => first | exact bi_object | exact bi_bc)) | (first | (first | ((with_reducible apply p_execsH); intro QQ kQ) | ((with_reducible apply p_goS); (case H => assumption); clear kQ QQ) | ((with_reducible apply p_goR); (case H => assumption); clear kQ QQ)) | with_reducible apply p_sbind | with_reducible apply p_bind | with_reducible apply p_rule | with_reducible apply p_point | with_reducible apply p_pure | ((with_reducible apply p_load); (case ho => (first | assumption | exact Lg.base16 (by assumption) (by assumption) rfl | exact Lg.base16 (by assumption) ((by assumption : Old _ _).fr _ _ rfl rfl rfl) rfl | exact Lg.base0 (by assumption) (by assumption) | exact Lg.base0 (by assumption) ((by assumption : Old _ _).fr _ _ rfl rfl rfl) | exact Lg.hitE (by assumption) (by (repeat (first | exact List.Mem.head _ | refine List.Mem.tail _ ?_))) (by first | assumption | exact rfl))); (any_goals (try exact (Option.none : Option Value)))) | with_reducible apply p_freshK | with_reducible apply p_fresh | with_reducible apply p_at | with_reducible apply p_ask | ((with_reducible apply p_allocFnG); (case L => assumption); intro _ _ _ _ _) | ((with_reducible apply p_allocG); (case L => assumption); (case e => (conv => lhs; reduce); try exact rfl); (case hf => exact rfl); intro _ _ _ _ _) | ((with_reducible apply p_updateFG); (case L => assumption); (case U => intro q'; (repeat (first | (apply SetAt.here; exact rfl) | apply SetAt.there))); (case e1 => first | assumption | exact rfl); (case e => (conv => lhs; reduce); try exact rfl); (case hf => exact rfl); intro _ _ _ _) | ((with_reducible apply p_updateG); (case L => assumption); (case U => intro q'; (repeat (first | (apply SetAt.here; exact rfl) | apply SetAt.there))); (case e1 => first | assumption | exact rfl); (case e => rfl); (case hf => rfl); intro _ _ _ _)) | with_reducible apply p_holding | with_reducible apply p_try' | with_reducible apply p_try | with_reducible apply p_keep | with_reducible apply p_attempt | (first | with_reducible apply p_val c2 | with_reducible apply p_val c4 | with_reducible apply p_val c5 | with_reducible apply p_val c7 | with_reducible apply p_val c9 | with_reducible apply p_val l1 | with_reducible apply p_val l2 | with_reducible apply p_val l3 | with_reducible apply p_val l4 | with_reducible apply p_val l5 | with_reducible apply p_val sn_str | with_reducible apply p_val sn_int | with_reducible apply p_val sn_list | with_reducible apply p_val sn_function | with_reducible apply p_val sn_NoneType | with_reducible apply p_val sn_tuple | with_reducible apply p_val sn_mem | ((with_reducible apply p_enter); (case nl => exact noLimit (by (show Heap.get? _ _ = _); (first | assumption | exact Lg.base16 (by assumption) (by assumption) rfl | exact Lg.base16 (by assumption) ((by assumption : Old _ _).fr _ _ rfl rfl rfl) rfl | exact Lg.base0 (by assumption) (by assumption) | exact Lg.base0 (by assumption) ((by assumption : Old _ _).fr _ _ rfl rfl rfl) | exact Lg.hitE (by assumption) (by (repeat (first | exact List.Mem.head _ | refine List.Mem.tail _ ?_))) (by first | assumption | exact rfl)))); (case dp => first | exact Deep.lt (by assumption) | exact Deep2.lt (by assumption) (by first | exact Nat.le_add_right _ _ | (simp [Around.deeper, Around.mark]; try omega)))) | (with_reducible apply p_standAt) | ((with_reducible show WP _ _ (buildClass _ _ _ _ _ _ _ _ _ _ _) _ _ _); conv => arg 3; delta buildClass) | ((with_reducible show WP _ _ (List.mapM mkText (Scope.freeNames _)) _ _ _); first | refine' p_is (m' := List.mapM mkText []) (by kernel_rfl!) ?_ | refine' p_is (m' := List.mapM mkText [⟨#[109, 121, 99, 109, 112]⟩]) (by kernel_rfl!) ?_) | ((with_reducible show wpAny _ _ (runValue (Code.builtin "proto.collect" _)) _ _ _); refine' collect_ok ?S ?hSl ?_; (case S => assumption); (case hSl => (first | assumption | exact Lg.base16 (by assumption) (by assumption) rfl | exact Lg.base16 (by assumption) ((by assumption : Old _ _).fr _ _ rfl rfl rfl) rfl | exact Lg.base0 (by assumption) (by assumption) | exact Lg.base0 (by assumption) ((by assumption : Old _ _).fr _ _ rfl rfl rfl) | exact Lg.hitE (by assumption) (by (repeat (first | exact List.Mem.head _ | refine List.Mem.tail _ ?_))) (by first | assumption | exact rfl))); intro hC aC tkC kC nC eC; (have LC := Lg.add (by assumption) kC nC eC); clear kC nC eC) | ((with_reducible apply p_croom); (case hu => assumption))) | ((with_reducible apply p_slot); (case hi => kernel_rfl!)) | ((with_reducible apply p_iteB); (case hb => kernel_rfl!)) | ((with_reducible apply p_iteN); (case hb => kernel_rfl!)) | ((refine' p_see (Bx.mk ?_)); (first | (first | ((with_reducible apply p_execsH); intro QQ kQ) | ((with_reducible apply p_goS); (case H => assumption); clear kQ QQ) | ((with_reducible apply p_goR); (case H => assumption); clear kQ QQ)) | with_reducible apply p_sbind | with_reducible apply p_bind | with_reducible apply p_rule | with_reducible apply p_point | with_reducible apply p_pure | ((with_reducible apply p_load); (case ho => (first | assumption | exact Lg.base16 (by assumption) (by assumption) rfl | exact Lg.base16 (by assumption) ((by assumption : Old _ _).fr _ _ rfl rfl rfl) rfl | exact Lg.base0 (by assumption) (by assumption) | exact Lg.base0 (by assumption) ((by assumption : Old _ _).fr _ _ rfl rfl rfl) | exact Lg.hitE (by assumption) (by (repeat (first | exact List.Mem.head _ | refine List.Mem.tail _ ?_))) (by first | assumption | exact rfl))); (any_goals (try exact (Option.none : Option Value)))) | with_reducible apply p_freshK | with_reducible apply p_fresh | with_reducible apply p_at | with_reducible apply p_ask | ((with_reducible apply p_allocFnG); (case L => assumption); intro _ _ _ _ _) | ((with_reducible apply p_allocG); (case L => assumption); (case e => (conv => lhs; reduce); try exact rfl); (case hf => exact rfl); intro _ _ _ _ _) | ((with_reducible apply p_updateFG); (case L => assumption); (case U => intro q'; (repeat (first | (apply SetAt.here; exact rfl) | apply SetAt.there))); (case e1 => first | assumption | exact rfl); (case e => (conv => lhs; reduce); try exact rfl); (case hf => exact rfl); intro _ _ _ _) | ((with_reducible apply p_updateG); (case L => assumption); (case U => intro q'; (repeat (first | (apply SetAt.here; exact rfl) | apply SetAt.there))); (case e1 => first | assumption | exact rfl); (case e => rfl); (case hf => rfl); intro _ _ _ _))) | (apply p_sbind) | (apply p_bind))
  refine WP.id' ?_
  conv => arg 3; simp only [bne_self_eq_false, Bool.false_eq_true, if_false]
  refine p_bind ?_
  refine p_pure ?_
  refine WP.id' ?_
  simp only [Bool.false_eq_true, if_false]
  refine p_bind ?_
  delta tryCompare
  refine p_bind ?_
  refine WP.mk (special1 w A hu h g d tk os KR T K v H a b da x t ha _ _ (wpAny_mono hc (fun v s' q => ?_) fun _ _ e => e))
  obtain ⟨r, rfl, q⟩ := q
  repeat (first | ((with_reducible apply p_nsLookB); (case B => assumption); (case e => first | exact bi_object | exact bi_bc)) | (first | (first | ((with_reducible apply p_execsH); intro QQ kQ) | ((with_reducible apply p_goS); (case H => assumption); clear kQ QQ) | ((with_reducible apply p_goR); (case H => assumption); clear kQ QQ)) | with_reducible apply p_sbind | with_reducible apply p_bind | with_reducible apply p_rule | with_reducible apply p_point | with_reducible apply p_pure | ((with_reducible apply p_load); (case ho => (first | assumption | exact Lg.base16 (by assumption) (by assumption) rfl | exact Lg.base16 (by assumption) ((by assumption : Old _ _).fr _ _ rfl rfl rfl) rfl | exact Lg.base0 (by assumption) (by assumption) | exact Lg.base0 (by assumption) ((by assumption : Old _ _).fr _ _ rfl rfl rfl) | exact Lg.hitE (by assumption) (by (repeat (first | exact List.Mem.head _ | refine List.Mem.tail _ ?_))) (by first | assumption | exact rfl))); (any_goals (try exact (Option.none : Option Value)))) | with_reducible apply p_freshK | with_reducible apply p_fresh | with_reducible apply p_at | with_reducible apply p_ask | ((with_reducible apply p_allocFnG); (case L => assumption); intro _ _ _ _ _) | ((with_reducible apply p_allocG); (case L => assumption); (case e => (conv => lhs; reduce); try exact rfl); (case hf => exact rfl); intro _ _ _ _ _) | ((with_reducible apply p_updateFG); (case L => assumption); (case U => intro q'; (repeat (first | (apply SetAt.here; exact rfl) | apply SetAt.there))); (case e1 => first | assumption | exact rfl); (case e => (conv => lhs; reduce); try exact rfl); (case hf => exact rfl); intro _ _ _ _) | ((with_reducible apply p_updateG); (case L => assumption); (case U => intro q'; (repeat (first | (apply SetAt.here; exact rfl) | apply SetAt.there))); (case e1 => first | assumption | exact rfl); (case e => rfl); (case hf => rfl); intro _ _ _ _)) | with_reducible apply p_holding | with_reducible apply p_try' | with_reducible apply p_try | with_reducible apply p_keep | with_reducible apply p_attempt | (first | with_reducible apply p_val c2 | with_reducible apply p_val c4 | with_reducible apply p_val c5 | with_reducible apply p_val c7 | with_reducible apply p_val c9 | with_reducible apply p_val l1 | with_reducible apply p_val l2 | with_reducible apply p_val l3 | with_reducible apply p_val l4 | with_reducible apply p_val l5 | with_reducible apply p_val sn_str | with_reducible apply p_val sn_int | with_reducible apply p_val sn_list | with_reducible apply p_val sn_function | with_reducible apply p_val sn_NoneType | with_reducible apply p_val sn_tuple | with_reducible apply p_val sn_mem | ((with_reducible apply p_enter); (case nl => exact noLimit (by (show Heap.get? _ _ = _); (first | assumption | exact Lg.base16 (by assumption) (by assumption) rfl | exact Lg.base16 (by assumption) ((by assumption : Old _ _).fr _ _ rfl rfl rfl) rfl | exact Lg.base0 (by assumption) (by assumption) | exact Lg.base0 (by assumption) ((by assumption : Old _ _).fr _ _ rfl rfl rfl) | exact Lg.hitE (by assumption) (by (repeat (first | exact List.Mem.head _ | refine List.Mem.tail _ ?_))) (by first | assumption | exact rfl)))); (case dp => first | exact Deep.lt (by assumption) | exact Deep2.lt (by assumption) (by first | exact Nat.le_add_right _ _ | (simp [Around.deeper, Around.mark]; try omega)))) | (with_reducible apply p_standAt) | ((with_reducible show WP _ _ (buildClass _ _ _ _ _ _ _ _ _ _ _) _ _ _); conv => arg 3; delta buildClass) | ((with_reducible show WP _ _ (List.mapM mkText (Scope.freeNames _)) _ _ _); first | refine' p_is (m' := List.mapM mkText []) (by kernel_rfl!) ?_ | refine' p_is (m' := List.mapM mkText [⟨#[109, 121, 99, 109, 112]⟩]) (by kernel_rfl!) ?_) | ((with_reducible show wpAny _ _ (runValue (Code.builtin "proto.collect" _)) _ _ _); refine' collect_ok ?S ?hSl ?_; (case S => assumption); (case hSl => (first | assumption | exact Lg.base16 (by assumption) (by assumption) rfl | exact Lg.base16 (by assumption) ((by assumption : Old _ _).fr _ _ rfl rfl rfl) rfl | exact Lg.base0 (by assumption) (by assumption) | exact Lg.base0 (by assumption) ((by assumption : Old _ _).fr _ _ rfl rfl rfl) | exact Lg.hitE (by assumption) (by (repeat (first | exact List.Mem.head _ | refine List.Mem.tail _ ?_))) (by first | assumption | exact rfl))); intro hC aC tkC kC nC eC; (have LC := Lg.add (by assumption) kC nC eC); clear kC nC eC) | ((with_reducible apply p_croom); (case hu => assumption))) | ((with_reducible apply p_slot); (case hi => kernel_rfl!)) | ((with_reducible apply p_iteB); (case hb => kernel_rfl!)) | ((with_reducible apply p_iteN); (case hb => kernel_rfl!)) | ((refine' p_see (Bx.mk ?_)); (first | (first | ((with_reducible apply p_execsH); intro QQ kQ) | ((with_reducible apply p_goS); (case H => assumption); clear kQ QQ) | ((with_reducible apply p_goR); (case H => assumption); clear kQ QQ)) | with_reducible apply p_sbind | with_reducible apply p_bind | with_reducible apply p_rule | with_reducible apply p_point | with_reducible apply p_pure | ((with_reducible apply p_load); (case ho => (first | assumption | exact Lg.base16 (by assumption) (by assumption) rfl | exact Lg.base16 (by assumption) ((by assumption : Old _ _).fr _ _ rfl rfl rfl) rfl | exact Lg.base0 (by assumption) (by assumption) | exact Lg.base0 (by assumption) ((by assumption : Old _ _).fr _ _ rfl rfl rfl) | exact Lg.hitE (by assumption) (by (repeat (first | exact List.Mem.head _ | refine List.Mem.tail _ ?_))) (by first | assumption | exact rfl))); (any_goals (try exact (Option.none : Option Value)))) | with_reducible apply p_freshK | with_reducible apply p_fresh | with_reducible apply p_at | with_reducible apply p_ask | ((with_reducible apply p_allocFnG); (case L => assumption); intro _ _ _ _ _) | ((with_reducible apply p_allocG); (case L => assumption); (case e => (conv => lhs; reduce); try exact rfl); (case hf => exact rfl); intro _ _ _ _ _) | ((with_reducible apply p_updateFG); (case L => assumption); (case U => intro q'; (repeat (first | (apply SetAt.here; exact rfl) | apply SetAt.there))); (case e1 => first | assumption | exact rfl); (case e => (conv => lhs; reduce); try exact rfl); (case hf => exact rfl); intro _ _ _ _) | ((with_reducible apply p_updateG); (case L => assumption); (case U => intro q'; (repeat (first | (apply SetAt.here; exact rfl) | apply SetAt.there))); (case e1 => first | assumption | exact rfl); (case e => rfl); (case hf => rfl); intro _ _ _ _))) | (apply p_sbind) | (apply p_bind))
  all_goals exact q
theorem special2 (w : World) (A : Around) (hu : A.units < cLine) (h g d tk os) (KR : Old w h) (T : TD) (K : KD) (v : Value) (H : KOK w h T K v) (a b da : Addr) (x : Int) (t : Tok)
   (ha : h.get? a = some (oInst K.C da x t)) (Q : Option Value → Shared → Prop) (E : Value → Shared → Prop)
   (hc : wpAny (model PG w) A (PySem.call (.ref K.f2) [.ref a, .ref b]) (fun v => Q (some v)) E ⟨h, g, d, tk, os⟩) :
   wpAny (model PG w) A (callSpecialIfBound? (.ref a) (Str.ofString "__gt__") [.ref b]) Q E ⟨h, g, d, tk, os⟩ := by
  have D := Lg.start h
  have h2 := KR.fr 2 _ rfl rfl rfl
  obtain ⟨hC, hmd, hba, hns, hcell, f0, f1, f2, f3, f4, f5⟩ := H
  rcases K with ⟨C, ns, md, ba, sl, sa, cell, g0, g1, g2, g3, g4, g5, ct1, ct2, ct3, ct4, ct5, tn, v1, tx, t0, t2, t3, t4, t5, t6, t7, t8, t9, t10, t11, v0, v2⟩
  dsimp only [oK, oMd, oNs, oInst] at hC hmd hba hns hcell ha hc
  replace f2 := f2 _ rfl
  dsimp only at f2
  refine WP.out ?_
  delta callSpecialIfBound?
  repeat (first | ((with_reducible apply p_nsLookB); (case B => assumption); (case e => first | exact bi_object | exact bi_bc)) | (first | (first | ((with_reducible apply p_execsH); intro QQ kQ) | ((with_reducible apply p_goS); (case H => assumption); clear kQ QQ) | ((with_reducible apply p_goR); (case H => assumption); clear kQ QQ)) | with_reducible apply p_sbind | with_reducible apply p_bind | with_reducible apply p_rule | with_reducible apply p_point | with_reducible apply p_pure | ((with_reducible apply p_load); (case ho => (first | assumption | exact Lg.base16 (by assumption) (by assumption) rfl | exact Lg.base16 (by assumption) ((by assumption : Old _ _).fr _ _ rfl rfl rfl) rfl | exact Lg.base0 (by assumption) (by assumption) | exact Lg.base0 (by assumption) ((by assumption : Old _ _).fr _ _ rfl rfl rfl) | exact Lg.hitE (by assumption) (by (repeat (first | exact List.Mem.head _ | refine List.Mem.tail _ ?_))) (by first | assumption | exact rfl))); (any_goals (try exact (Option.none : Option Value)))) | with_reducible apply p_freshK | with_reducible apply p_fresh | with_reducible apply p_at | with_reducible apply p_ask | ((with_reducible apply p_allocFnG); (case L => assumption); intro _ _ _ _ _) | ((with_reducible apply p_allocG); (case L => assumption); (case e => (conv => lhs; reduce); try exact rfl); (case hf => exact rfl); intro _ _ _ _ _) | ((with_reducible apply p_updateFG); (case L => assumption); (case U => intro q'; (repeat (first | (apply SetAt.here; exact rfl) | apply SetAt.there))); (case e1 => first | assumption | exact rfl); (case e => (conv => lhs; reduce); try exact rfl); (case hf => exact rfl); intro _ _ _ _) | ((with_reducible apply p_updateG); (case L => assumption); (case U => intro q'; (repeat (first | (apply SetAt.here; exact rfl) | apply SetAt.there))); (case e1 => first | assumption | exact rfl); (case e => rfl); (case hf => rfl); intro _ _ _ _)) | with_reducible apply p_holding | with_reducible apply p_try' | with_reducible apply p_try | with_reducible apply p_keep | with_reducible apply p_attempt | (first | with_reducible apply p_val c2 | with_reducible apply p_val c4 | with_reducible apply p_val c5 | with_reducible apply p_val c7 | with_reducible apply p_val c9 | with_reducible apply p_val l1 | with_reducible apply p_val l2 | with_reducible apply p_val l3 | with_reducible apply p_val l4 | with_reducible apply p_val l5 | with_reducible apply p_val sn_str | with_reducible apply p_val sn_int | with_reducible apply p_val sn_list | with_reducible apply p_val sn_function | with_reducible apply p_val sn_NoneType | with_reducible apply p_val sn_tuple | with_reducible apply p_val sn_mem | ((with_reducible apply p_enter); (case nl => exact noLimit (by (show Heap.get? _ _ = _); (first | assumption | exact Lg.base16 (by assumption) (by assumption) rfl | exact Lg.base16 (by assumption) ((by assumption : Old _ _).fr _ _ rfl rfl rfl) rfl | exact Lg.base0 (by assumption) (by assumption) | exact Lg.base0 (by assumption) ((by assumption : Old _ _).fr _ _ rfl rfl rfl) | exact Lg.hitE (by assumption) (by (repeat (first | exact List.Mem.head _ | refine List.Mem.tail _ ?_))) (by first | assumption | exact rfl)))); (case dp => first | exact Deep.lt (by assumption) | exact Deep2.lt (by assumption) (by first | exact Nat.le_add_right _ _ | (simp [Around.deeper, Around.mark]; try omega)))) | (with_reducible apply p_standAt) | ((with_reducible show WP _ _ (buildClass _ _ _ _ _ _ _ _ _ _ _) _ _ _); conv => arg 3; delta buildClass) | ((with_reducible show WP _ _ (List.mapM mkText (Scope.freeNames _)) _ _ _); first | refine' p_is (m' := List.mapM mkText []) (by kernel_rfl!) ?_ | refine' p_is (m' := List.mapM mkText [⟨#[109, 121, 99, 109, 112]⟩]) (by kernel_rfl!) ?_) | ((with_reducible show wpAny _ _ (runValue (Code.builtin "proto.collect" _)) _ _ _); refine' collect_ok ?S ?hSl ?_; (case S => assumption); (case hSl => (first | assumption | exact Lg.base16 (by assumption) (by assumption) rfl | exact Lg.base16 (by assumption) ((by assumption : Old _ _).fr _ _ rfl rfl rfl) rfl | exact Lg.base0 (by assumption) (by assumption) | exact Lg.base0 (by assumption) ((by assumption : Old _ _).fr _ _ rfl rfl rfl) | exact Lg.hitE (by assumption) (by (repeat (first | exact List.Mem.head _ | refine List.Mem.tail _ ?_))) (by first | assumption | exact rfl))); intro hC aC tkC kC nC eC; (have LC := Lg.add (by assumption) kC nC eC); clear kC nC eC) | ((with_reducible apply p_croom); (case hu => assumption))) | ((with_reducible apply p_slot); (case hi => kernel_rfl!)) | ((with_reducible apply p_iteB); (case hb => kernel_rfl!)) | ((with_reducible apply p_iteN); (case hb => kernel_rfl!)) | ((refine' p_see (Bx.mk ?_)); (first | (first | ((with_reducible apply p_execsH); intro QQ kQ) | ((with_reducible apply p_goS); (case H => assumption); clear kQ QQ) | ((with_reducible apply p_goR); (case H => assumption); clear kQ QQ)) | with_reducible apply p_sbind | with_reducible apply p_bind | with_reducible apply p_rule | with_reducible apply p_point | with_reducible apply p_pure | ((with_reducible apply p_load); (case ho => (first | assumption | exact Lg.base16 (by assumption) (by assumption) rfl | exact Lg.base16 (by assumption) ((by assumption : Old _ _).fr _ _ rfl rfl rfl) rfl | exact Lg.base0 (by assumption) (by assumption) | exact Lg.base0 (by assumption) ((by assumption : Old _ _).fr _ _ rfl rfl rfl) | exact Lg.hitE (by assumption) (by (repeat (first | exact List.Mem.head _ | refine List.Mem.tail _ ?_))) (by first | assumption | exact rfl))); (any_goals (try exact (Option.none : Option Value)))) | with_reducible apply p_freshK | with_reducible apply p_fresh | with_reducible apply p_at | with_reducible apply p_ask | ((with_reducible apply p_allocFnG); (case L => assumption); intro _ _ _ _ _) | ((with_reducible apply p_allocG); (case L => assumption); (case e => (conv => lhs; reduce); try exact rfl); (case hf => exact rfl); intro _ _ _ _ _) | ((with_reducible apply p_updateFG); (case L => assumption); (case U => intro q'; (repeat (first | (apply SetAt.here; exact rfl) | apply SetAt.there))); (case e1 => first | assumption | exact rfl); (case e => (conv => lhs; reduce); try exact rfl); (case hf => exact rfl); intro _ _ _ _) | ((with_reducible apply p_updateG); (case L => assumption); (case U => intro q'; (repeat (first | (apply SetAt.here; exact rfl) | apply SetAt.there))); (case e1 => first | assumption | exact rfl); (case e => rfl); (case hf => rfl); intro _ _ _ _))) | (apply p_sbind) | (apply p_bind))
  refine p_ite2 ?_ ?_
  all_goals repeat (first | ((with_reducible apply p_nsLookB); (case B => assumption); (case e => first | exact bi_object | exact bi_bc)) | (first | (first | ((with_reducible apply p_execsH); intro QQ kQ) | ((with_reducible apply p_goS); (case H => assumption); clear kQ QQ) | ((with_reducible apply p_goR); (case H => assumption); clear kQ QQ)) | with_reducible apply p_sbind | with_reducible apply p_bind | with_reducible apply p_rule | with_reducible apply p_point | with_reducible apply p_pure | ((with_reducible apply p_load); (case ho => (first | assumption | exact Lg.base16 (by assumption) (by assumption) rfl | exact Lg.base16 (by assumption) ((by assumption : Old _ _).fr _ _ rfl rfl rfl) rfl | exact Lg.base0 (by assumption) (by assumption) | exact Lg.base0 (by assumption) ((by assumption : Old _ _).fr _ _ rfl rfl rfl) | exact Lg.hitE (by assumption) (by (repeat (first | exact List.Mem.head _ | refine List.Mem.tail _ ?_))) (by first | assumption | exact rfl))); (any_goals (try exact (Option.none : Option Value)))) | with_reducible apply p_freshK | with_reducible apply p_fresh | with_reducible apply p_at | with_reducible apply p_ask | ((with_reducible apply p_allocFnG); (case L => assumption); intro _ _ _ _ _) | ((with_reducible apply p_allocG); (case L => assumption); (case e => (conv => lhs; reduce); try exact rfl); (case hf => exact rfl); intro _ _ _ _ _) | ((with_reducible apply p_updateFG); (case L => assumption); (case U => intro q'; (repeat (first | (apply SetAt.here; exact rfl) | apply SetAt.there))); (case e1 => first | assumption | exact rfl); (case e => (conv => lhs; reduce); try exact rfl); (case hf => exact rfl); intro _ _ _ _) | ((with_reducible apply p_updateG); (case L => assumption); (case U => intro q'; (repeat (first | (apply SetAt.here; exact rfl) | apply SetAt.there))); (case e1 => first | assumption | exact rfl); (case e => rfl); (case hf => rfl); intro _ _ _ _)) | with_reducible apply p_holding | with_reducible apply p_try' | with_reducible apply p_try | with_reducible apply p_keep | with_reducible apply p_attempt | (first | with_reducible apply p_val c2 | with_reducible apply p_val c4 | with_reducible apply p_val c5 | with_reducible apply p_val c7 | with_reducible apply p_val c9 | with_reducible apply p_val l1 | with_reducible apply p_val l2 | with_reducible apply p_val l3 | with_reducible apply p_val l4 | with_reducible apply p_val l5 | with_reducible apply p_val sn_str | with_reducible apply p_val sn_int | with_reducible apply p_val sn_list | with_reducible apply p_val sn_function | with_reducible apply p_val sn_NoneType | with_reducible apply p_val sn_tuple | with_reducible apply p_val sn_mem | ((with_reducible apply p_enter); (case nl => exact noLimit (by (show Heap.get? _ _ = _); (first | assumption | exact Lg.base16 (by assumption) (by assumption) rfl | exact Lg.base16 (by assumption) ((by assumption : Old _ _).fr _ _ rfl rfl rfl) rfl | exact Lg.base0 (by assumption) (by assumption) | exact Lg.base0 (by assumption) ((by assumption : Old _ _).fr _ _ rfl rfl rfl) | exact Lg.hitE (by assumption) (by (repeat (first | exact List.Mem.head _ | refine List.Mem.tail _ ?_))) (by first | assumption | exact rfl)))); (case dp => first | exact Deep.lt (by assumption) | exact Deep2.lt (by assumption) (by first | exact Nat.le_add_right _ _ | (simp [Around.deeper, Around.mark]; try omega)))) | (with_reducible apply p_standAt) | ((with_reducible show WP _ _ (buildClass _ _ _ _ _ _ _ _ _ _ _) _ _ _); conv => arg 3; delta buildClass) | ((with_reducible show WP _ _ (List.mapM mkText (Scope.freeNames _)) _ _ _); first | refine' p_is (m' := List.mapM mkText []) (by kernel_rfl!) ?_ | refine' p_is (m' := List.mapM mkText [⟨#[109, 121, 99, 109, 112]⟩]) (by kernel_rfl!) ?_) | ((with_reducible show wpAny _ _ (runValue (Code.builtin "proto.collect" _)) _ _ _); refine' collect_ok ?S ?hSl ?_; (case S => assumption); (case hSl => (first | assumption | exact Lg.base16 (by assumption) (by assumption) rfl | exact Lg.base16 (by assumption) ((by assumption : Old _ _).fr _ _ rfl rfl rfl) rfl | exact Lg.base0 (by assumption) (by assumption) | exact Lg.base0 (by assumption) ((by assumption : Old _ _).fr _ _ rfl rfl rfl) | exact Lg.hitE (by assumption) (by (repeat (first | exact List.Mem.head _ | refine List.Mem.tail _ ?_))) (by first | assumption | exact rfl))); intro hC aC tkC kC nC eC; (have LC := Lg.add (by assumption) kC nC eC); clear kC nC eC) | ((with_reducible apply p_croom); (case hu => assumption))) | ((with_reducible apply p_slot); (case hi => kernel_rfl!)) | ((with_reducible apply p_iteB); (case hb => kernel_rfl!)) | ((with_reducible apply p_iteN); (case hb => kernel_rfl!)) | ((refine' p_see (Bx.mk ?_)); (first | (first | ((with_reducible apply p_execsH); intro QQ kQ) | ((with_reducible apply p_goS); (case H => assumption); clear kQ QQ) | ((with_reducible apply p_goR); (case H => assumption); clear kQ QQ)) | with_reducible apply p_sbind | with_reducible apply p_bind | with_reducible apply p_rule | with_reducible apply p_point | with_reducible apply p_pure | ((with_reducible apply p_load); (case ho => (first | assumption | exact Lg.base16 (by assumption) (by assumption) rfl | exact Lg.base16 (by assumption) ((by assumption : Old _ _).fr _ _ rfl rfl rfl) rfl | exact Lg.base0 (by assumption) (by assumption) | exact Lg.base0 (by assumption) ((by assumption : Old _ _).fr _ _ rfl rfl rfl) | exact Lg.hitE (by assumption) (by (repeat (first | exact List.Mem.head _ | refine List.Mem.tail _ ?_))) (by first | assumption | exact rfl))); (any_goals (try exact (Option.none : Option Value)))) | with_reducible apply p_freshK | with_reducible apply p_fresh | with_reducible apply p_at | with_reducible apply p_ask | ((with_reducible apply p_allocFnG); (case L => assumption); intro _ _ _ _ _) | ((with_reducible apply p_allocG); (case L => assumption); (case e => (conv => lhs; reduce); try exact rfl); (case hf => exact rfl); intro _ _ _ _ _) | ((with_reducible apply p_updateFG); (case L => assumption); (case U => intro q'; (repeat (first | (apply SetAt.here; exact rfl) | apply SetAt.there))); (case e1 => first | assumption | exact rfl); (case e => (conv => lhs; reduce); try exact rfl); (case hf => exact rfl); intro _ _ _ _) | ((with_reducible apply p_updateG); (case L => assumption); (case U => intro q'; (repeat (first | (apply SetAt.here; exact rfl) | apply SetAt.there))); (case e1 => first | assumption | exact rfl); (case e => rfl); (case hf => rfl); intro _ _ _ _))) | (apply p_sbind) | (apply p_bind))
  all_goals refine' p_is (m' := run (.call (.ref g2) ⟨[.ref a, .ref b], []⟩)) (by kernel_rfl!) ?_
  all_goals refine WP.mk (run_of_call (wpAny_mono hc (fun v s' q => ?_) fun _ _ e => e))
  all_goals (repeat (first | ((with_reducible apply p_nsLookB); (case B => assumption); (case e => first | exact bi_object | exact bi_bc)) | (first | (first | ((with_reducible apply p_execsH); intro QQ kQ) | ((with_reducible apply p_goS); (case H => assumption); clear kQ QQ) | ((with_reducible apply p_goR); (case H => assumption); clear kQ QQ)) | with_reducible apply p_sbind | with_reducible apply p_bind | with_reducible apply p_rule | with_reducible apply p_point | with_reducible apply p_pure | ((with_reducible apply p_load); (case ho => (first | assumption | exact Lg.base16 (by assumption) (by assumption) rfl | exact Lg.base16 (by assumption) ((by assumption : Old _ _).fr _ _ rfl rfl rfl) rfl | exact Lg.base0 (by assumption) (by assumption) | exact Lg.base0 (by assumption) ((by assumption : Old _ _).fr _ _ rfl rfl rfl) | exact Lg.hitE (by assumption) (by (repeat (first | exact List.Mem.head _ | refine List.Mem.tail _ ?_))) (by first | assumption | exact rfl))); (any_goals (try exact (Option.none : Option Value)))) | with_reducible apply p_freshK | with_reducible apply p_fresh | with_reducible apply p_at | with_reducible apply p_ask | ((with_reducible apply p_allocFnG); (case L => assumption); intro _ _ _ _ _) | ((with_reducible apply p_allocG); (case L => assumption); (case e => (conv => lhs; reduce); try exact rfl); (case hf => exact rfl); intro _ _ _ _ _) | ((with_reducible apply p_updateFG); (case L => assumption); (case U => intro q'; (repeat (first | (apply SetAt.here; exact rfl) | apply SetAt.there))); (case e1 => first | assumption | exact rfl); (case e => (conv => lhs; reduce); try exact rfl); (case hf => exact rfl); intro _ _ _ _) | ((with_reducible apply p_updateG); (case L => assumption); (case U => intro q'; (repeat (first | (apply SetAt.here; exact rfl) | apply SetAt.there))); (case e1 => first | assumption | exact rfl); (case e => rfl); (case hf => rfl); intro _ _ _ _)) | with_reducible apply p_holding | with_reducible apply p_try' | with_reducible apply p_try | with_reducible apply p_keep | with_reducible apply p_attempt | (first | with_reducible apply p_val c2 | with_reducible apply p_val c4 | with_reducible apply p_val c5 | with_reducible apply p_val c7 | with_reducible apply p_val c9 | with_reducible apply p_val l1 | with_reducible apply p_val l2 | with_reducible apply p_val l3 | with_reducible apply p_val l4 | with_reducible apply p_val l5 | with_reducible apply p_val sn_str | with_reducible apply p_val sn_int | with_reducible apply p_val sn_list | with_reducible apply p_val sn_function | with_reducible apply p_val sn_NoneType | with_reducible apply p_val sn_tuple | with_reducible apply p_val sn_mem | ((with_reducible apply p_enter); (case nl => exact noLimit (by (show Heap.get? _ _ = _); (first | assumption | exact Lg.base16 (by assumption) (by assumption) rfl | exact Lg.base16 (by assumption) ((by assumption : Old _ _).fr _ _ rfl rfl rfl) rfl | exact Lg.base0 (by assumption) (by assumption) | exact Lg.base0 (by assumption) ((by assumption : Old _ _).fr _ _ rfl rfl rfl) | exact Lg.hitE (by assumption) (by (repeat (first | exact List.Mem.head _ | refine List.Mem.tail _ ?_))) (by first | assumption | exact rfl)))); (case dp => first | exact Deep.lt (by assumption) | exact Deep2.lt (by assumption) (by first | exact Nat.le_add_right _ _ | (simp [Around.deeper, Around.mark]; try omega)))) | (with_reducible apply p_standAt) | ((with_reducible show WP _ _ (buildClass _ _ _ _ _ _ _ _ _ _ _) _ _ _); conv => arg 3; delta buildClass) | ((with_reducible show WP _ _ (List.mapM mkText (Scope.freeNames _)) _ _ _); first | refine' p_is (m' := List.mapM mkText []) (by kernel_rfl!) ?_ | refine' p_is (m' := List.mapM mkText [⟨#[109, 121, 99, 109, 112]⟩]) (by kernel_rfl!) ?_) | ((with_reducible show wpAny _ _ (runValue (Code.builtin "proto.collect" _)) _ _ _); refine' collect_ok ?S ?hSl ?_; (case S => assumption); (case hSl => (first | assumption | exact Lg.base16 (by assumption) (by assumption) rfl | exact Lg.base16 (by assumption) ((by assumption : Old _ _).fr _ _ rfl rfl rfl) rfl | exact Lg.base0 (by assumption) (by assumption) | exact Lg.base0 (by assumption) ((by assumption : Old _ _).fr _ _ rfl rfl rfl) | exact Lg.hitE (by assumption) (by (repeat (first | exact List.Mem.head _ | refine List.Mem.tail _ ?_))) (by first | assumption | exact rfl))); intro hC aC tkC kC nC eC; (have LC := Lg.add (by assumption) kC nC eC); clear kC nC eC) | ((with_reducible apply p_croom); (case hu => assumption))) | ((with_reducible apply p_slot); (case hi => kernel_rfl!)) | ((with_reducible apply p_iteB); (case hb => kernel_rfl!)) | ((with_reducible apply p_iteN); (case hb => kernel_rfl!)) | ((refine' p_see (Bx.mk ?_)); (first | (first | ((with_reducible apply p_execsH); intro QQ kQ) | ((with_reducible apply p_goS); (case H => assumption); clear kQ QQ) | ((with_reducible apply p_goR); (case H => assumption); clear kQ QQ)) | with_reducible apply p_sbind | with_reducible apply p_bind | with_reducible apply p_rule | with_reducible apply p_point | with_reducible apply p_pure | ((with_reducible apply p_load); (case ho => (first | assumption | exact Lg.base16 (by assumption) (by assumption) rfl | exact Lg.base16 (by assumption) ((by assumption : Old _ _).fr _ _ rfl rfl rfl) rfl | exact Lg.base0 (by assumption) (by assumption) | exact Lg.base0 (by assumption) ((by assumption : Old _ _).fr _ _ rfl rfl rfl) | exact Lg.hitE (by assumption) (by (repeat (first | exact List.Mem.head _ | refine List.Mem.tail _ ?_))) (by first | assumption | exact rfl))); (any_goals (try exact (Option.none : Option Value)))) | with_reducible apply p_freshK | with_reducible apply p_fresh | with_reducible apply p_at | with_reducible apply p_ask | ((with_reducible apply p_allocFnG); (case L => assumption); intro _ _ _ _ _) | ((with_reducible apply p_allocG); (case L => assumption); (case e => (conv => lhs; reduce); try exact rfl); (case hf => exact rfl); intro _ _ _ _ _) | ((with_reducible apply p_updateFG); (case L => assumption); (case U => intro q'; (repeat (first | (apply SetAt.here; exact rfl) | apply SetAt.there))); (case e1 => first | assumption | exact rfl); (case e => (conv => lhs; reduce); try exact rfl); (case hf => exact rfl); intro _ _ _ _) | ((with_reducible apply p_updateG); (case L => assumption); (case U => intro q'; (repeat (first | (apply SetAt.here; exact rfl) | apply SetAt.there))); (case e1 => first | assumption | exact rfl); (case e => rfl); (case hf => rfl); intro _ _ _ _))) | (apply p_sbind) | (apply p_bind)))
  all_goals exact q
theorem rich2 (w : World) (A : Around) (hu : A.units < cLine) (h g d tk os) (KR : Old w h) (T : TD) (K : KD) (v : Value) (H : KOK w h T K v) (a b da db : Addr) (x y : Int) (t u : Tok)
   (ha : h.get? a = some (oInst K.C da x t)) (hb : h.get? b = some (oInst K.C db y u)) (Q : Value → Shared → Prop) (E : Value → Shared → Prop)
   (hc : wpAny (model PG w) A (PySem.call (.ref K.f2) [.ref a, .ref b]) (fun v s' => ∃ r, v = .bool r ∧ Q (.bool r) s') E ⟨h, g, d, tk, os⟩) :
   wpAny (model PG w) A (richCompare .Gt (.ref a) (.ref b)) Q E ⟨h, g, d, tk, os⟩ := by
  have D := Lg.start h
  have ha' := ha
  have hb' := hb
  dsimp only [oInst] at ha' hb'
  refine WP.out ?_
  delta richCompare
  repeat (first | ((with_reducible apply p_nsLookB); (case B => assumption); (case e => first | exact bi_object | exact bi_bc)) | (first | (first | ((with_reducible apply p_execsH); intro QQ kQ) | ((with_reducible apply p_goS); (case H => assumption); clear kQ QQ) | ((with_reducible apply p_goR); (case H => assumption); clear kQ QQ)) | with_reducible apply p_sbind | with_reducible apply p_bind | with_reducible apply p_rule | with_reducible apply p_point | with_reducible apply p_pure | ((with_reducible apply p_load); (case ho => (first | assumption | exact Lg.base16 (by assumption) (by assumption) rfl | exact Lg.base16 (by assumption) ((by assumption : Old _ _).fr _ _ rfl rfl rfl) rfl | exact Lg.base0 (by assumption) (by assumption) | exact Lg.base0 (by assumption) ((by assumption : Old _ _).fr _ _ rfl rfl rfl) | exact Lg.hitE (by assumption) (by (repeat (first | exact List.Mem.head _ | refine List.Mem.tail _ ?_))) (by first | assumption | exact rfl))); (any_goals (try exact (Option.none : Option Value)))) | with_reducible apply p_freshK | with_reducible apply p_fresh | with_reducible apply p_at | with_reducible apply p_ask | ((with_reducible apply p_allocFnG); (case L => assumption); intro _ _ _ _ _) | ((with_reducible apply p_allocG); (case L => assumption); (case e => (conv => lhs; reduce); try exact rfl); (case hf => exact rfl); intro _ _ _ _ _) | ((with_reducible apply p_updateFG); (case L => assumption); (case U => intro q'; (repeat (first | (apply SetAt.here; exact rfl) | apply SetAt.there))); (case e1 => first | assumption | exact rfl); (case e => (conv => lhs; reduce); try exact rfl); (case hf => exact rfl); intro _ _ _ _) | ((with_reducible apply p_updateG); (case L => assumption); (case U => intro q'; (repeat (first | (apply SetAt.here; exact rfl) | apply SetAt.there))); (case e1 => first | assumption | exact rfl); (case e => rfl); (case hf => rfl); intro _ _ _ _)) | with_reducible apply p_holding | with_reducible apply p_try' | with_reducible apply p_try | with_reducible apply p_keep | with_reducible apply p_attempt | (first | with_reducible apply p_val c2 | with_reducible apply p_val c4 | with_reducible apply p_val c5 | with_reducible apply p_val c7 | with_reducible apply p_val c9 | with_reducible apply p_val l1 | with_reducible apply p_val l2 | with_reducible apply p_val l3 | with_reducible apply p_val l4 | with_reducible apply p_val l5 | with_reducible apply p_val sn_str | with_reducible apply p_val sn_int | with_reducible apply p_val sn_list | with_reducible apply p_val sn_function | with_reducible apply p_val sn_NoneType | with_reducible apply p_val sn_tuple | with_reducible apply p_val sn_mem | ((with_reducible apply p_enter); (case nl => exact noLimit (by (show Heap.get? _ _ = _); (first | assumption | exact Lg.base16 (by assumption) (by assumption) rfl | exact Lg.base16 (by assumption) ((by assumption : Old _ _).fr _ _ rfl rfl rfl) rfl | exact Lg.base0 (by assumption) (by assumption) | exact Lg.base0 (by assumption) ((by assumption : Old _ _).fr _ _ rfl rfl rfl) | exact Lg.hitE (by assumption) (by (repeat (first | exact List.Mem.head _ | refine List.Mem.tail _ ?_))) (by first | assumption | exact rfl)))); (case dp => first | exact Deep.lt (by assumption) | exact Deep2.lt (by assumption) (by first | exact Nat.le_add_right _ _ | (simp [Around.deeper, Around.mark]; try omega)))) | (with_reducible apply p_standAt) | ((with_reducible show WP _ _ (buildClass _ _ _ _ _ _ _ _ _ _ _) _ _ _); conv => arg 3; delta buildClass) | ((with_reducible show WP _ _ (List.mapM mkText (Scope.freeNames _)) _ _ _); first | refine' p_is (m' := List.mapM mkText []) (by kernel_rfl!) ?_ | refine' p_is (m' := List.mapM mkText [⟨#[109, 121, 99, 109, 112]⟩]) (by kernel_rfl!) ?_) | ((with_reducible show wpAny _ _ (runValue (Code.builtin "proto.collect" _)) _ _ _); refine' collect_ok ?S ?hSl ?_; (case S => assumption); (case hSl => (first | assumption | exact Lg.base16 (by assumption) (by assumption) rfl | exact Lg.base16 (by assumption) ((by assumption : Old _ _).fr _ _ rfl rfl rfl) rfl | exact Lg.base0 (by assumption) (by assumption) | exact Lg.base0 (by assumption) ((by assumption : Old _ _).fr _ _ rfl rfl rfl) | exact Lg.hitE (by assumption) (by (repeat (first | exact List.Mem.head _ | refine List.Mem.tail _ ?_))) (by first | assumption | exact rfl))); intro hC aC tkC kC nC eC; (have LC := Lg.add (by assumption) kC nC eC); clear kC nC eC) | ((with_reducible apply p_croom); (case hu => assumption))) | ((with_reducible apply p_slot); (case hi => kernel_rfl!)) | ((with_reducible apply p_iteB); (case hb => kernel_rfl!)) | ((with_reducible apply p_iteN); (case hb => kernel_rfl!)) | ((refine' p_see (Bx.mk ?_)); (first | (first | ((with_reducible apply p_execsH); intro QQ kQ) | ((with_reducible apply p_goS); (case H => assumption); clear kQ QQ) | ((with_reducible apply p_goR); (case H => assumption); clear kQ QQ)) | with_reducible apply p_sbind | with_reducible apply p_bind | with_reducible apply p_rule | with_reducible apply p_point | with_reducible apply p_pure | ((with_reducible apply p_load); (case ho => (first | assumption | exact Lg.base16 (by assumption) (by assumption) rfl | exact Lg.base16 (by assumption) ((by assumption : Old _ _).fr _ _ rfl rfl rfl) rfl | exact Lg.base0 (by assumption) (by assumption) | exact Lg.base0 (by assumption) ((by assumption : Old _ _).fr _ _ rfl rfl rfl) | exact Lg.hitE (by assumption) (by (repeat (first | exact List.Mem.head _ | refine List.Mem.tail _ ?_))) (by first | assumption | exact rfl))); (any_goals (try exact (Option.none : Option Value)))) | with_reducible apply p_freshK | with_reducible apply p_fresh | with_reducible apply p_at | with_reducible apply p_ask | ((with_reducible apply p_allocFnG); (case L => assumption); intro _ _ _ _ _) | ((with_reducible apply p_allocG); (case L => assumption); (case e => (conv => lhs; reduce); try exact rfl); (case hf => exact rfl); intro _ _ _ _ _) | ((with_reducible apply p_updateFG); (case L => assumption); (case U => intro q'; (repeat (first | (apply SetAt.here; exact rfl) | apply SetAt.there))); (case e1 => first | assumption | exact rfl); (case e => (conv => lhs; reduce); try exact rfl); (case hf => exact rfl); intro _ _ _ _) | ((with_reducible apply p_updateG); (case L => assumption); (case U => intro q'; (repeat (first | (apply SetAt.here; exact rfl) | apply SetAt.there))); (case e1 => first | assumption | exact rfl); (case e => rfl); (case hf => rfl); intro _ _ _ _))) | (apply p_sbind) | (apply p_bind))
  refine WP.id' ?_
  conv => arg 3; simp only [bne_self_eq_false, Bool.false_eq_true, if_false]
  refine p_bind ?_
  refine p_pure ?_
  refine WP.id' ?_
  simp only [Bool.false_eq_true, if_false]
  refine p_bind ?_
  delta tryCompare
  refine p_bind ?_
  refine WP.mk (special2 w A hu h g d tk os KR T K v H a b da x t ha _ _ (wpAny_mono hc (fun v s' q => ?_) fun _ _ e => e))
  obtain ⟨r, rfl, q⟩ := q
  repeat (first | ((with_reducible apply p_nsLookB); (case B => assumption); (case e => first | exact bi_object | exact bi_bc)) | (first | (first | ((with_reducible apply p_execsH); intro QQ kQ) | ((with_reducible apply p_goS); (case H => assumption); clear kQ QQ) | ((with_reducible apply p_goR); (case H => assumption); clear kQ QQ)) | with_reducible apply p_sbind | with_reducible apply p_bind | with_reducible apply p_rule | with_reducible apply p_point | with_reducible apply p_pure | ((with_reducible apply p_load); (case ho => (first | assumption | exact Lg.base16 (by assumption) (by assumption) rfl | exact Lg.base16 (by assumption) ((by assumption : Old _ _).fr _ _ rfl rfl rfl) rfl | exact Lg.base0 (by assumption) (by assumption) | exact Lg.base0 (by assumption) ((by assumption : Old _ _).fr _ _ rfl rfl rfl) | exact Lg.hitE (by assumption) (by (repeat (first | exact List.Mem.head _ | refine List.Mem.tail _ ?_))) (by first | assumption | exact rfl))); (any_goals (try exact (Option.none : Option Value)))) | with_reducible apply p_freshK | with_reducible apply p_fresh | with_reducible apply p_at | with_reducible apply p_ask | ((with_reducible apply p_allocFnG); (case L => assumption); intro _ _ _ _ _) | ((with_reducible apply p_allocG); (case L => assumption); (case e => (conv => lhs; reduce); try exact rfl); (case hf => exact rfl); intro _ _ _ _ _) | ((with_reducible apply p_updateFG); (case L => assumption); (case U => intro q'; (repeat (first | (apply SetAt.here; exact rfl) | apply SetAt.there))); (case e1 => first | assumption | exact rfl); (case e => (conv => lhs; reduce); try exact rfl); (case hf => exact rfl); intro _ _ _ _) | ((with_reducible apply p_updateG); (case L => assumption); (case U => intro q'; (repeat (first | (apply SetAt.here; exact rfl) | apply SetAt.there))); (case e1 => first | assumption | exact rfl); (case e => rfl); (case hf => rfl); intro _ _ _ _)) | with_reducible apply p_holding | with_reducible apply p_try' | with_reducible apply p_try | with_reducible apply p_keep | with_reducible apply p_attempt | (first | with_reducible apply p_val c2 | with_reducible apply p_val c4 | with_reducible apply p_val c5 | with_reducible apply p_val c7 | with_reducible apply p_val c9 | with_reducible apply p_val l1 | with_reducible apply p_val l2 | with_reducible apply p_val l3 | with_reducible apply p_val l4 | with_reducible apply p_val l5 | with_reducible apply p_val sn_str | with_reducible apply p_val sn_int | with_reducible apply p_val sn_list | with_reducible apply p_val sn_function | with_reducible apply p_val sn_NoneType | with_reducible apply p_val sn_tuple | with_reducible apply p_val sn_mem | ((with_reducible apply p_enter); (case nl => exact noLimit (by (show Heap.get? _ _ = _); (first | assumption | exact Lg.base16 (by assumption) (by assumption) rfl | exact Lg.base16 (by assumption) ((by assumption : Old _ _).fr _ _ rfl rfl rfl) rfl | exact Lg.base0 (by assumption) (by assumption) | exact Lg.base0 (by assumption) ((by assumption : Old _ _).fr _ _ rfl rfl rfl) | exact Lg.hitE (by assumption) (by (repeat (first | exact List.Mem.head _ | refine List.Mem.tail _ ?_))) (by first | assumption | exact rfl)))); (case dp => first | exact Deep.lt (by assumption) | exact Deep2.lt (by assumption) (by first | exact Nat.le_add_right _ _ | (simp [Around.deeper, Around.mark]; try omega)))) | (with_reducible apply p_standAt) | ((with_reducible show WP _ _ (buildClass _ _ _ _ _ _ _ _ _ _ _) _ _ _); conv => arg 3; delta buildClass) | ((with_reducible show WP _ _ (List.mapM mkText (Scope.freeNames _)) _ _ _); first | refine' p_is (m' := List.mapM mkText []) (by kernel_rfl!) ?_ | refine' p_is (m' := List.mapM mkText [⟨#[109, 121, 99, 109, 112]⟩]) (by kernel_rfl!) ?_) | ((with_reducible show wpAny _ _ (runValue (Code.builtin "proto.collect" _)) _ _ _); refine' collect_ok ?S ?hSl ?_; (case S => assumption); (case hSl => (first | assumption | exact Lg.base16 (by assumption) (by assumption) rfl | exact Lg.base16 (by assumption) ((by assumption : Old _ _).fr _ _ rfl rfl rfl) rfl | exact Lg.base0 (by assumption) (by assumption) | exact Lg.base0 (by assumption) ((by assumption : Old _ _).fr _ _ rfl rfl rfl) | exact Lg.hitE (by assumption) (by (repeat (first | exact List.Mem.head _ | refine List.Mem.tail _ ?_))) (by first | assumption | exact rfl))); intro hC aC tkC kC nC eC; (have LC := Lg.add (by assumption) kC nC eC); clear kC nC eC) | ((with_reducible apply p_croom); (case hu => assumption))) | ((with_reducible apply p_slot); (case hi => kernel_rfl!)) | ((with_reducible apply p_iteB); (case hb => kernel_rfl!)) | ((with_reducible apply p_iteN); (case hb => kernel_rfl!)) | ((refine' p_see (Bx.mk ?_)); (first | (first | ((with_reducible apply p_execsH); intro QQ kQ) | ((with_reducible apply p_goS); (case H => assumption); clear kQ QQ) | ((with_reducible apply p_goR); (case H => assumption); clear kQ QQ)) | with_reducible apply p_sbind | with_reducible apply p_bind | with_reducible apply p_rule | with_reducible apply p_point | with_reducible apply p_pure | ((with_reducible apply p_load); (case ho => (first | assumption | exact Lg.base16 (by assumption) (by assumption) rfl | exact Lg.base16 (by assumption) ((by assumption : Old _ _).fr _ _ rfl rfl rfl) rfl | exact Lg.base0 (by assumption) (by assumption) | exact Lg.base0 (by assumption) ((by assumption : Old _ _).fr _ _ rfl rfl rfl) | exact Lg.hitE (by assumption) (by (repeat (first | exact List.Mem.head _ | refine List.Mem.tail _ ?_))) (by first | assumption | exact rfl))); (any_goals (try exact (Option.none : Option Value)))) | with_reducible apply p_freshK | with_reducible apply p_fresh | with_reducible apply p_at | with_reducible apply p_ask | ((with_reducible apply p_allocFnG); (case L => assumption); intro _ _ _ _ _) | ((with_reducible apply p_allocG); (case L => assumption); (case e => (conv => lhs; reduce); try exact rfl); (case hf => exact rfl); intro _ _ _ _ _) | ((with_reducible apply p_updateFG); (case L => assumption); (case U => intro q'; (repeat (first | (apply SetAt.here; exact rfl) | apply SetAt.there))); (case e1 => first | assumption | exact rfl); (case e => (conv => lhs; reduce); try exact rfl); (case hf => exact rfl); intro _ _ _ _) | ((with_reducible apply p_updateG); (case L => assumption); (case U => intro q'; (repeat (first | (apply SetAt.here; exact rfl) | apply SetAt.there))); (case e1 => first | assumption | exact rfl); (case e => rfl); (case hf => rfl); intro _ _ _ _))) | (apply p_sbind) | (apply p_bind))
  all_goals exact q
theorem special3 (w : World) (A : Around) (hu : A.units < cLine) (h g d tk os) (KR : Old w h) (T : TD) (K : KD) (v : Value) (H : KOK w h T K v) (a b da : Addr) (x : Int) (t : Tok)
   (ha : h.get? a = some (oInst K.C da x t)) (Q : Option Value → Shared → Prop) (E : Value → Shared → Prop)
   (hc : wpAny (model PG w) A (PySem.call (.ref K.f3) [.ref a, .ref b]) (fun v => Q (some v)) E ⟨h, g, d, tk, os⟩) :
   wpAny (model PG w) A (callSpecialIfBound? (.ref a) (Str.ofString "__eq__") [.ref b]) Q E ⟨h, g, d, tk, os⟩ := by
  have D := Lg.start h
  have h2 := KR.fr 2 _ rfl rfl rfl
  obtain ⟨hC, hmd, hba, hns, hcell, f0, f1, f2, f3, f4, f5⟩ := H
  rcases K with ⟨C, ns, md, ba, sl, sa, cell, g0, g1, g2, g3, g4, g5, ct1, ct2, ct3, ct4, ct5, tn, v1, tx, t0, t2, t3, t4, t5, t6, t7, t8, t9, t10, t11, v0, v2⟩
  dsimp only [oK, oMd, oNs, oInst] at hC hmd hba hns hcell ha hc
  replace f3 := f3 _ rfl
  dsimp only at f3
  refine WP.out ?_
  delta callSpecialIfBound?
  repeat (first | ((with_reducible apply p_nsLookB); (case B => assumption); (case e => first | exact bi_object | exact bi_bc)) | (first | (first | ((with_reducible apply p_execsH); intro QQ kQ) | ((with_reducible apply p_goS); (case H => assumption); clear kQ QQ) | ((with_reducible apply p_goR); (case H => assumption); clear kQ QQ)) | with_reducible apply p_sbind | with_reducible apply p_bind | with_reducible apply p_rule | with_reducible apply p_point | with_reducible apply p_pure | ((with_reducible apply p_load); (case ho => (first | assumption | exact Lg.base16 (by assumption) (by assumption) rfl | exact Lg.base16 (by assumption) ((by assumption : Old _ _).fr _ _ rfl rfl rfl) rfl | exact Lg.base0 (by assumption) (by assumption) | exact Lg.base0 (by assumption) ((by assumption : Old _ _).fr _ _ rfl rfl rfl) | exact Lg.hitE (by assumption) (by (repeat (first | exact List.Mem.head _ | refine List.Mem.tail _ ?_))) (by first | assumption | exact rfl))); (any_goals (try exact (Option.none : Option Value)))) | with_reducible apply p_freshK | with_reducible apply p_fresh | with_reducible apply p_at | with_reducible apply p_ask | ((with_reducible apply p_allocFnG); (case L => assumption); intro _ _ _ _ _) | ((with_reducible apply p_allocG); (case L => assumption); (case e => (conv => lhs; reduce); try exact rfl); (case hf => exact rfl); intro _ _ _ _ _) | ((with_reducible apply p_updateFG); (case L => assumption); (case U => intro q'; (repeat (first | (apply SetAt.here; exact rfl) | apply SetAt.there))); (case e1 => first | assumption | exact rfl); (case e => (conv => lhs; reduce); try exact rfl); (case hf => exact rfl); intro _ _ _ _) | ((with_reducible apply p_updateG); (case L => assumption); (case U => intro q'; (repeat (first | (apply SetAt.here; exact rfl) | apply SetAt.there))); (case e1 => first | assumption | exact rfl); (case e => rfl); (case hf => rfl); intro _ _ _ _)) | with_reducible apply p_holding | with_reducible apply p_try' | with_reducible apply p_try | with_reducible apply p_keep | with_reducible apply p_attempt | (first | with_reducible apply p_val c2 | with_reducible apply p_val c4 | with_reducible apply p_val c5 | with_reducible apply p_val c7 | with_reducible apply p_val c9 | with_reducible apply p_val l1 | with_reducible apply p_val l2 | with_reducible apply p_val l3 | with_reducible apply p_val l4 | with_reducible apply p_val l5 | with_reducible apply p_val sn_str | with_reducible apply p_val sn_int | with_reducible apply p_val sn_list | with_reducible apply p_val sn_function | with_reducible apply p_val sn_NoneType | with_reducible apply p_val sn_tuple | with_reducible apply p_val sn_mem | ((with_reducible apply p_enter); (case nl => exact noLimit (by (show Heap.get? _ _ = _); (first | assumption | exact Lg.base16 (by assumption) (by assumption) rfl | exact Lg.base16 (by assumption) ((by assumption : Old _ _).fr _ _ rfl rfl rfl) rfl | exact Lg.base0 (by assumption) (by assumption) | exact Lg.base0 (by assumption) ((by assumption : Old _ _).fr _ _ rfl rfl rfl) | exact Lg.hitE (by assumption) (by (repeat (first | exact List.Mem.head _ | refine List.Mem.tail _ ?_))) (by first | assumption | exact rfl)))); (case dp => first | exact Deep.lt (by assumption) | exact Deep2.lt (by assumption) (by first | exact Nat.le_add_right _ _ | (simp [Around.deeper, Around.mark]; try omega)))) | (with_reducible apply p_standAt) | ((with_reducible show WP _ _ (buildClass _ _ _ _ _ _ _ _ _ _ _) _ _ _); conv => arg 3; delta buildClass) | ((with_reducible show WP _ _ (List.mapM mkText (Scope.freeNames _)) _ _ _); first | refine' p_is (m' := List.mapM mkText []) (by kernel_rfl!) ?_ | refine' p_is (m' := List.mapM mkText [⟨#[109, 121, 99, 109, 112]⟩]) (by kernel_rfl!) ?_) | ((with_reducible show wpAny _ _ (runValue (Code.builtin "proto.collect" _)) _ _ _); refine' collect_ok ?S ?hSl ?_; (case S => assumption); (case hSl => (first | assumption | exact Lg.base16 (by assumption) (by assumption) rfl | exact Lg.base16 (by assumption) ((by assumption : Old _ _).fr _ _ rfl rfl rfl) rfl | exact Lg.base0 (by assumption) (by assumption) | exact Lg.base0 (by assumption) ((by assumption : Old _ _).fr _ _ rfl rfl rfl) | exact Lg.hitE (by assumption) (by (repeat (first | exact List.Mem.head _ | refine List.Mem.tail _ ?_))) (by first | assumption | exact rfl))); intro hC aC tkC kC nC eC; (have LC := Lg.add (by assumption) kC nC eC); clear kC nC eC) | ((with_reducible apply p_croom); (case hu => assumption))) | ((with_reducible apply p_slot); (case hi => kernel_rfl!)) | ((with_reducible apply p_iteB); (case hb => kernel_rfl!)) | ((with_reducible apply p_iteN); (case hb => kernel_rfl!)) | ((refine' p_see (Bx.mk ?_)); (first | (first | ((with_reducible apply p_execsH); intro QQ kQ) | ((with_reducible apply p_goS); (case H => assumption); clear kQ QQ) | ((with_reducible apply p_goR); (case H => assumption); clear kQ QQ)) | with_reducible apply p_sbind | with_reducible apply p_bind | with_reducible apply p_rule | with_reducible apply p_point | with_reducible apply p_pure | ((with_reducible apply p_load); (case ho => (first | assumption | exact Lg.base16 (by assumption) (by assumption) rfl | exact Lg.base16 (by assumption) ((by assumption : Old _ _).fr _ _ rfl rfl rfl) rfl | exact Lg.base0 (by assumption) (by assumption) | exact Lg.base0 (by assumption) ((by assumption : Old _ _).fr _ _ rfl rfl rfl) | exact Lg.hitE (by assumption) (by (repeat (first | exact List.Mem.head _ | refine List.Mem.tail _ ?_))) (by first | assumption | exact rfl))); (any_goals (try exact (Option.none : Option Value)))) | with_reducible apply p_freshK | with_reducible apply p_fresh | with_reducible apply p_at | with_reducible apply p_ask | ((with_reducible apply p_allocFnG); (case L => assumption); intro _ _ _ _ _) | ((with_reducible apply p_allocG); (case L => assumption); (case e => (conv => lhs; reduce); try exact rfl); (case hf => exact rfl); intro _ _ _ _ _) | ((with_reducible apply p_updateFG); (case L => assumption); (case U => intro q'; (repeat (first | (apply SetAt.here; exact rfl) | apply SetAt.there))); (case e1 => first | assumption | exact rfl); (case e => (conv => lhs; reduce); try exact rfl); (case hf => exact rfl); intro _ _ _ _) | ((with_reducible apply p_updateG); (case L => assumption); (case U => intro q'; (repeat (first | (apply SetAt.here; exact rfl) | apply SetAt.there))); (case e1 => first | assumption | exact rfl); (case e => rfl); (case hf => rfl); intro _ _ _ _))) | (apply p_sbind) | (apply p_bind))
  refine p_ite2 ?_ ?_
  all_goals repeat (first | ((with_reducible apply p_nsLookB); (case B => assumption); (case e => first | exact bi_object | exact bi_bc)) | (first | (first | ((with_reducible apply p_execsH); intro QQ kQ) | ((with_reducible apply p_goS); (case H => assumption); clear kQ QQ) | ((with_reducible apply p_goR); (case H => assumption); clear kQ QQ)) | with_reducible apply p_sbind | with_reducible apply p_bind | with_reducible apply p_rule | with_reducible apply p_point | with_reducible apply p_pure | ((with_reducible apply p_load); (case ho => (first | assumption | exact Lg.base16 (by assumption) (by assumption) rfl | exact Lg.base16 (by assumption) ((by assumption : Old _ _).fr _ _ rfl rfl rfl) rfl | exact Lg.base0 (by assumption) (by assumption) | exact Lg.base0 (by assumption) ((by assumption : Old _ _).fr _ _ rfl rfl rfl) | exact Lg.hitE (by assumption) (by (repeat (first | exact List.Mem.head _ | refine List.Mem.tail _ ?_))) (by first | assumption | exact rfl))); (any_goals (try exact (Option.none : Option Value)))) | with_reducible apply p_freshK | with_reducible apply p_fresh | with_reducible apply p_at | with_reducible apply p_ask | ((with_reducible apply p_allocFnG); (case L => assumption); intro _ _ _ _ _) | ((with_reducible apply p_allocG); (case L => assumption); (case e => (conv => lhs; reduce); try exact rfl); (case hf => exact rfl); intro _ _ _ _ _) | ((with_reducible apply p_updateFG); (case L => assumption); (case U => intro q'; (repeat (first | (apply SetAt.here; exact rfl) | apply SetAt.there))); (case e1 => first | assumption | exact rfl); (case e => (conv => lhs; reduce); try exact rfl); (case hf => exact rfl); intro _ _ _ _) | ((with_reducible apply p_updateG); (case L => assumption); (case U => intro q'; (repeat (first | (apply SetAt.here; exact rfl) | apply SetAt.there))); (case e1 => first | assumption | exact rfl); (case e => rfl); (case hf => rfl); intro _ _ _ _)) | with_reducible apply p_holding | with_reducible apply p_try' | with_reducible apply p_try | with_reducible apply p_keep | with_reducible apply p_attempt | (first | with_reducible apply p_val c2 | with_reducible apply p_val c4 | with_reducible apply p_val c5 | with_reducible apply p_val c7 | with_reducible apply p_val c9 | with_reducible apply p_val l1 | with_reducible apply p_val l2 | with_reducible apply p_val l3 | with_reducible apply p_val l4 | with_reducible apply p_val l5 | with_reducible apply p_val sn_str | with_reducible apply p_val sn_int | with_reducible apply p_val sn_list | with_reducible apply p_val sn_function | with_reducible apply p_val sn_NoneType | with_reducible apply p_val sn_tuple | with_reducible apply p_val sn_mem | ((with_reducible apply p_enter); (case nl => exact noLimit (by (show Heap.get? _ _ = _); (first | assumption | exact Lg.base16 (by assumption) (by assumption) rfl | exact Lg.base16 (by assumption) ((by assumption : Old _ _).fr _ _ rfl rfl rfl) rfl | exact Lg.base0 (by assumption) (by assumption) | exact Lg.base0 (by assumption) ((by assumption : Old _ _).fr _ _ rfl rfl rfl) | exact Lg.hitE (by assumption) (by (repeat (first | exact List.Mem.head _ | refine List.Mem.tail _ ?_))) (by first | assumption | exact rfl)))); (case dp => first | exact Deep.lt (by assumption) | exact Deep2.lt (by assumption) (by first | exact Nat.le_add_right _ _ | (simp [Around.deeper, Around.mark]; try omega)))) | (with_reducible apply p_standAt) | ((with_reducible show WP _ _ (buildClass _ _ _ _ _ _ _ _ _ _ _) _ _ _); conv => arg 3; delta buildClass) | ((with_reducible show WP _ _ (List.mapM mkText (Scope.freeNames _)) _ _ _); first | refine' p_is (m' := List.mapM mkText []) (by kernel_rfl!) ?_ | refine' p_is (m' := List.mapM mkText [⟨#[109, 121, 99, 109, 112]⟩]) (by kernel_rfl!) ?_) | ((with_reducible show wpAny _ _ (runValue (Code.builtin "proto.collect" _)) _ _ _); refine' collect_ok ?S ?hSl ?_; (case S => assumption); (case hSl => (first | assumption | exact Lg.base16 (by assumption) (by assumption) rfl | exact Lg.base16 (by assumption) ((by assumption : Old _ _).fr _ _ rfl rfl rfl) rfl | exact Lg.base0 (by assumption) (by assumption) | exact Lg.base0 (by assumption) ((by assumption : Old _ _).fr _ _ rfl rfl rfl) | exact Lg.hitE (by assumption) (by (repeat (first | exact List.Mem.head _ | refine List.Mem.tail _ ?_))) (by first | assumption | exact rfl))); intro hC aC tkC kC nC eC; (have LC := Lg.add (by assumption) kC nC eC); clear kC nC eC) | ((with_reducible apply p_croom); (case hu => assumption))) | ((with_reducible apply p_slot); (case hi => kernel_rfl!)) | ((with_reducible apply p_iteB); (case hb => kernel_rfl!)) | ((with_reducible apply p_iteN); (case hb => kernel_rfl!)) | ((refine' p_see (Bx.mk ?_)); (first | (first | ((with_reducible apply p_execsH); intro QQ kQ) | ((with_reducible apply p_goS); (case H => assumption); clear kQ QQ) | ((with_reducible apply p_goR); (case H => assumption); clear kQ QQ)) | with_reducible apply p_sbind | with_reducible apply p_bind | with_reducible apply p_rule | with_reducible apply p_point | with_reducible apply p_pure | ((with_reducible apply p_load); (case ho => (first | assumption | exact Lg.base16 (by assumption) (by assumption) rfl | exact Lg.base16 (by assumption) ((by assumption : Old _ _).fr _ _ rfl rfl rfl) rfl | exact Lg.base0 (by assumption) (by assumption) | exact Lg.base0 (by assumption) ((by assumption : Old _ _).fr _ _ rfl rfl rfl) | exact Lg.hitE (by assumption) (by (repeat (first | exact List.Mem.head _ | refine List.Mem.tail _ ?_))) (by first | assumption | exact rfl))); (any_goals (try exact (Option.none : Option Value)))) | with_reducible apply p_freshK | with_reducible apply p_fresh | with_reducible apply p_at | with_reducible apply p_ask | ((with_reducible apply p_allocFnG); (case L => assumption); intro _ _ _ _ _) | ((with_reducible apply p_allocG); (case L => assumption); (case e => (conv => lhs; reduce); try exact rfl); (case hf => exact rfl); intro _ _ _ _ _) | ((with_reducible apply p_updateFG); (case L => assumption); (case U => intro q'; (repeat (first | (apply SetAt.here; exact rfl) | apply SetAt.there))); (case e1 => first | assumption | exact rfl); (case e => (conv => lhs; reduce); try exact rfl); (case hf => exact rfl); intro _ _ _ _) | ((with_reducible apply p_updateG); (case L => assumption); (case U => intro q'; (repeat (first | (apply SetAt.here; exact rfl) | apply SetAt.there))); (case e1 => first | assumption | exact rfl); (case e => rfl); (case hf => rfl); intro _ _ _ _))) | (apply p_sbind) | (apply p_bind))
  all_goals refine' p_is (m' := run (.call (.ref g3) ⟨[.ref a, .ref b], []⟩)) (by kernel_rfl!) ?_
  all_goals refine WP.mk (run_of_call (wpAny_mono hc (fun v s' q => ?_) fun _ _ e => e))
  all_goals (repeat (first | ((with_reducible apply p_nsLookB); (case B => assumption); (case e => first | exact bi_object | exact bi_bc)) | (first | (first | ((with_reducible apply p_execsH); intro QQ kQ) | ((with_reducible apply p_goS); (case H => assumption); clear kQ QQ) | ((with_reducible apply p_goR); (case H => assumption); clear kQ QQ)) | with_reducible apply p_sbind | with_reducible apply p_bind | with_reducible apply p_rule | with_reducible apply p_point | with_reducible apply p_pure | ((with_reducible apply p_load); (case ho => (first | assumption | exact Lg.base16 (by assumption) (by assumption) rfl | exact Lg.base16 (by assumption) ((by assumption : Old _ _).fr _ _ rfl rfl rfl) rfl | exact Lg.base0 (by assumption) (by assumption) | exact Lg.base0 (by assumption) ((by assumption : Old _ _).fr _ _ rfl rfl rfl) | exact Lg.hitE (by assumption) (by (repeat (first | exact List.Mem.head _ | refine List.Mem.tail _ ?_))) (by first | assumption | exact rfl))); (any_goals (try exact (Option.none : Option Value)))) | with_reducible apply p_freshK | with_reducible apply p_fresh | with_reducible apply p_at | with_reducible apply p_ask | ((with_reducible apply p_allocFnG); (case L => assumption); intro _ _ _ _ _) | ((with_reducible apply p_allocG); (case L => assumption); (case e => (conv => lhs; reduce); try exact rfl); (case hf => exact rfl); intro _ _ _ _ _) | ((with_reducible apply p_updateFG); (case L => assumption); (case U => intro q'; (repeat (first | (apply SetAt.here; exact rfl) | apply SetAt.there))); (case e1 => first | assumption | exact rfl); (case e => (conv => lhs; reduce); try exact rfl); (case hf => exact rfl); intro _ _ _ _) | ((with_reducible apply p_updateG); (case L => assumption); (case U => intro q'; (repeat (first | (apply SetAt.here; exact rfl) | apply SetAt.there))); (case e1 => first | assumption | exact rfl); (case e => rfl); (case hf => rfl); intro _ _ _ _)) | with_reducible apply p_holding | with_reducible apply p_try' | with_reducible apply p_try | with_reducible apply p_keep | with_reducible apply p_attempt | (first | with_reducible apply p_val c2 | with_reducible apply p_val c4 | with_reducible apply p_val c5 | with_reducible apply p_val c7 | with_reducible apply p_val c9 | with_reducible apply p_val l1 | with_reducible apply p_val l2 | with_reducible apply p_val l3 | with_reducible apply p_val l4 | with_reducible apply p_val l5 | with_reducible apply p_val sn_str | with_reducible apply p_val sn_int | with_reducible apply p_val sn_list | with_reducible apply p_val sn_function | with_reducible apply p_val sn_NoneType | with_reducible apply p_val sn_tuple | with_reducible apply p_val sn_mem | ((with_reducible apply p_enter); (case nl => exact noLimit (by (show Heap.get? _ _ = _); (first | assumption | exact Lg.base16 (by assumption) (by assumption) rfl | exact Lg.base16 (by assumption) ((by assumption : Old _ _).fr _ _ rfl rfl rfl) rfl | exact Lg.base0 (by assumption) (by assumption) | exact Lg.base0 (by assumption) ((by assumption : Old _ _).fr _ _ rfl rfl rfl) | exact Lg.hitE (by assumption) (by (repeat (first | exact List.Mem.head _ | refine List.Mem.tail _ ?_))) (by first | assumption | exact rfl)))); (case dp => first | exact Deep.lt (by assumption) | exact Deep2.lt (by assumption) (by first | exact Nat.le_add_right _ _ | (simp [Around.deeper, Around.mark]; try omega)))) | (with_reducible apply p_standAt) | ((with_reducible show WP _ _ (buildClass _ _ _ _ _ _ _ _ _ _ _) _ _ _); conv => arg 3; delta buildClass) | ((with_reducible show WP _ _ (List.mapM mkText (Scope.freeNames _)) _ _ _); first | refine' p_is (m' := List.mapM mkText []) (by kernel_rfl!) ?_ | refine' p_is (m' := List.mapM mkText [⟨#[109, 121, 99, 109, 112]⟩]) (by kernel_rfl!) ?_) | ((with_reducible show wpAny _ _ (runValue (Code.builtin "proto.collect" _)) _ _ _); refine' collect_ok ?S ?hSl ?_; (case S => assumption); (case hSl => (first | assumption | exact Lg.base16 (by assumption) (by assumption) rfl | exact Lg.base16 (by assumption) ((by assumption : Old _ _).fr _ _ rfl rfl rfl) rfl | exact Lg.base0 (by assumption) (by assumption) | exact Lg.base0 (by assumption) ((by assumption : Old _ _).fr _ _ rfl rfl rfl) | exact Lg.hitE (by assumption) (by (repeat (first | exact List.Mem.head _ | refine List.Mem.tail _ ?_))) (by first | assumption | exact rfl))); intro hC aC tkC kC nC eC; (have LC := Lg.add (by assumption) kC nC eC); clear kC nC eC) | ((with_reducible apply p_croom); (case hu => assumption))) | ((with_reducible apply p_slot); (case hi => kernel_rfl!)) | ((with_reducible apply p_iteB); (case hb => kernel_rfl!)) | ((with_reducible apply p_iteN); (case hb => kernel_rfl!)) | ((refine' p_see (Bx.mk ?_)); (first | (first | ((with_reducible apply p_execsH); intro QQ kQ) | ((with_reducible apply p_goS); (case H => assumption); clear kQ QQ) | ((with_reducible apply p_goR); (case H => assumption); clear kQ QQ)) | with_reducible apply p_sbind | with_reducible apply p_bind | with_reducible apply p_rule | with_reducible apply p_point | with_reducible apply p_pure | ((with_reducible apply p_load); (case ho => (first | assumption | exact Lg.base16 (by assumption) (by assumption) rfl | exact Lg.base16 (by assumption) ((by assumption : Old _ _).fr _ _ rfl rfl rfl) rfl | exact Lg.base0 (by assumption) (by assumption) | exact Lg.base0 (by assumption) ((by assumption : Old _ _).fr _ _ rfl rfl rfl) | exact Lg.hitE (by assumption) (by (repeat (first | exact List.Mem.head _ | refine List.Mem.tail _ ?_))) (by first | assumption | exact rfl))); (any_goals (try exact (Option.none : Option Value)))) | with_reducible apply p_freshK | with_reducible apply p_fresh | with_reducible apply p_at | with_reducible apply p_ask | ((with_reducible apply p_allocFnG); (case L => assumption); intro _ _ _ _ _) | ((with_reducible apply p_allocG); (case L => assumption); (case e => (conv => lhs; reduce); try exact rfl); (case hf => exact rfl); intro _ _ _ _ _) | ((with_reducible apply p_updateFG); (case L => assumption); (case U => intro q'; (repeat (first | (apply SetAt.here; exact rfl) | apply SetAt.there))); (case e1 => first | assumption | exact rfl); (case e => (conv => lhs; reduce); try exact rfl); (case hf => exact rfl); intro _ _ _ _) | ((with_reducible apply p_updateG); (case L => assumption); (case U => intro q'; (repeat (first | (apply SetAt.here; exact rfl) | apply SetAt.there))); (case e1 => first | assumption | exact rfl); (case e => rfl); (case hf => rfl); intro _ _ _ _))) | (apply p_sbind) | (apply p_bind)))
  all_goals exact q
theorem rich3 (w : World) (A : Around) (hu : A.units < cLine) (h g d tk os) (KR : Old w h) (T : TD) (K : KD) (v : Value) (H : KOK w h T K v) (a b da db : Addr) (x y : Int) (t u : Tok)
   (ha : h.get? a = some (oInst K.C da x t)) (hb : h.get? b = some (oInst K.C db y u)) (Q : Value → Shared → Prop) (E : Value → Shared → Prop)
   (hc : wpAny (model PG w) A (PySem.call (.ref K.f3) [.ref a, .ref b]) (fun v s' => ∃ r, v = .bool r ∧ Q (.bool r) s') E ⟨h, g, d, tk, os⟩) :
   wpAny (model PG w) A (richCompare .Eq (.ref a) (.ref b)) Q E ⟨h, g, d, tk, os⟩ := by
  have D := Lg.start h
  have ha' := ha
  have hb' := hb
  dsimp only [oInst] at ha' hb'
  refine WP.out ?_
  delta richCompare
  repeat (first | ((with_reducible apply p_nsLookB); (case B => assumption); (case e => first | exact bi_object | exact bi_bc)) | (first | (first | ((with_reducible apply p_execsH); intro QQ kQ) | ((with_reducible apply p_goS); (case H => assumption); clear kQ QQ) | ((with_reducible apply p_goR); (case H => assumption); clear kQ QQ)) | with_reducible apply p_sbind | with_reducible apply p_bind | with_reducible apply p_rule | with_reducible apply p_point | with_reducible apply p_pure | ((with_reducible apply p_load); (case ho => (first | assumption | exact Lg.base16 (by assumption) (by assumption) rfl | exact Lg.base16 (by assumption) ((by assumption : Old _ _).fr _ _ rfl rfl rfl) rfl | exact Lg.base0 (by assumption) (by assumption) | exact Lg.base0 (by assumption) ((by assumption : Old _ _).fr _ _ rfl rfl rfl) | exact Lg.hitE (by assumption) (by (repeat (first | exact List.Mem.head _ | refine List.Mem.tail _ ?_))) (by first | assumption | exact rfl))); (any_goals (try exact (Option.none : Option Value)))) | with_reducible apply p_freshK | with_reducible apply p_fresh | with_reducible apply p_at | with_reducible apply p_ask | ((with_reducible apply p_allocFnG); (case L => assumption); intro _ _ _ _ _) | ((with_reducible apply p_allocG); (case L => assumption); (case e => (conv => lhs; reduce); try exact rfl); (case hf => exact rfl); intro _ _ _ _ _) | ((with_reducible apply p_updateFG); (case L => assumption); (case U => intro q'; (repeat (first | (apply SetAt.here; exact rfl) | apply SetAt.there))); (case e1 => first | assumption | exact rfl); (case e => (conv => lhs; reduce); try exact rfl); (case hf => exact rfl); intro _ _ _ _) | ((with_reducible apply p_updateG); (case L => assumption); (case U => intro q'; (repeat (first | (apply SetAt.here; exact rfl) | apply SetAt.there))); (case e1 => first | assumption | exact rfl); (case e => rfl); (case hf => rfl); intro _ _ _ _)) | with_reducible apply p_holding | with_reducible apply p_try' | with_reducible apply p_try | with_reducible apply p_keep | with_reducible apply p_attempt | (first | with_reducible apply p_val c2 | with_reducible apply p_val c4 | with_reducible apply p_val c5 | with_reducible apply p_val c7 | with_reducible apply p_val c9 | with_reducible apply p_val l1 | with_reducible apply p_val l2 | with_reducible apply p_val l3 | with_reducible apply p_val l4 | with_reducible apply p_val l5 | with_reducible apply p_val sn_str | with_reducible apply p_val sn_int | with_reducible apply p_val sn_list | with_reducible apply p_val sn_function | with_reducible apply p_val sn_NoneType | with_reducible apply p_val sn_tuple | with_reducible apply p_val sn_mem | ((with_reducible apply p_enter); (case nl => exact noLimit (by (show Heap.get? _ _ = _); (first | assumption | exact Lg.base16 (by assumption) (by assumption) rfl | exact Lg.base16 (by assumption) ((by assumption : Old _ _).fr _ _ rfl rfl rfl) rfl | exact Lg.base0 (by assumption) (by assumption) | exact Lg.base0 (by assumption) ((by assumption : Old _ _).fr _ _ rfl rfl rfl) | exact Lg.hitE (by assumption) (by (repeat (first | exact List.Mem.head _ | refine List.Mem.tail _ ?_))) (by first | assumption | exact rfl)))); (case dp => first | exact Deep.lt (by assumption) | exact Deep2.lt (by assumption) (by first | exact Nat.le_add_right _ _ | (simp [Around.deeper, Around.mark]; try omega)))) | (with_reducible apply p_standAt) | ((with_reducible show WP _ _ (buildClass _ _ _ _ _ _ _ _ _ _ _) _ _ _); conv => arg 3; delta buildClass) | ((with_reducible show WP _ _ (List.mapM mkText (Scope.freeNames _)) _ _ _); first | refine' p_is (m' := List.mapM mkText []) (by kernel_rfl!) ?_ | refine' p_is (m' := List.mapM mkText [⟨#[109, 121, 99, 109, 112]⟩]) (by kernel_rfl!) ?_) | ((with_reducible show wpAny _ _ (runValue (Code.builtin "proto.collect" _)) _ _ _); refine' collect_ok ?S ?hSl ?_; (case S => assumption); (case hSl => (first | assumption | exact Lg.base16 (by assumption) (by assumption) rfl | exact Lg.base16 (by assumption) ((by assumption : Old _ _).fr _ _ rfl rfl rfl) rfl | exact Lg.base0 (by assumption) (by assumption) | exact Lg.base0 (by assumption) ((by assumption : Old _ _).fr _ _ rfl rfl rfl) | exact Lg.hitE (by assumption) (by (repeat (first | exact List.Mem.head _ | refine List.Mem.tail _ ?_))) (by first | assumption | exact rfl))); intro hC aC tkC kC nC eC; (have LC := Lg.add (by assumption) kC nC eC); clear kC nC eC) | ((with_reducible apply p_croom); (case hu => assumption))) | ((with_reducible apply p_slot); (case hi => kernel_rfl!)) | ((with_reducible apply p_iteB); (case hb => kernel_rfl!)) | ((with_reducible apply p_iteN); (case hb => kernel_rfl!)) | ((refine' p_see (Bx.mk ?_)); (first | (first | ((with_reducible apply p_execsH); intro QQ kQ) | ((with_reducible apply p_goS); (case H => assumption); clear kQ QQ) | ((with_reducible apply p_goR); (case H => assumption); clear kQ QQ)) | with_reducible apply p_sbind | with_reducible apply p_bind | with_reducible apply p_rule | with_reducible apply p_point | with_reducible apply p_pure | ((with_reducible apply p_load); (case ho => (first | assumption | exact Lg.base16 (by assumption) (by assumption) rfl | exact Lg.base16 (by assumption) ((by assumption : Old _ _).fr _ _ rfl rfl rfl) rfl | exact Lg.base0 (by assumption) (by assumption) | exact Lg.base0 (by assumption) ((by assumption : Old _ _).fr _ _ rfl rfl rfl) | exact Lg.hitE (by assumption) (by (repeat (first | exact List.Mem.head _ | refine List.Mem.tail _ ?_))) (by first | assumption | exact rfl))); (any_goals (try exact (Option.none : Option Value)))) | with_reducible apply p_freshK | with_reducible apply p_fresh | with_reducible apply p_at | with_reducible apply p_ask | ((with_reducible apply p_allocFnG); (case L => assumption); intro _ _ _ _ _) | ((with_reducible apply p_allocG); (case L => assumption); (case e => (conv => lhs; reduce); try exact rfl); (case hf => exact rfl); intro _ _ _ _ _) | ((with_reducible apply p_updateFG); (case L => assumption); (case U => intro q'; (repeat (first | (apply SetAt.here; exact rfl) | apply SetAt.there))); (case e1 => first | assumption | exact rfl); (case e => (conv => lhs; reduce); try exact rfl); (case hf => exact rfl); intro _ _ _ _) | ((with_reducible apply p_updateG); (case L => assumption); (case U => intro q'; (repeat (first | (apply SetAt.here; exact rfl) | apply SetAt.there))); (case e1 => first | assumption | exact rfl); (case e => rfl); (case hf => rfl); intro _ _ _ _))) | (apply p_sbind) | (apply p_bind))
  refine WP.id' ?_
  conv => arg 3; simp only [bne_self_eq_false, Bool.false_eq_true, if_false]
  refine p_bind ?_
  refine p_pure ?_
  refine WP.id' ?_
  simp only [Bool.false_eq_true, if_false]
  refine p_bind ?_
  delta tryCompare
  refine p_bind ?_
  refine WP.mk (special3 w A hu h g d tk os KR T K v H a b da x t ha _ _ (wpAny_mono hc (fun v s' q => ?_) fun _ _ e => e))
  obtain ⟨r, rfl, q⟩ := q
  repeat (first | ((with_reducible apply p_nsLookB); (case B => assumption); (case e => first | exact bi_object | exact bi_bc)) | (first | (first | ((with_reducible apply p_execsH); intro QQ kQ) | ((with_reducible apply p_goS); (case H => assumption); clear kQ QQ) | ((with_reducible apply p_goR); (case H => assumption); clear kQ QQ)) | with_reducible apply p_sbind | with_reducible apply p_bind | with_reducible apply p_rule | with_reducible apply p_point | with_reducible apply p_pure | ((with_reducible apply p_load); (case ho => (first | assumption | exact Lg.base16 (by assumption) (by assumption) rfl | exact Lg.base16 (by assumption) ((by assumption : Old _ _).fr _ _ rfl rfl rfl) rfl | exact Lg.base0 (by assumption) (by assumption) | exact Lg.base0 (by assumption) ((by assumption : Old _ _).fr _ _ rfl rfl rfl) | exact Lg.hitE (by assumption) (by (repeat (first | exact List.Mem.head _ | refine List.Mem.tail _ ?_))) (by first | assumption | exact rfl))); (any_goals (try exact (Option.none : Option Value)))) | with_reducible apply p_freshK | with_reducible apply p_fresh | with_reducible apply p_at | with_reducible apply p_ask | ((with_reducible apply p_allocFnG); (case L => assumption); intro _ _ _ _ _) | ((with_reducible apply p_allocG); (case L => assumption); (case e => (conv => lhs; reduce); try exact rfl); (case hf => exact rfl); intro _ _ _ _ _) | ((with_reducible apply p_updateFG); (case L => assumption); (case U => intro q'; (repeat (first | (apply SetAt.here; exact rfl) | apply SetAt.there))); (case e1 => first | assumption | exact rfl); (case e => (conv => lhs; reduce); try exact rfl); (case hf => exact rfl); intro _ _ _ _) | ((with_reducible apply p_updateG); (case L => assumption); (case U => intro q'; (repeat (first | (apply SetAt.here; exact rfl) | apply SetAt.there))); (case e1 => first | assumption | exact rfl); (case e => rfl); (case hf => rfl); intro _ _ _ _)) | with_reducible apply p_holding | with_reducible apply p_try' | with_reducible apply p_try | with_reducible apply p_keep | with_reducible apply p_attempt | (first | with_reducible apply p_val c2 | with_reducible apply p_val c4 | with_reducible apply p_val c5 | with_reducible apply p_val c7 | with_reducible apply p_val c9 | with_reducible apply p_val l1 | with_reducible apply p_val l2 | with_reducible apply p_val l3 | with_reducible apply p_val l4 | with_reducible apply p_val l5 | with_reducible apply p_val sn_str | with_reducible apply p_val sn_int | with_reducible apply p_val sn_list | with_reducible apply p_val sn_function | with_reducible apply p_val sn_NoneType | with_reducible apply p_val sn_tuple | with_reducible apply p_val sn_mem | ((with_reducible apply p_enter); (case nl => exact noLimit (by (show Heap.get? _ _ = _); (first | assumption | exact Lg.base16 (by assumption) (by assumption) rfl | exact Lg.base16 (by assumption) ((by assumption : Old _ _).fr _ _ rfl rfl rfl) rfl | exact Lg.base0 (by assumption) (by assumption) | exact Lg.base0 (by assumption) ((by assumption : Old _ _).fr _ _ rfl rfl rfl) | exact Lg.hitE (by assumption) (by (repeat (first | exact List.Mem.head _ | refine List.Mem.tail _ ?_))) (by first | assumption | exact rfl)))); (case dp => first | exact Deep.lt (by assumption) | exact Deep2.lt (by assumption) (by first | exact Nat.le_add_right _ _ | (simp [Around.deeper, Around.mark]; try omega)))) | (with_reducible apply p_standAt) | ((with_reducible show WP _ _ (buildClass _ _ _ _ _ _ _ _ _ _ _) _ _ _); conv => arg 3; delta buildClass) | ((with_reducible show WP _ _ (List.mapM mkText (Scope.freeNames _)) _ _ _); first | refine' p_is (m' := List.mapM mkText []) (by kernel_rfl!) ?_ | refine' p_is (m' := List.mapM mkText [⟨#[109, 121, 99, 109, 112]⟩]) (by kernel_rfl!) ?_) | ((with_reducible show wpAny _ _ (runValue (Code.builtin "proto.collect" _)) _ _ _); refine' collect_ok ?S ?hSl ?_; (case S => assumption); (case hSl => (first | assumption | exact Lg.base16 (by assumption) (by assumption) rfl | exact Lg.base16 (by assumption) ((by assumption : Old _ _).fr _ _ rfl rfl rfl) rfl | exact Lg.base0 (by assumption) (by assumption) | exact Lg.base0 (by assumption) ((by assumption : Old _ _).fr _ _ rfl rfl rfl) | exact Lg.hitE (by assumption) (by (repeat (first | exact List.Mem.head _ | refine List.Mem.tail _ ?_))) (by first | assumption | exact rfl))); intro hC aC tkC kC nC eC; (have LC := Lg.add (by assumption) kC nC eC); clear kC nC eC) | ((with_reducible apply p_croom); (case hu => assumption))) | ((with_reducible apply p_slot); (case hi => kernel_rfl!)) | ((with_reducible apply p_iteB); (case hb => kernel_rfl!)) | ((with_reducible apply p_iteN); (case hb => kernel_rfl!)) | ((refine' p_see (Bx.mk ?_)); (first | (first | ((with_reducible apply p_execsH); intro QQ kQ) | ((with_reducible apply p_goS); (case H => assumption); clear kQ QQ) | ((with_reducible apply p_goR); (case H => assumption); clear kQ QQ)) | with_reducible apply p_sbind | with_reducible apply p_bind | with_reducible apply p_rule | with_reducible apply p_point | with_reducible apply p_pure | ((with_reducible apply p_load); (case ho => (first | assumption | exact Lg.base16 (by assumption) (by assumption) rfl | exact Lg.base16 (by assumption) ((by assumption : Old _ _).fr _ _ rfl rfl rfl) rfl | exact Lg.base0 (by assumption) (by assumption) | exact Lg.base0 (by assumption) ((by assumption : Old _ _).fr _ _ rfl rfl rfl) | exact Lg.hitE (by assumption) (by (repeat (first | exact List.Mem.head _ | refine List.Mem.tail _ ?_))) (by first | assumption | exact rfl))); (any_goals (try exact (Option.none : Option Value)))) | with_reducible apply p_freshK | with_reducible apply p_fresh | with_reducible apply p_at | with_reducible apply p_ask | ((with_reducible apply p_allocFnG); (case L => assumption); intro _ _ _ _ _) | ((with_reducible apply p_allocG); (case L => assumption); (case e => (conv => lhs; reduce); try exact rfl); (case hf => exact rfl); intro _ _ _ _ _) | ((with_reducible apply p_updateFG); (case L => assumption); (case U => intro q'; (repeat (first | (apply SetAt.here; exact rfl) | apply SetAt.there))); (case e1 => first | assumption | exact rfl); (case e => (conv => lhs; reduce); try exact rfl); (case hf => exact rfl); intro _ _ _ _) | ((with_reducible apply p_updateG); (case L => assumption); (case U => intro q'; (repeat (first | (apply SetAt.here; exact rfl) | apply SetAt.there))); (case e1 => first | assumption | exact rfl); (case e => rfl); (case hf => rfl); intro _ _ _ _))) | (apply p_sbind) | (apply p_bind))
  all_goals exact q
theorem special4 (w : World) (A : Around) (hu : A.units < cLine) (h g d tk os) (KR : Old w h) (T : TD) (K : KD) (v : Value) (H : KOK w h T K v) (a b da : Addr) (x : Int) (t : Tok)
   (ha : h.get? a = some (oInst K.C da x t)) (Q : Option Value → Shared → Prop) (E : Value → Shared → Prop)
   (hc : wpAny (model PG w) A (PySem.call (.ref K.f4) [.ref a, .ref b]) (fun v => Q (some v)) E ⟨h, g, d, tk, os⟩) :
   wpAny (model PG w) A (callSpecialIfBound? (.ref a) (Str.ofString "__le__") [.ref b]) Q E ⟨h, g, d, tk, os⟩ := by
  have D := Lg.start h
  have h2 := KR.fr 2 _ rfl rfl rfl
  obtain ⟨hC, hmd, hba, hns, hcell, f0, f1, f2, f3, f4, f5⟩ := H
  rcases K with ⟨C, ns, md, ba, sl, sa, cell, g0, g1, g2, g3, g4, g5, ct1, ct2, ct3, ct4, ct5, tn, v1, tx, t0, t2, t3, t4, t5, t6, t7, t8, t9, t10, t11, v0, v2⟩
  dsimp only [oK, oMd, oNs, oInst] at hC hmd hba hns hcell ha hc
  replace f4 := f4 _ rfl
  dsimp only at f4
  refine WP.out ?_
  delta callSpecialIfBound?
  repeat (first | ((with_reducible apply p_nsLookB); (case B => assumption); (case e => first | exact bi_object | exact bi_bc)) | (first | (first | ((with_reducible apply p_execsH); intro QQ kQ) | ((with_reducible apply p_goS); (case H => assumption); clear kQ QQ) | ((with_reducible apply p_goR); (case H => assumption); clear kQ QQ)) | with_reducible apply p_sbind | with_reducible apply p_bind | with_reducible apply p_rule | with_reducible apply p_point | with_reducible apply p_pure | ((with_reducible apply p_load); (case ho => (first | assumption | exact Lg.base16 (by assumption) (by assumption) rfl | exact Lg.base16 (by assumption) ((by assumption : Old _ _).fr _ _ rfl rfl rfl) rfl | exact Lg.base0 (by assumption) (by assumption) | exact Lg.base0 (by assumption) ((by assumption : Old _ _).fr _ _ rfl rfl rfl) | exact Lg.hitE (by assumption) (by (repeat (first | exact List.Mem.head _ | refine List.Mem.tail _ ?_))) (by first | assumption | exact rfl))); (any_goals (try exact (Option.none : Option Value)))) | with_reducible apply p_freshK | with_reducible apply p_fresh | with_reducible apply p_at | with_reducible apply p_ask | ((with_reducible apply p_allocFnG); (case L => assumption); intro _ _ _ _ _) | ((with_reducible apply p_allocG); (case L => assumption); (case e => (conv => lhs; reduce); try exact rfl); (case hf => exact rfl); intro _ _ _ _ _) | ((with_reducible apply p_updateFG); (case L => assumption); (case U => intro q'; (repeat (first | (apply SetAt.here; exact rfl) | apply SetAt.there))); (case e1 => first | assumption | exact rfl); (case e => (conv => lhs; reduce); try exact rfl); (case hf => exact rfl); intro _ _ _ _) | ((with_reducible apply p_updateG); (case L => assumption); (case U => intro q'; (repeat (first | (apply SetAt.here; exact rfl) | apply SetAt.there))); (case e1 => first | assumption | exact rfl); (case e => rfl); (case hf => rfl); intro _ _ _ _)) | with_reducible apply p_holding | with_reducible apply p_try' | with_reducible apply p_try | with_reducible apply p_keep | with_reducible apply p_attempt | (first | with_reducible apply p_val c2 | with_reducible apply p_val c4 | with_reducible apply p_val c5 | with_reducible apply p_val c7 | with_reducible apply p_val c9 | with_reducible apply p_val l1 | with_reducible apply p_val l2 | with_reducible apply p_val l3 | with_reducible apply p_val l4 | with_reducible apply p_val l5 | with_reducible apply p_val sn_str | with_reducible apply p_val sn_int | with_reducible apply p_val sn_list | with_reducible apply p_val sn_function | with_reducible apply p_val sn_NoneType | with_reducible apply p_val sn_tuple | with_reducible apply p_val sn_mem | ((with_reducible apply p_enter); (case nl => exact noLimit (by (show Heap.get? _ _ = _); (first | assumption | exact Lg.base16 (by assumption) (by assumption) rfl | exact Lg.base16 (by assumption) ((by assumption : Old _ _).fr _ _ rfl rfl rfl) rfl | exact Lg.base0 (by assumption) (by assumption) | exact Lg.base0 (by assumption) ((by assumption : Old _ _).fr _ _ rfl rfl rfl) | exact Lg.hitE (by assumption) (by (repeat (first | exact List.Mem.head _ | refine List.Mem.tail _ ?_))) (by first | assumption | exact rfl)))); (case dp => first | exact Deep.lt (by assumption) | exact Deep2.lt (by assumption) (by first | exact Nat.le_add_right _ _ | (simp [Around.deeper, Around.mark]; try omega)))) | (with_reducible apply p_standAt) | ((with_reducible show WP _ _ (buildClass _ _ _ _ _ _ _ _ _ _ _) _ _ _); conv => arg 3; delta buildClass) | ((with_reducible show WP _ _ (List.mapM mkText (Scope.freeNames _)) _ _ _); first | refine' p_is (m' := List.mapM mkText []) (by kernel_rfl!) ?_ | refine' p_is (m' := List.mapM mkText [⟨#[109, 121, 99, 109, 112]⟩]) (by kernel_rfl!) ?_) | ((with_reducible show wpAny _ _ (runValue (Code.builtin "proto.collect" _)) _ _ _); refine' collect_ok ?S ?hSl ?_; (case S => assumption); (case hSl => (first | assumption | exact Lg.base16 (by assumption) (by assumption) rfl | exact Lg.base16 (by assumption) ((by assumption : Old _ _).fr _ _ rfl rfl rfl) rfl | exact Lg.base0 (by assumption) (by assumption) | exact Lg.base0 (by assumption) ((by assumption : Old _ _).fr _ _ rfl rfl rfl) | exact Lg.hitE (by assumption) (by (repeat (first | exact List.Mem.head _ | refine List.Mem.tail _ ?_))) (by first | assumption | exact rfl))); intro hC aC tkC kC nC eC; (have LC := Lg.add (by assumption) kC nC eC); clear kC nC eC) | ((with_reducible apply p_croom); (case hu => assumption))) | ((with_reducible apply p_slot); (case hi => kernel_rfl!)) | ((with_reducible apply p_iteB); (case hb => kernel_rfl!)) | ((with_reducible apply p_iteN); (case hb => kernel_rfl!)) | ((refine' p_see (Bx.mk ?_)); (first | (first | ((with_reducible apply p_execsH); intro QQ kQ) | ((with_reducible apply p_goS); (case H => assumption); clear kQ QQ) | ((with_reducible apply p_goR); (case H => assumption); clear kQ QQ)) | with_reducible apply p_sbind | with_reducible apply p_bind | with_reducible apply p_rule | with_reducible apply p_point | with_reducible apply p_pure | ((with_reducible apply p_load); (case ho => (first | assumption | exact Lg.base16 (by assumption) (by assumption) rfl | exact Lg.base16 (by assumption) ((by assumption : Old _ _).fr _ _ rfl rfl rfl) rfl | exact Lg.base0 (by assumption) (by assumption) | exact Lg.base0 (by assumption) ((by assumption : Old _ _).fr _ _ rfl rfl rfl) | exact Lg.hitE (by assumption) (by (repeat (first | exact List.Mem.head _ | refine List.Mem.tail _ ?_))) (by first | assumption | exact rfl))); (any_goals (try exact (Option.none : Option Value)))) | with_reducible apply p_freshK | with_reducible apply p_fresh | with_reducible apply p_at | with_reducible apply p_ask | ((with_reducible apply p_allocFnG); (case L => assumption); intro _ _ _ _ _) | ((with_reducible apply p_allocG); (case L => assumption); (case e => (conv => lhs; reduce); try exact rfl); (case hf => exact rfl); intro _ _ _ _ _) | ((with_reducible apply p_updateFG); (case L => assumption); (case U => intro q'; (repeat (first | (apply SetAt.here; exact rfl) | apply SetAt.there))); (case e1 => first | assumption | exact rfl); (case e => (conv => lhs; reduce); try exact rfl); (case hf => exact rfl); intro _ _ _ _) | ((with_reducible apply p_updateG); (case L => assumption); (case U => intro q'; (repeat (first | (apply SetAt.here; exact rfl) | apply SetAt.there))); (case e1 => first | assumption | exact rfl); (case e => rfl); (case hf => rfl); intro _ _ _ _))) | (apply p_sbind) | (apply p_bind))
  refine p_ite2 ?_ ?_
  all_goals repeat (first | ((with_reducible apply p_nsLookB); (case B => assumption); (case e => first | exact bi_object | exact bi_bc)) | (first | (first | ((with_reducible apply p_execsH); intro QQ kQ) | ((with_reducible apply p_goS); (case H => assumption); clear kQ QQ) | ((with_reducible apply p_goR); (case H => assumption); clear kQ QQ)) | with_reducible apply p_sbind | with_reducible apply p_bind | with_reducible apply p_rule | with_reducible apply p_point | with_reducible apply p_pure | ((with_reducible apply p_load); (case ho => (first | assumption | exact Lg.base16 (by assumption) (by assumption) rfl | exact Lg.base16 (by assumption) ((by assumption : Old _ _).fr _ _ rfl rfl rfl) rfl | exact Lg.base0 (by assumption) (by assumption) | exact Lg.base0 (by assumption) ((by assumption : Old _ _).fr _ _ rfl rfl rfl) | exact Lg.hitE (by assumption) (by (repeat (first | exact List.Mem.head _ | refine List.Mem.tail _ ?_))) (by first | assumption | exact rfl))); (any_goals (try exact (Option.none : Option Value)))) | with_reducible apply p_freshK | with_reducible apply p_fresh | with_reducible apply p_at | with_reducible apply p_ask | ((with_reducible apply p_allocFnG); (case L => assumption); intro _ _ _ _ _) | ((with_reducible apply p_allocG); (case L => assumption); (case e => (conv => lhs; reduce); try exact rfl); (case hf => exact rfl); intro _ _ _ _ _) | ((with_reducible apply p_updateFG); (case L => assumption); (case U => intro q'; (repeat (first | (apply SetAt.here; exact rfl) | apply SetAt.there))); (case e1 => first | assumption | exact rfl); (case e => (conv => lhs; reduce); try exact rfl); (case hf => exact rfl); intro _ _ _ _) | ((with_reducible apply p_updateG); (case L => assumption); (case U => intro q'; (repeat (first | (apply SetAt.here; exact rfl) | apply SetAt.there))); (case e1 => first | assumption | exact rfl); (case e => rfl); (case hf => rfl); intro _ _ _ _)) | with_reducible apply p_holding | with_reducible apply p_try' | with_reducible apply p_try | with_reducible apply p_keep | with_reducible apply p_attempt | (first | with_reducible apply p_val c2 | with_reducible apply p_val c4 | with_reducible apply p_val c5 | with_reducible apply p_val c7 | with_reducible apply p_val c9 | with_reducible apply p_val l1 | with_reducible apply p_val l2 | with_reducible apply p_val l3 | with_reducible apply p_val l4 | with_reducible apply p_val l5 | with_reducible apply p_val sn_str | with_reducible apply p_val sn_int | with_reducible apply p_val sn_list | with_reducible apply p_val sn_function | with_reducible apply p_val sn_NoneType | with_reducible apply p_val sn_tuple | with_reducible apply p_val sn_mem | ((with_reducible apply p_enter); (case nl => exact noLimit (by (show Heap.get? _ _ = _); (first | assumption | exact Lg.base16 (by assumption) (by assumption) rfl | exact Lg.base16 (by assumption) ((by assumption : Old _ _).fr _ _ rfl rfl rfl) rfl | exact Lg.base0 (by assumption) (by assumption) | exact Lg.base0 (by assumption) ((by assumption : Old _ _).fr _ _ rfl rfl rfl) | exact Lg.hitE (by assumption) (by (repeat (first | exact List.Mem.head _ | refine List.Mem.tail _ ?_))) (by first | assumption | exact rfl)))); (case dp => first | exact Deep.lt (by assumption) | exact Deep2.lt (by assumption) (by first | exact Nat.le_add_right _ _ | (simp [Around.deeper, Around.mark]; try omega)))) | (with_reducible apply p_standAt) | ((with_reducible show WP _ _ (buildClass _ _ _ _ _ _ _ _ _ _ _) _ _ _); conv => arg 3; delta buildClass) | ((with_reducible show WP _ _ (List.mapM mkText (Scope.freeNames _)) _ _ _); first | refine' p_is (m' := List.mapM mkText []) (by kernel_rfl!) ?_ | refine' p_is (m' := List.mapM mkText [⟨#[109, 121, 99, 109, 112]⟩]) (by kernel_rfl!) ?_) | ((with_reducible show wpAny _ _ (runValue (Code.builtin "proto.collect" _)) _ _ _); refine' collect_ok ?S ?hSl ?_; (case S => assumption); (case hSl => (first | assumption | exact Lg.base16 (by assumption) (by assumption) rfl | exact Lg.base16 (by assumption) ((by assumption : Old _ _).fr _ _ rfl rfl rfl) rfl | exact Lg.base0 (by assumption) (by assumption) | exact Lg.base0 (by assumption) ((by assumption : Old _ _).fr _ _ rfl rfl rfl) | exact Lg.hitE (by assumption) (by (repeat (first | exact List.Mem.head _ | refine List.Mem.tail _ ?_))) (by first | assumption | exact rfl))); intro hC aC tkC kC nC eC; (have LC := Lg.add (by assumption) kC nC eC); clear kC nC eC) | ((with_reducible apply p_croom); (case hu => assumption))) | ((with_reducible apply p_slot); (case hi => kernel_rfl!)) | ((with_reducible apply p_iteB); (case hb => kernel_rfl!)) | ((with_reducible apply p_iteN); (case hb => kernel_rfl!)) | ((refine' p_see (Bx.mk ?_)); (first | (first | ((with_reducible apply p_execsH); intro QQ kQ) | ((with_reducible apply p_goS); (case H => assumption); clear kQ QQ) | ((with_reducible apply p_goR); (case H => assumption); clear kQ QQ)) | with_reducible apply p_sbind | with_reducible apply p_bind | with_reducible apply p_rule | with_reducible apply p_point | with_reducible apply p_pure | ((with_reducible apply p_load); (case ho => (first | assumption | exact Lg.base16 (by assumption) (by assumption) rfl | exact Lg.base16 (by assumption) ((by assumption : Old _ _).fr _ _ rfl rfl rfl) rfl | exact Lg.base0 (by assumption) (by assumption) | exact Lg.base0 (by assumption) ((by assumption : Old _ _).fr _ _ rfl rfl rfl) | exact Lg.hitE (by assumption) (by (repeat (first | exact List.Mem.head _ | refine List.Mem.tail _ ?_))) (by first | assumption | exact rfl))); (any_goals (try exact (Option.none : Option Value)))) | with_reducible apply p_freshK | with_reducible apply p_fresh | with_reducible apply p_at | with_reducible apply p_ask | ((with_reducible apply p_allocFnG); (case L => assumption); intro _ _ _ _ _) | ((with_reducible apply p_allocG); (case L => assumption); (case e => (conv => lhs; reduce); try exact rfl); (case hf => exact rfl); intro _ _ _ _ _) | ((with_reducible apply p_updateFG); (case L => assumption); (case U => intro q'; (repeat (first | (apply SetAt.here; exact rfl) | apply SetAt.there))); (case e1 => first | assumption | exact rfl); (case e => (conv => lhs; reduce); try exact rfl); (case hf => exact rfl); intro _ _ _ _) | ((with_reducible apply p_updateG); (case L => assumption); (case U => intro q'; (repeat (first | (apply SetAt.here; exact rfl) | apply SetAt.there))); (case e1 => first | assumption | exact rfl); (case e => rfl); (case hf => rfl); intro _ _ _ _))) | (apply p_sbind) | (apply p_bind))
  all_goals refine' p_is (m' := run (.call (.ref g4) ⟨[.ref a, .ref b], []⟩)) (by kernel_rfl!) ?_
  all_goals refine WP.mk (run_of_call (wpAny_mono hc (fun v s' q => ?_) fun _ _ e => e))
  all_goals (repeat (first | ((with_reducible apply p_nsLookB); (case B => assumption); (case e => first | exact bi_object | exact bi_bc)) | (first | (first | ((with_reducible apply p_execsH); intro QQ kQ) | ((with_reducible apply p_goS); (case H => assumption); clear kQ QQ) | ((with_reducible apply p_goR); (case H => assumption); clear kQ QQ)) | with_reducible apply p_sbind | with_reducible apply p_bind | with_reducible apply p_rule | with_reducible apply p_point | with_reducible apply p_pure | ((with_reducible apply p_load); (case ho => (first | assumption | exact Lg.base16 (by assumption) (by assumption) rfl | exact Lg.base16 (by assumption) ((by assumption : Old _ _).fr _ _ rfl rfl rfl) rfl | exact Lg.base0 (by assumption) (by assumption) | exact Lg.base0 (by assumption) ((by assumption : Old _ _).fr _ _ rfl rfl rfl) | exact Lg.hitE (by assumption) (by (repeat (first | exact List.Mem.head _ | refine List.Mem.tail _ ?_))) (by first | assumption | exact rfl))); (any_goals (try exact (Option.none : Option Value)))) | with_reducible apply p_freshK | with_reducible apply p_fresh | with_reducible apply p_at | with_reducible apply p_ask | ((with_reducible apply p_allocFnG); (case L => assumption); intro _ _ _ _ _) | ((with_reducible apply p_allocG); (case L => assumption); (case e => (conv => lhs; reduce); try exact rfl); (case hf => exact rfl); intro _ _ _ _ _) | ((with_reducible apply p_updateFG); (case L => assumption); (case U => intro q'; (repeat (first | (apply SetAt.here; exact rfl) | apply SetAt.there))); (case e1 => first | assumption | exact rfl); (case e => (conv => lhs; reduce); try exact rfl); (case hf => exact rfl); intro _ _ _ _) | ((with_reducible apply p_updateG); (case L => assumption); (case U => intro q'; (repeat (first | (apply SetAt.here; exact rfl) | apply SetAt.there))); (case e1 => first | assumption | exact rfl); (case e => rfl); (case hf => rfl); intro _ _ _ _)) | with_reducible apply p_holding | with_reducible apply p_try' | with_reducible apply p_try | with_reducible apply p_keep | with_reducible apply p_attempt | (first | with_reducible apply p_val c2 | with_reducible apply p_val c4 | with_reducible apply p_val c5 | with_reducible apply p_val c7 | with_reducible apply p_val c9 | with_reducible apply p_val l1 | with_reducible apply p_val l2 | with_reducible apply p_val l3 | with_reducible apply p_val l4 | with_reducible apply p_val l5 | with_reducible apply p_val sn_str | with_reducible apply p_val sn_int | with_reducible apply p_val sn_list | with_reducible apply p_val sn_function | with_reducible apply p_val sn_NoneType | with_reducible apply p_val sn_tuple | with_reducible apply p_val sn_mem | ((with_reducible apply p_enter); (case nl => exact noLimit (by (show Heap.get? _ _ = _); (first | assumption | exact Lg.base16 (by assumption) (by assumption) rfl | exact Lg.base16 (by assumption) ((by assumption : Old _ _).fr _ _ rfl rfl rfl) rfl | exact Lg.base0 (by assumption) (by assumption) | exact Lg.base0 (by assumption) ((by assumption : Old _ _).fr _ _ rfl rfl rfl) | exact Lg.hitE (by assumption) (by (repeat (first | exact List.Mem.head _ | refine List.Mem.tail _ ?_))) (by first | assumption | exact rfl)))); (case dp => first | exact Deep.lt (by assumption) | exact Deep2.lt (by assumption) (by first | exact Nat.le_add_right _ _ | (simp [Around.deeper, Around.mark]; try omega)))) | (with_reducible apply p_standAt) | ((with_reducible show WP _ _ (buildClass _ _ _ _ _ _ _ _ _ _ _) _ _ _); conv => arg 3; delta buildClass) | ((with_reducible show WP _ _ (List.mapM mkText (Scope.freeNames _)) _ _ _); first | refine' p_is (m' := List.mapM mkText []) (by kernel_rfl!) ?_ | refine' p_is (m' := List.mapM mkText [⟨#[109, 121, 99, 109, 112]⟩]) (by kernel_rfl!) ?_) | ((with_reducible show wpAny _ _ (runValue (Code.builtin "proto.collect" _)) _ _ _); refine' collect_ok ?S ?hSl ?_; (case S => assumption); (case hSl => (first | assumption | exact Lg.base16 (by assumption) (by assumption) rfl | exact Lg.base16 (by assumption) ((by assumption : Old _ _).fr _ _ rfl rfl rfl) rfl | exact Lg.base0 (by assumption) (by assumption) | exact Lg.base0 (by assumption) ((by assumption : Old _ _).fr _ _ rfl rfl rfl) | exact Lg.hitE (by assumption) (by (repeat (first | exact List.Mem.head _ | refine List.Mem.tail _ ?_))) (by first | assumption | exact rfl))); intro hC aC tkC kC nC eC; (have LC := Lg.add (by assumption) kC nC eC); clear kC nC eC) | ((with_reducible apply p_croom); (case hu => assumption))) | ((with_reducible apply p_slot); (case hi => kernel_rfl!)) | ((with_reducible apply p_iteB); (case hb => kernel_rfl!)) | ((with_reducible apply p_iteN); (case hb => kernel_rfl!)) | ((refine' p_see (Bx.mk ?_)); (first | (first | ((with_reducible apply p_execsH); intro QQ kQ) | ((with_reducible apply p_goS); (case H => assumption); clear kQ QQ) | ((with_reducible apply p_goR); (case H => assumption); clear kQ QQ)) | with_reducible apply p_sbind | with_reducible apply p_bind | with_reducible apply p_rule | with_reducible apply p_point | with_reducible apply p_pure | ((with_reducible apply p_load); (case ho => (first | assumption | exact Lg.base16 (by assumption) (by assumption) rfl | exact Lg.base16 (by assumption) ((by assumption : Old _ _).fr _ _ rfl rfl rfl) rfl | exact Lg.base0 (by assumption) (by assumption) | exact Lg.base0 (by assumption) ((by assumption : Old _ _).fr _ _ rfl rfl rfl) | exact Lg.hitE (by assumption) (by (repeat (first | exact List.Mem.head _ | refine List.Mem.tail _ ?_))) (by first | assumption | exact rfl))); (any_goals (try exact (Option.none : Option Value)))) | with_reducible apply p_freshK | with_reducible apply p_fresh | with_reducible apply p_at | with_reducible apply p_ask | ((with_reducible apply p_allocFnG); (case L => assumption); intro _ _ _ _ _) | ((with_reducible apply p_allocG); (case L => assumption); (case e => (conv => lhs; reduce); try exact rfl); (case hf => exact rfl); intro _ _ _ _ _) | ((with_reducible apply p_updateFG); (case L => assumption); (case U => intro q'; (repeat (first | (apply SetAt.here; exact rfl) | apply SetAt.there))); (case e1 => first | assumption | exact rfl); (case e => (conv => lhs; reduce); try exact rfl); (case hf => exact rfl); intro _ _ _ _) | ((with_reducible apply p_updateG); (case L => assumption); (case U => intro q'; (repeat (first | (apply SetAt.here; exact rfl) | apply SetAt.there))); (case e1 => first | assumption | exact rfl); (case e => rfl); (case hf => rfl); intro _ _ _ _))) | (apply p_sbind) | (apply p_bind)))
  all_goals exact q
theorem rich4 (w : World) (A : Around) (hu : A.units < cLine) (h g d tk os) (KR : Old w h) (T : TD) (K : KD) (v : Value) (H : KOK w h T K v) (a b da db : Addr) (x y : Int) (t u : Tok)
   (ha : h.get? a = some (oInst K.C da x t)) (hb : h.get? b = some (oInst K.C db y u)) (Q : Value → Shared → Prop) (E : Value → Shared → Prop)
   (hc : wpAny (model PG w) A (PySem.call (.ref K.f4) [.ref a, .ref b]) (fun v s' => ∃ r, v = .bool r ∧ Q (.bool r) s') E ⟨h, g, d, tk, os⟩) :
   wpAny (model PG w) A (richCompare .LtE (.ref a) (.ref b)) Q E ⟨h, g, d, tk, os⟩ := by
  have D := Lg.start h
  have ha' := ha
  have hb' := hb
  dsimp only [oInst] at ha' hb'
  refine WP.out ?_
  delta richCompare
  repeat (first | ((with_reducible apply p_nsLookB); (case B => assumption); (case e => first | exact bi_object | exact bi_bc)) | (first | (first | ((with_reducible apply p_execsH); intro QQ kQ) | ((with_reducible apply p_goS); (case H => assumption); clear kQ QQ) | ((with_reducible apply p_goR); (case H => assumption); clear kQ QQ)) | with_reducible apply p_sbind | with_reducible apply p_bind | with_reducible apply p_rule | with_reducible apply p_point | with_reducible apply p_pure | ((with_reducible apply p_load); (case ho => (first | assumption | exact Lg.base16 (by assumption) (by assumption) rfl | exact Lg.base16 (by assumption) ((by assumption : Old _ _).fr _ _ rfl rfl rfl) rfl | exact Lg.base0 (by assumption) (by assumption) | exact Lg.base0 (by assumption) ((by assumption : Old _ _).fr _ _ rfl rfl rfl) | exact Lg.hitE (by assumption) (by (repeat (first | exact List.Mem.head _ | refine List.Mem.tail _ ?_))) (by first | assumption | exact rfl))); (any_goals (try exact (Option.none : Option Value)))) | with_reducible apply p_freshK | with_reducible apply p_fresh | with_reducible apply p_at | with_reducible apply p_ask | ((with_reducible apply p_allocFnG); (case L => assumption); intro _ _ _ _ _) | ((with_reducible apply p_allocG); (case L => assumption); (case e => (conv => lhs; reduce); try exact rfl); (case hf => exact rfl); intro _ _ _ _ _) | ((with_reducible apply p_updateFG); (case L => assumption); (case U => intro q'; (repeat (first | (apply SetAt.here; exact rfl) | apply SetAt.there))); (case e1 => first | assumption | exact rfl); (case e => (conv => lhs; reduce); try exact rfl); (case hf => exact rfl); intro _ _ _ _) | ((with_reducible apply p_updateG); (case L => assumption); (case U => intro q'; (repeat (first | (apply SetAt.here; exact rfl) | apply SetAt.there))); (case e1 => first | assumption | exact rfl); (case e => rfl); (case hf => rfl); intro _ _ _ _)) | with_reducible apply p_holding | with_reducible apply p_try' | with_reducible apply p_try | with_reducible apply p_keep | with_reducible apply p_attempt | (first | with_reducible apply p_val c2 | with_reducible apply p_val c4 | with_reducible apply p_val c5 | with_reducible apply p_val c7 | with_reducible apply p_val c9 | with_reducible apply p_val l1 | with_reducible apply p_val l2 | with_reducible apply p_val l3 | with_reducible apply p_val l4 | with_reducible apply p_val l5 | with_reducible apply p_val sn_str | with_reducible apply p_val sn_int | with_reducible apply p_val sn_list | with_reducible apply p_val sn_function | with_reducible apply p_val sn_NoneType | with_reducible apply p_val sn_tuple | with_reducible apply p_val sn_mem | ((with_reducible apply p_enter); (case nl => exact noLimit (by (show Heap.get? _ _ = _); (first | assumption | exact Lg.base16 (by assumption) (by assumption) rfl | exact Lg.base16 (by assumption) ((by assumption : Old _ _).fr _ _ rfl rfl rfl) rfl | exact Lg.base0 (by assumption) (by assumption) | exact Lg.base0 (by assumption) ((by assumption : Old _ _).fr _ _ rfl rfl rfl) | exact Lg.hitE (by assumption) (by (repeat (first | exact List.Mem.head _ | refine List.Mem.tail _ ?_))) (by first | assumption | exact rfl)))); (case dp => first | exact Deep.lt (by assumption) | exact Deep2.lt (by assumption) (by first | exact Nat.le_add_right _ _ | (simp [Around.deeper, Around.mark]; try omega)))) | (with_reducible apply p_standAt) | ((with_reducible show WP _ _ (buildClass _ _ _ _ _ _ _ _ _ _ _) _ _ _); conv => arg 3; delta buildClass) | ((with_reducible show WP _ _ (List.mapM mkText (Scope.freeNames _)) _ _ _); first | refine' p_is (m' := List.mapM mkText []) (by kernel_rfl!) ?_ | refine' p_is (m' := List.mapM mkText [⟨#[109, 121, 99, 109, 112]⟩]) (by kernel_rfl!) ?_) | ((with_reducible show wpAny _ _ (runValue (Code.builtin "proto.collect" _)) _ _ _); refine' collect_ok ?S ?hSl ?_; (case S => assumption); (case hSl => (first | assumption | exact Lg.base16 (by assumption) (by assumption) rfl | exact Lg.base16 (by assumption) ((by assumption : Old _ _).fr _ _ rfl rfl rfl) rfl | exact Lg.base0 (by assumption) (by assumption) | exact Lg.base0 (by assumption) ((by assumption : Old _ _).fr _ _ rfl rfl rfl) | exact Lg.hitE (by assumption) (by (repeat (first | exact List.Mem.head _ | refine List.Mem.tail _ ?_))) (by first | assumption | exact rfl))); intro hC aC tkC kC nC eC; (have LC := Lg.add (by assumption) kC nC eC); clear kC nC eC) | ((with_reducible apply p_croom); (case hu => assumption))) | ((with_reducible apply p_slot); (case hi => kernel_rfl!)) | ((with_reducible apply p_iteB); (case hb => kernel_rfl!)) | ((with_reducible apply p_iteN); (case hb => kernel_rfl!)) | ((refine' p_see (Bx.mk ?_)); (first | (first | ((with_reducible apply p_execsH); intro QQ kQ) | ((with_reducible apply p_goS); (case H => assumption); clear kQ QQ) | ((with_reducible apply p_goR); (case H => assumption); clear kQ QQ)) | with_reducible apply p_sbind | with_reducible apply p_bind | with_reducible apply p_rule | with_reducible apply p_point | with_reducible apply p_pure | ((with_reducible apply p_load); (case ho => (first | assumption | exact Lg.base16 (by assumption) (by assumption) rfl | exact Lg.base16 (by assumption) ((by assumption : Old _ _).fr _ _ rfl rfl rfl) rfl | exact Lg.base0 (by assumption) (by assumption) | exact Lg.base0 (by assumption) ((by assumption : Old _ _).fr _ _ rfl rfl rfl) | exact Lg.hitE (by assumption) (by (repeat (first | exact List.Mem.head _ | refine List.Mem.tail _ ?_))) (by first | assumption | exact rfl))); (any_goals (try exact (Option.none : Option Value)))) | with_reducible apply p_freshK | with_reducible apply p_fresh | with_reducible apply p_at | with_reducible apply p_ask | ((with_reducible apply p_allocFnG); (case L => assumption); intro _ _ _ _ _) | ((with_reducible apply p_allocG); (case L => assumption); (case e => (conv => lhs; reduce); try exact rfl); (case hf => exact rfl); intro _ _ _ _ _) | ((with_reducible apply p_updateFG); (case L => assumption); (case U => intro q'; (repeat (first | (apply SetAt.here; exact rfl) | apply SetAt.there))); (case e1 => first | assumption | exact rfl); (case e => (conv => lhs; reduce); try exact rfl); (case hf => exact rfl); intro _ _ _ _) | ((with_reducible apply p_updateG); (case L => assumption); (case U => intro q'; (repeat (first | (apply SetAt.here; exact rfl) | apply SetAt.there))); (case e1 => first | assumption | exact rfl); (case e => rfl); (case hf => rfl); intro _ _ _ _))) | (apply p_sbind) | (apply p_bind))
  refine WP.id' ?_
  conv => arg 3; simp only [bne_self_eq_false, Bool.false_eq_true, if_false]
  refine p_bind ?_
  refine p_pure ?_
  refine WP.id' ?_
  simp only [Bool.false_eq_true, if_false]
  refine p_bind ?_
  delta tryCompare
  refine p_bind ?_
  refine WP.mk (special4 w A hu h g d tk os KR T K v H a b da x t ha _ _ (wpAny_mono hc (fun v s' q => ?_) fun _ _ e => e))
  obtain ⟨r, rfl, q⟩ := q
  repeat (first | ((with_reducible apply p_nsLookB); (case B => assumption); (case e => first | exact bi_object | exact bi_bc)) | (first | (first | ((with_reducible apply p_execsH); intro QQ kQ) | ((with_reducible apply p_goS); (case H => assumption); clear kQ QQ) | ((with_reducible apply p_goR); (case H => assumption); clear kQ QQ)) | with_reducible apply p_sbind | with_reducible apply p_bind | with_reducible apply p_rule | with_reducible apply p_point | with_reducible apply p_pure | ((with_reducible apply p_load); (case ho => (first | assumption | exact Lg.base16 (by assumption) (by assumption) rfl | exact Lg.base16 (by assumption) ((by assumption : Old _ _).fr _ _ rfl rfl rfl) rfl | exact Lg.base0 (by assumption) (by assumption) | exact Lg.base0 (by assumption) ((by assumption : Old _ _).fr _ _ rfl rfl rfl) | exact Lg.hitE (by assumption) (by (repeat (first | exact List.Mem.head _ | refine List.Mem.tail _ ?_))) (by first | assumption | exact rfl))); (any_goals (try exact (Option.none : Option Value)))) | with_reducible apply p_freshK | with_reducible apply p_fresh | with_reducible apply p_at | with_reducible apply p_ask | ((with_reducible apply p_allocFnG); (case L => assumption); intro _ _ _ _ _) | ((with_reducible apply p_allocG); (case L => assumption); (case e => (conv => lhs; reduce); try exact rfl); (case hf => exact rfl); intro _ _ _ _ _) | ((with_reducible apply p_updateFG); (case L => assumption); (case U => intro q'; (repeat (first | (apply SetAt.here; exact rfl) | apply SetAt.there))); (case e1 => first | assumption | exact rfl); (case e => (conv => lhs; reduce); try exact rfl); (case hf => exact rfl); intro _ _ _ _) | ((with_reducible apply p_updateG); (case L => assumption); (case U => intro q'; (repeat (first | (apply SetAt.here; exact rfl) | apply SetAt.there))); (case e1 => first | assumption | exact rfl); (case e => rfl); (case hf => rfl); intro _ _ _ _)) | with_reducible apply p_holding | with_reducible apply p_try' | with_reducible apply p_try | with_reducible apply p_keep | with_reducible apply p_attempt | (first | with_reducible apply p_val c2 | with_reducible apply p_val c4 | with_reducible apply p_val c5 | with_reducible apply p_val c7 | with_reducible apply p_val c9 | with_reducible apply p_val l1 | with_reducible apply p_val l2 | with_reducible apply p_val l3 | with_reducible apply p_val l4 | with_reducible apply p_val l5 | with_reducible apply p_val sn_str | with_reducible apply p_val sn_int | with_reducible apply p_val sn_list | with_reducible apply p_val sn_function | with_reducible apply p_val sn_NoneType | with_reducible apply p_val sn_tuple | with_reducible apply p_val sn_mem | ((with_reducible apply p_enter); (case nl => exact noLimit (by (show Heap.get? _ _ = _); (first | assumption | exact Lg.base16 (by assumption) (by assumption) rfl | exact Lg.base16 (by assumption) ((by assumption : Old _ _).fr _ _ rfl rfl rfl) rfl | exact Lg.base0 (by assumption) (by assumption) | exact Lg.base0 (by assumption) ((by assumption : Old _ _).fr _ _ rfl rfl rfl) | exact Lg.hitE (by assumption) (by (repeat (first | exact List.Mem.head _ | refine List.Mem.tail _ ?_))) (by first | assumption | exact rfl)))); (case dp => first | exact Deep.lt (by assumption) | exact Deep2.lt (by assumption) (by first | exact Nat.le_add_right _ _ | (simp [Around.deeper, Around.mark]; try omega)))) | (with_reducible apply p_standAt) | ((with_reducible show WP _ _ (buildClass _ _ _ _ _ _ _ _ _ _ _) _ _ _); conv => arg 3; delta buildClass) | ((with_reducible show WP _ _ (List.mapM mkText (Scope.freeNames _)) _ _ _); first | refine' p_is (m' := List.mapM mkText []) (by kernel_rfl!) ?_ | refine' p_is (m' := List.mapM mkText [⟨#[109, 121, 99, 109, 112]⟩]) (by kernel_rfl!) ?_) | ((with_reducible show wpAny _ _ (runValue (Code.builtin "proto.collect" _)) _ _ _); refine' collect_ok ?S ?hSl ?_; (case S => assumption); (case hSl => (first | assumption | exact Lg.base16 (by assumption) (by assumption) rfl | exact Lg.base16 (by assumption) ((by assumption : Old _ _).fr _ _ rfl rfl rfl) rfl | exact Lg.base0 (by assumption) (by assumption) | exact Lg.base0 (by assumption) ((by assumption : Old _ _).fr _ _ rfl rfl rfl) | exact Lg.hitE (by assumption) (by (repeat (first | exact List.Mem.head _ | refine List.Mem.tail _ ?_))) (by first | assumption | exact rfl))); intro hC aC tkC kC nC eC; (have LC := Lg.add (by assumption) kC nC eC); clear kC nC eC) | ((with_reducible apply p_croom); (case hu => assumption))) | ((with_reducible apply p_slot); (case hi => kernel_rfl!)) | ((with_reducible apply p_iteB); (case hb => kernel_rfl!)) | ((with_reducible apply p_iteN); (case hb => kernel_rfl!)) | ((refine' p_see (Bx.mk ?_)); (first | (first | ((with_reducible apply p_execsH); intro QQ kQ) | ((with_reducible apply p_goS); (case H => assumption); clear kQ QQ) | ((with_reducible apply p_goR); (case H => assumption); clear kQ QQ)) | with_reducible apply p_sbind | with_reducible apply p_bind | with_reducible apply p_rule | with_reducible apply p_point | with_reducible apply p_pure | ((with_reducible apply p_load); (case ho => (first | assumption | exact Lg.base16 (by assumption) (by assumption) rfl | exact Lg.base16 (by assumption) ((by assumption : Old _ _).fr _ _ rfl rfl rfl) rfl | exact Lg.base0 (by assumption) (by assumption) | exact Lg.base0 (by assumption) ((by assumption : Old _ _).fr _ _ rfl rfl rfl) | exact Lg.hitE (by assumption) (by (repeat (first | exact List.Mem.head _ | refine List.Mem.tail _ ?_))) (by first | assumption | exact rfl))); (any_goals (try exact (Option.none : Option Value)))) | with_reducible apply p_freshK | with_reducible apply p_fresh | with_reducible apply p_at | with_reducible apply p_ask | ((with_reducible apply p_allocFnG); (case L => assumption); intro _ _ _ _ _) | ((with_reducible apply p_allocG); (case L => assumption); (case e => (conv => lhs; reduce); try exact rfl); (case hf => exact rfl); intro _ _ _ _ _) | ((with_reducible apply p_updateFG); (case L => assumption); (case U => intro q'; (repeat (first | (apply SetAt.here; exact rfl) | apply SetAt.there))); (case e1 => first | assumption | exact rfl); (case e => (conv => lhs; reduce); try exact rfl); (case hf => exact rfl); intro _ _ _ _) | ((with_reducible apply p_updateG); (case L => assumption); (case U => intro q'; (repeat (first | (apply SetAt.here; exact rfl) | apply SetAt.there))); (case e1 => first | assumption | exact rfl); (case e => rfl); (case hf => rfl); intro _ _ _ _))) | (apply p_sbind) | (apply p_bind))
  all_goals exact q
theorem special5 (w : World) (A : Around) (hu : A.units < cLine) (h g d tk os) (KR : Old w h) (T : TD) (K : KD) (v : Value) (H : KOK w h T K v) (a b da : Addr) (x : Int) (t : Tok)
   (ha : h.get? a = some (oInst K.C da x t)) (Q : Option Value → Shared → Prop) (E : Value → Shared → Prop)
   (hc : wpAny (model PG w) A (PySem.call (.ref K.f5) [.ref a, .ref b]) (fun v => Q (some v)) E ⟨h, g, d, tk, os⟩) :
   wpAny (model PG w) A (callSpecialIfBound? (.ref a) (Str.ofString "__ge__") [.ref b]) Q E ⟨h, g, d, tk, os⟩ := by
  have D := Lg.start h
  have h2 := KR.fr 2 _ rfl rfl rfl
  obtain ⟨hC, hmd, hba, hns, hcell, f0, f1, f2, f3, f4, f5⟩ := H
  rcases K with ⟨C, ns, md, ba, sl, sa, cell, g0, g1, g2, g3, g4, g5, ct1, ct2, ct3, ct4, ct5, tn, v1, tx, t0, t2, t3, t4, t5, t6, t7, t8, t9, t10, t11, v0, v2⟩
  dsimp only [oK, oMd, oNs, oInst] at hC hmd hba hns hcell ha hc
  replace f5 := f5 _ rfl
  dsimp only at f5
  refine WP.out ?_
  delta callSpecialIfBound?
  repeat (first | ((with_reducible apply p_nsLookB); (case B => assumption); (case e => first | exact bi_object | exact bi_bc)) | (first | (first | ((with_reducible apply p_execsH); intro QQ kQ) | ((with_reducible apply p_goS); (case H => assumption); clear kQ QQ) | ((with_reducible apply p_goR); (case H => assumption); clear kQ QQ)) | with_reducible apply p_sbind | with_reducible apply p_bind | with_reducible apply p_rule | with_reducible apply p_point | with_reducible apply p_pure | ((with_reducible apply p_load); (case ho => (first | assumption | exact Lg.base16 (by assumption) (by assumption) rfl | exact Lg.base16 (by assumption) ((by assumption : Old _ _).fr _ _ rfl rfl rfl) rfl | exact Lg.base0 (by assumption) (by assumption) | exact Lg.base0 (by assumption) ((by assumption : Old _ _).fr _ _ rfl rfl rfl) | exact Lg.hitE (by assumption) (by (repeat (first | exact List.Mem.head _ | refine List.Mem.tail _ ?_))) (by first | assumption | exact rfl))); (any_goals (try exact (Option.none : Option Value)))) | with_reducible apply p_freshK | with_reducible apply p_fresh | with_reducible apply p_at | with_reducible apply p_ask | ((with_reducible apply p_allocFnG); (case L => assumption); intro _ _ _ _ _) | ((with_reducible apply p_allocG); (case L => assumption); (case e => (conv => lhs; reduce); try exact rfl); (case hf => exact rfl); intro _ _ _ _ _) | ((with_reducible apply p_updateFG); (case L => assumption); (case U => intro q'; (repeat (first | (apply SetAt.here; exact rfl) | apply SetAt.there))); (case e1 => first | assumption | exact rfl); (case e => (conv => lhs; reduce); try exact rfl); (case hf => exact rfl); intro _ _ _ _) | ((with_reducible apply p_updateG); (case L => assumption); (case U => intro q'; (repeat (first | (apply SetAt.here; exact rfl) | apply SetAt.there))); (case e1 => first | assumption | exact rfl); (case e => rfl); (case hf => rfl); intro _ _ _ _)) | with_reducible apply p_holding | with_reducible apply p_try' | with_reducible apply p_try | with_reducible apply p_keep | with_reducible apply p_attempt | (first | with_reducible apply p_val c2 | with_reducible apply p_val c4 | with_reducible apply p_val c5 | with_reducible apply p_val c7 | with_reducible apply p_val c9 | with_reducible apply p_val l1 | with_reducible apply p_val l2 | with_reducible apply p_val l3 | with_reducible apply p_val l4 | with_reducible apply p_val l5 | with_reducible apply p_val sn_str | with_reducible apply p_val sn_int | with_reducible apply p_val sn_list | with_reducible apply p_val sn_function | with_reducible apply p_val sn_NoneType | with_reducible apply p_val sn_tuple | with_reducible apply p_val sn_mem | ((with_reducible apply p_enter); (case nl => exact noLimit (by (show Heap.get? _ _ = _); (first | assumption | exact Lg.base16 (by assumption) (by assumption) rfl | exact Lg.base16 (by assumption) ((by assumption : Old _ _).fr _ _ rfl rfl rfl) rfl | exact Lg.base0 (by assumption) (by assumption) | exact Lg.base0 (by assumption) ((by assumption : Old _ _).fr _ _ rfl rfl rfl) | exact Lg.hitE (by assumption) (by (repeat (first | exact List.Mem.head _ | refine List.Mem.tail _ ?_))) (by first | assumption | exact rfl)))); (case dp => first | exact Deep.lt (by assumption) | exact Deep2.lt (by assumption) (by first | exact Nat.le_add_right _ _ | (simp [Around.deeper, Around.mark]; try omega)))) | (with_reducible apply p_standAt) | ((with_reducible show WP _ _ (buildClass _ _ _ _ _ _ _ _ _ _ _) _ _ _); conv => arg 3; delta buildClass) | ((with_reducible show WP _ _ (List.mapM mkText (Scope.freeNames _)) _ _ _); first | refine' p_is (m' := List.mapM mkText []) (by kernel_rfl!) ?_ | refine' p_is (m' := List.mapM mkText [⟨#[109, 121, 99, 109, 112]⟩]) (by kernel_rfl!) ?_) | ((with_reducible show wpAny _ _ (runValue (Code.builtin "proto.collect" _)) _ _ _); refine' collect_ok ?S ?hSl ?_; (case S => assumption); (case hSl => (first | assumption | exact Lg.base16 (by assumption) (by assumption) rfl | exact Lg.base16 (by assumption) ((by assumption : Old _ _).fr _ _ rfl rfl rfl) rfl | exact Lg.base0 (by assumption) (by assumption) | exact Lg.base0 (by assumption) ((by assumption : Old _ _).fr _ _ rfl rfl rfl) | exact Lg.hitE (by assumption) (by (repeat (first | exact List.Mem.head _ | refine List.Mem.tail _ ?_))) (by first | assumption | exact rfl))); intro hC aC tkC kC nC eC; (have LC := Lg.add (by assumption) kC nC eC); clear kC nC eC) | ((with_reducible apply p_croom); (case hu => assumption))) | ((with_reducible apply p_slot); (case hi => kernel_rfl!)) | ((with_reducible apply p_iteB); (case hb => kernel_rfl!)) | ((with_reducible apply p_iteN); (case hb => kernel_rfl!)) | ((refine' p_see (Bx.mk ?_)); (first | (first | ((with_reducible apply p_execsH); intro QQ kQ) | ((with_reducible apply p_goS); (case H => assumption); clear kQ QQ) | ((with_reducible apply p_goR); (case H => assumption); clear kQ QQ)) | with_reducible apply p_sbind | with_reducible apply p_bind | with_reducible apply p_rule | with_reducible apply p_point | with_reducible apply p_pure | ((with_reducible apply p_load); (case ho => (first | assumption | exact Lg.base16 (by assumption) (by assumption) rfl | exact Lg.base16 (by assumption) ((by assumption : Old _ _).fr _ _ rfl rfl rfl) rfl | exact Lg.base0 (by assumption) (by assumption) | exact Lg.base0 (by assumption) ((by assumption : Old _ _).fr _ _ rfl rfl rfl) | exact Lg.hitE (by assumption) (by (repeat (first | exact List.Mem.head _ | refine List.Mem.tail _ ?_))) (by first | assumption | exact rfl))); (any_goals (try exact (Option.none : Option Value)))) | with_reducible apply p_freshK | with_reducible apply p_fresh | with_reducible apply p_at | with_reducible apply p_ask | ((with_reducible apply p_allocFnG); (case L => assumption); intro _ _ _ _ _) | ((with_reducible apply p_allocG); (case L => assumption); (case e => (conv => lhs; reduce); try exact rfl); (case hf => exact rfl); intro _ _ _ _ _) | ((with_reducible apply p_updateFG); (case L => assumption); (case U => intro q'; (repeat (first | (apply SetAt.here; exact rfl) | apply SetAt.there))); (case e1 => first | assumption | exact rfl); (case e => (conv => lhs; reduce); try exact rfl); (case hf => exact rfl); intro _ _ _ _) | ((with_reducible apply p_updateG); (case L => assumption); (case U => intro q'; (repeat (first | (apply SetAt.here; exact rfl) | apply SetAt.there))); (case e1 => first | assumption | exact rfl); (case e => rfl); (case hf => rfl); intro _ _ _ _))) | (apply p_sbind) | (apply p_bind))
  refine p_ite2 ?_ ?_
  all_goals repeat (first | ((with_reducible apply p_nsLookB); (case B => assumption); (case e => first | exact bi_object | exact bi_bc)) | (first | (first | ((with_reducible apply p_execsH); intro QQ kQ) | ((with_reducible apply p_goS); (case H => assumption); clear kQ QQ) | ((with_reducible apply p_goR); (case H => assumption); clear kQ QQ)) | with_reducible apply p_sbind | with_reducible apply p_bind | with_reducible apply p_rule | with_reducible apply p_point | with_reducible apply p_pure | ((with_reducible apply p_load); (case ho => (first | assumption | exact Lg.base16 (by assumption) (by assumption) rfl | exact Lg.base16 (by assumption) ((by assumption : Old _ _).fr _ _ rfl rfl rfl) rfl | exact Lg.base0 (by assumption) (by assumption) | exact Lg.base0 (by assumption) ((by assumption : Old _ _).fr _ _ rfl rfl rfl) | exact Lg.hitE (by assumption) (by (repeat (first | exact List.Mem.head _ | refine List.Mem.tail _ ?_))) (by first | assumption | exact rfl))); (any_goals (try exact (Option.none : Option Value)))) | with_reducible apply p_freshK | with_reducible apply p_fresh | with_reducible apply p_at | with_reducible apply p_ask | ((with_reducible apply p_allocFnG); (case L => assumption); intro _ _ _ _ _) | ((with_reducible apply p_allocG); (case L => assumption); (case e => (conv => lhs; reduce); try exact rfl); (case hf => exact rfl); intro _ _ _ _ _) | ((with_reducible apply p_updateFG); (case L => assumption); (case U => intro q'; (repeat (first | (apply SetAt.here; exact rfl) | apply SetAt.there))); (case e1 => first | assumption | exact rfl); (case e => (conv => lhs; reduce); try exact rfl); (case hf => exact rfl); intro _ _ _ _) | ((with_reducible apply p_updateG); (case L => assumption); (case U => intro q'; (repeat (first | (apply SetAt.here; exact rfl) | apply SetAt.there))); (case e1 => first | assumption | exact rfl); (case e => rfl); (case hf => rfl); intro _ _ _ _)) | with_reducible apply p_holding | with_reducible apply p_try' | with_reducible apply p_try | with_reducible apply p_keep | with_reducible apply p_attempt | (first | with_reducible apply p_val c2 | with_reducible apply p_val c4 | with_reducible apply p_val c5 | with_reducible apply p_val c7 | with_reducible apply p_val c9 | with_reducible apply p_val l1 | with_reducible apply p_val l2 | with_reducible apply p_val l3 | with_reducible apply p_val l4 | with_reducible apply p_val l5 | with_reducible apply p_val sn_str | with_reducible apply p_val sn_int | with_reducible apply p_val sn_list | with_reducible apply p_val sn_function | with_reducible apply p_val sn_NoneType | with_reducible apply p_val sn_tuple | with_reducible apply p_val sn_mem | ((with_reducible apply p_enter); (case nl => exact noLimit (by (show Heap.get? _ _ = _); (first | assumption | exact Lg.base16 (by assumption) (by assumption) rfl | exact Lg.base16 (by assumption) ((by assumption : Old _ _).fr _ _ rfl rfl rfl) rfl | exact Lg.base0 (by assumption) (by assumption) | exact Lg.base0 (by assumption) ((by assumption : Old _ _).fr _ _ rfl rfl rfl) | exact Lg.hitE (by assumption) (by (repeat (first | exact List.Mem.head _ | refine List.Mem.tail _ ?_))) (by first | assumption | exact rfl)))); (case dp => first | exact Deep.lt (by assumption) | exact Deep2.lt (by assumption) (by first | exact Nat.le_add_right _ _ | (simp [Around.deeper, Around.mark]; try omega)))) | (with_reducible apply p_standAt) | ((with_reducible show WP _ _ (buildClass _ _ _ _ _ _ _ _ _ _ _) _ _ _); conv => arg 3; delta buildClass) | ((with_reducible show WP _ _ (List.mapM mkText (Scope.freeNames _)) _ _ _); first | refine' p_is (m' := List.mapM mkText []) (by kernel_rfl!) ?_ | refine' p_is (m' := List.mapM mkText [⟨#[109, 121, 99, 109, 112]⟩]) (by kernel_rfl!) ?_) | ((with_reducible show wpAny _ _ (runValue (Code.builtin "proto.collect" _)) _ _ _); refine' collect_ok ?S ?hSl ?_; (case S => assumption); (case hSl => (first | assumption | exact Lg.base16 (by assumption) (by assumption) rfl | exact Lg.base16 (by assumption) ((by assumption : Old _ _).fr _ _ rfl rfl rfl) rfl | exact Lg.base0 (by assumption) (by assumption) | exact Lg.base0 (by assumption) ((by assumption : Old _ _).fr _ _ rfl rfl rfl) | exact Lg.hitE (by assumption) (by (repeat (first | exact List.Mem.head _ | refine List.Mem.tail _ ?_))) (by first | assumption | exact rfl))); intro hC aC tkC kC nC eC; (have LC := Lg.add (by assumption) kC nC eC); clear kC nC eC) | ((with_reducible apply p_croom); (case hu => assumption))) | ((with_reducible apply p_slot); (case hi => kernel_rfl!)) | ((with_reducible apply p_iteB); (case hb => kernel_rfl!)) | ((with_reducible apply p_iteN); (case hb => kernel_rfl!)) | ((refine' p_see (Bx.mk ?_)); (first | (first | ((with_reducible apply p_execsH); intro QQ kQ) | ((with_reducible apply p_goS); (case H => assumption); clear kQ QQ) | ((with_reducible apply p_goR); (case H => assumption); clear kQ QQ)) | with_reducible apply p_sbind | with_reducible apply p_bind | with_reducible apply p_rule | with_reducible apply p_point | with_reducible apply p_pure | ((with_reducible apply p_load); (case ho => (first | assumption | exact Lg.base16 (by assumption) (by assumption) rfl | exact Lg.base16 (by assumption) ((by assumption : Old _ _).fr _ _ rfl rfl rfl) rfl | exact Lg.base0 (by assumption) (by assumption) | exact Lg.base0 (by assumption) ((by assumption : Old _ _).fr _ _ rfl rfl rfl) | exact Lg.hitE (by assumption) (by (repeat (first | exact List.Mem.head _ | refine List.Mem.tail _ ?_))) (by first | assumption | exact rfl))); (any_goals (try exact (Option.none : Option Value)))) | with_reducible apply p_freshK | with_reducible apply p_fresh | with_reducible apply p_at | with_reducible apply p_ask | ((with_reducible apply p_allocFnG); (case L => assumption); intro _ _ _ _ _) | ((with_reducible apply p_allocG); (case L => assumption); (case e => (conv => lhs; reduce); try exact rfl); (case hf => exact rfl); intro _ _ _ _ _) | ((with_reducible apply p_updateFG); (case L => assumption); (case U => intro q'; (repeat (first | (apply SetAt.here; exact rfl) | apply SetAt.there))); (case e1 => first | assumption | exact rfl); (case e => (conv => lhs; reduce); try exact rfl); (case hf => exact rfl); intro _ _ _ _) | ((with_reducible apply p_updateG); (case L => assumption); (case U => intro q'; (repeat (first | (apply SetAt.here; exact rfl) | apply SetAt.there))); (case e1 => first | assumption | exact rfl); (case e => rfl); (case hf => rfl); intro _ _ _ _))) | (apply p_sbind) | (apply p_bind))
  all_goals refine' p_is (m' := run (.call (.ref g5) ⟨[.ref a, .ref b], []⟩)) (by kernel_rfl!) ?_
  all_goals refine WP.mk (run_of_call (wpAny_mono hc (fun v s' q => ?_) fun _ _ e => e))
  all_goals (repeat (first | ((with_reducible apply p_nsLookB); (case B => assumption); (case e => first | exact bi_object | exact bi_bc)) | (first | (first | ((with_reducible apply p_execsH); intro QQ kQ) | ((with_reducible apply p_goS); (case H => assumption); clear kQ QQ) | ((with_reducible apply p_goR); (case H => assumption); clear kQ QQ)) | with_reducible apply p_sbind | with_reducible apply p_bind | with_reducible apply p_rule | with_reducible apply p_point | with_reducible apply p_pure | ((with_reducible apply p_load); (case ho => (first | assumption | exact Lg.base16 (by assumption) (by assumption) rfl | exact Lg.base16 (by assumption) ((by assumption : Old _ _).fr _ _ rfl rfl rfl) rfl | exact Lg.base0 (by assumption) (by assumption) | exact Lg.base0 (by assumption) ((by assumption : Old _ _).fr _ _ rfl rfl rfl) | exact Lg.hitE (by assumption) (by (repeat (first | exact List.Mem.head _ | refine List.Mem.tail _ ?_))) (by first | assumption | exact rfl))); (any_goals (try exact (Option.none : Option Value)))) | with_reducible apply p_freshK | with_reducible apply p_fresh | with_reducible apply p_at | with_reducible apply p_ask | ((with_reducible apply p_allocFnG); (case L => assumption); intro _ _ _ _ _) | ((with_reducible apply p_allocG); (case L => assumption); (case e => (conv => lhs; reduce); try exact rfl); (case hf => exact rfl); intro _ _ _ _ _) | ((with_reducible apply p_updateFG); (case L => assumption); (case U => intro q'; (repeat (first | (apply SetAt.here; exact rfl) | apply SetAt.there))); (case e1 => first | assumption | exact rfl); (case e => (conv => lhs; reduce); try exact rfl); (case hf => exact rfl); intro _ _ _ _) | ((with_reducible apply p_updateG); (case L => assumption); (case U => intro q'; (repeat (first | (apply SetAt.here; exact rfl) | apply SetAt.there))); (case e1 => first | assumption | exact rfl); (case e => rfl); (case hf => rfl); intro _ _ _ _)) | with_reducible apply p_holding | with_reducible apply p_try' | with_reducible apply p_try | with_reducible apply p_keep | with_reducible apply p_attempt | (first | with_reducible apply p_val c2 | with_reducible apply p_val c4 | with_reducible apply p_val c5 | with_reducible apply p_val c7 | with_reducible apply p_val c9 | with_reducible apply p_val l1 | with_reducible apply p_val l2 | with_reducible apply p_val l3 | with_reducible apply p_val l4 | with_reducible apply p_val l5 | with_reducible apply p_val sn_str | with_reducible apply p_val sn_int | with_reducible apply p_val sn_list | with_reducible apply p_val sn_function | with_reducible apply p_val sn_NoneType | with_reducible apply p_val sn_tuple | with_reducible apply p_val sn_mem | ((with_reducible apply p_enter); (case nl => exact noLimit (by (show Heap.get? _ _ = _); (first | assumption | exact Lg.base16 (by assumption) (by assumption) rfl | exact Lg.base16 (by assumption) ((by assumption : Old _ _).fr _ _ rfl rfl rfl) rfl | exact Lg.base0 (by assumption) (by assumption) | exact Lg.base0 (by assumption) ((by assumption : Old _ _).fr _ _ rfl rfl rfl) | exact Lg.hitE (by assumption) (by (repeat (first | exact List.Mem.head _ | refine List.Mem.tail _ ?_))) (by first | assumption | exact rfl)))); (case dp => first | exact Deep.lt (by assumption) | exact Deep2.lt (by assumption) (by first | exact Nat.le_add_right _ _ | (simp [Around.deeper, Around.mark]; try omega)))) | (with_reducible apply p_standAt) | ((with_reducible show WP _ _ (buildClass _ _ _ _ _ _ _ _ _ _ _) _ _ _); conv => arg 3; delta buildClass) | ((with_reducible show WP _ _ (List.mapM mkText (Scope.freeNames _)) _ _ _); first | refine' p_is (m' := List.mapM mkText []) (by kernel_rfl!) ?_ | refine' p_is (m' := List.mapM mkText [⟨#[109, 121, 99, 109, 112]⟩]) (by kernel_rfl!) ?_) | ((with_reducible show wpAny _ _ (runValue (Code.builtin "proto.collect" _)) _ _ _); refine' collect_ok ?S ?hSl ?_; (case S => assumption); (case hSl => (first | assumption | exact Lg.base16 (by assumption) (by assumption) rfl | exact Lg.base16 (by assumption) ((by assumption : Old _ _).fr _ _ rfl rfl rfl) rfl | exact Lg.base0 (by assumption) (by assumption) | exact Lg.base0 (by assumption) ((by assumption : Old _ _).fr _ _ rfl rfl rfl) | exact Lg.hitE (by assumption) (by (repeat (first | exact List.Mem.head _ | refine List.Mem.tail _ ?_))) (by first | assumption | exact rfl))); intro hC aC tkC kC nC eC; (have LC := Lg.add (by assumption) kC nC eC); clear kC nC eC) | ((with_reducible apply p_croom); (case hu => assumption))) | ((with_reducible apply p_slot); (case hi => kernel_rfl!)) | ((with_reducible apply p_iteB); (case hb => kernel_rfl!)) | ((with_reducible apply p_iteN); (case hb => kernel_rfl!)) | ((refine' p_see (Bx.mk ?_)); (first | (first | ((with_reducible apply p_execsH); intro QQ kQ) | ((with_reducible apply p_goS); (case H => assumption); clear kQ QQ) | ((with_reducible apply p_goR); (case H => assumption); clear kQ QQ)) | with_reducible apply p_sbind | with_reducible apply p_bind | with_reducible apply p_rule | with_reducible apply p_point | with_reducible apply p_pure | ((with_reducible apply p_load); (case ho => (first | assumption | exact Lg.base16 (by assumption) (by assumption) rfl | exact Lg.base16 (by assumption) ((by assumption : Old _ _).fr _ _ rfl rfl rfl) rfl | exact Lg.base0 (by assumption) (by assumption) | exact Lg.base0 (by assumption) ((by assumption : Old _ _).fr _ _ rfl rfl rfl) | exact Lg.hitE (by assumption) (by (repeat (first | exact List.Mem.head _ | refine List.Mem.tail _ ?_))) (by first | assumption | exact rfl))); (any_goals (try exact (Option.none : Option Value)))) | with_reducible apply p_freshK | with_reducible apply p_fresh | with_reducible apply p_at | with_reducible apply p_ask | ((with_reducible apply p_allocFnG); (case L => assumption); intro _ _ _ _ _) | ((with_reducible apply p_allocG); (case L => assumption); (case e => (conv => lhs; reduce); try exact rfl); (case hf => exact rfl); intro _ _ _ _ _) | ((with_reducible apply p_updateFG); (case L => assumption); (case U => intro q'; (repeat (first | (apply SetAt.here; exact rfl) | apply SetAt.there))); (case e1 => first | assumption | exact rfl); (case e => (conv => lhs; reduce); try exact rfl); (case hf => exact rfl); intro _ _ _ _) | ((with_reducible apply p_updateG); (case L => assumption); (case U => intro q'; (repeat (first | (apply SetAt.here; exact rfl) | apply SetAt.there))); (case e1 => first | assumption | exact rfl); (case e => rfl); (case hf => rfl); intro _ _ _ _))) | (apply p_sbind) | (apply p_bind)))
  all_goals exact q
theorem rich5 (w : World) (A : Around) (hu : A.units < cLine) (h g d tk os) (KR : Old w h) (T : TD) (K : KD) (v : Value) (H : KOK w h T K v) (a b da db : Addr) (x y : Int) (t u : Tok)
   (ha : h.get? a = some (oInst K.C da x t)) (hb : h.get? b = some (oInst K.C db y u)) (Q : Value → Shared → Prop) (E : Value → Shared → Prop)
   (hc : wpAny (model PG w) A (PySem.call (.ref K.f5) [.ref a, .ref b]) (fun v s' => ∃ r, v = .bool r ∧ Q (.bool r) s') E ⟨h, g, d, tk, os⟩) :
   wpAny (model PG w) A (richCompare .GtE (.ref a) (.ref b)) Q E ⟨h, g, d, tk, os⟩ := by
  have D := Lg.start h
  have ha' := ha
  have hb' := hb
  dsimp only [oInst] at ha' hb'
  refine WP.out ?_
  delta richCompare
  repeat (first | ((with_reducible apply p_nsLookB); (case B => assumption); (case e => first | exact bi_object | exact bi_bc)) | (first | (first | ((with_reducible apply p_execsH); intro QQ kQ) | ((with_reducible apply p_goS); (case H => assumption); clear kQ QQ) | ((with_reducible apply p_goR); (case H => assumption); clear kQ QQ)) | with_reducible apply p_sbind | with_reducible apply p_bind | with_reducible apply p_rule | with_reducible apply p_point | with_reducible apply p_pure | ((with_reducible apply p_load); (case ho => (first | assumption | exact Lg.base16 (by assumption) (by assumption) rfl | exact Lg.base16 (by assumption) ((by assumption : Old _ _).fr _ _ rfl rfl rfl) rfl | exact Lg.base0 (by assumption) (by assumption) | exact Lg.base0 (by assumption) ((by assumption : Old _ _).fr _ _ rfl rfl rfl) | exact Lg.hitE (by assumption) (by (repeat (first | exact List.Mem.head _ | refine List.Mem.tail _ ?_))) (by first | assumption | exact rfl))); (any_goals (try exact (Option.none : Option Value)))) | with_reducible apply p_freshK | with_reducible apply p_fresh | with_reducible apply p_at | with_reducible apply p_ask | ((with_reducible apply p_allocFnG); (case L => assumption); intro _ _ _ _ _) | ((with_reducible apply p_allocG); (case L => assumption); (case e => (conv => lhs; reduce); try exact rfl); (case hf => exact rfl); intro _ _ _ _ _) | ((with_reducible apply p_updateFG); (case L => assumption); (case U => intro q'; (repeat (first | (apply SetAt.here; exact rfl) | apply SetAt.there))); (case e1 => first | assumption | exact rfl); (case e => (conv => lhs; reduce); try exact rfl); (case hf => exact rfl); intro _ _ _ _) | ((with_reducible apply p_updateG); (case L => assumption); (case U => intro q'; (repeat (first | (apply SetAt.here; exact rfl) | apply SetAt.there))); (case e1 => first | assumption | exact rfl); (case e => rfl); (case hf => rfl); intro _ _ _ _)) | with_reducible apply p_holding | with_reducible apply p_try' | with_reducible apply p_try | with_reducible apply p_keep | with_reducible apply p_attempt | (first | with_reducible apply p_val c2 | with_reducible apply p_val c4 | with_reducible apply p_val c5 | with_reducible apply p_val c7 | with_reducible apply p_val c9 | with_reducible apply p_val l1 | with_reducible apply p_val l2 | with_reducible apply p_val l3 | with_reducible apply p_val l4 | with_reducible apply p_val l5 | with_reducible apply p_val sn_str | with_reducible apply p_val sn_int | with_reducible apply p_val sn_list | with_reducible apply p_val sn_function | with_reducible apply p_val sn_NoneType | with_reducible apply p_val sn_tuple | with_reducible apply p_val sn_mem | ((with_reducible apply p_enter); (case nl => exact noLimit (by (show Heap.get? _ _ = _); (first | assumption | exact Lg.base16 (by assumption) (by assumption) rfl | exact Lg.base16 (by assumption) ((by assumption : Old _ _).fr _ _ rfl rfl rfl) rfl | exact Lg.base0 (by assumption) (by assumption) | exact Lg.base0 (by assumption) ((by assumption : Old _ _).fr _ _ rfl rfl rfl) | exact Lg.hitE (by assumption) (by (repeat (first | exact List.Mem.head _ | refine List.Mem.tail _ ?_))) (by first | assumption | exact rfl)))); (case dp => first | exact Deep.lt (by assumption) | exact Deep2.lt (by assumption) (by first | exact Nat.le_add_right _ _ | (simp [Around.deeper, Around.mark]; try omega)))) | (with_reducible apply p_standAt) | ((with_reducible show WP _ _ (buildClass _ _ _ _ _ _ _ _ _ _ _) _ _ _); conv => arg 3; delta buildClass) | ((with_reducible show WP _ _ (List.mapM mkText (Scope.freeNames _)) _ _ _); first | refine' p_is (m' := List.mapM mkText []) (by kernel_rfl!) ?_ | refine' p_is (m' := List.mapM mkText [⟨#[109, 121, 99, 109, 112]⟩]) (by kernel_rfl!) ?_) | ((with_reducible show wpAny _ _ (runValue (Code.builtin "proto.collect" _)) _ _ _); refine' collect_ok ?S ?hSl ?_; (case S => assumption); (case hSl => (first | assumption | exact Lg.base16 (by assumption) (by assumption) rfl | exact Lg.base16 (by assumption) ((by assumption : Old _ _).fr _ _ rfl rfl rfl) rfl | exact Lg.base0 (by assumption) (by assumption) | exact Lg.base0 (by assumption) ((by assumption : Old _ _).fr _ _ rfl rfl rfl) | exact Lg.hitE (by assumption) (by (repeat (first | exact List.Mem.head _ | refine List.Mem.tail _ ?_))) (by first | assumption | exact rfl))); intro hC aC tkC kC nC eC; (have LC := Lg.add (by assumption) kC nC eC); clear kC nC eC) | ((with_reducible apply p_croom); (case hu => assumption))) | ((with_reducible apply p_slot); (case hi => kernel_rfl!)) | ((with_reducible apply p_iteB); (case hb => kernel_rfl!)) | ((with_reducible apply p_iteN); (case hb => kernel_rfl!)) | ((refine' p_see (Bx.mk ?_)); (first | (first | ((with_reducible apply p_execsH); intro QQ kQ) | ((with_reducible apply p_goS); (case H => assumption); clear kQ QQ) | ((with_reducible apply p_goR); (case H => assumption); clear kQ QQ)) | with_reducible apply p_sbind | with_reducible apply p_bind | with_reducible apply p_rule | with_reducible apply p_point | with_reducible apply p_pure | ((with_reducible apply p_load); (case ho => (first | assumption | exact Lg.base16 (by assumption) (by assumption) rfl | exact Lg.base16 (by assumption) ((by assumption : Old _ _).fr _ _ rfl rfl rfl) rfl | exact Lg.base0 (by assumption) (by assumption) | exact Lg.base0 (by assumption) ((by assumption : Old _ _).fr _ _ rfl rfl rfl) | exact Lg.hitE (by assumption) (by (repeat (first | exact List.Mem.head _ | refine List.Mem.tail _ ?_))) (by first | assumption | exact rfl))); (any_goals (try exact (Option.none : Option Value)))) | with_reducible apply p_freshK | with_reducible apply p_fresh | with_reducible apply p_at | with_reducible apply p_ask | ((with_reducible apply p_allocFnG); (case L => assumption); intro _ _ _ _ _) | ((with_reducible apply p_allocG); (case L => assumption); (case e => (conv => lhs; reduce); try exact rfl); (case hf => exact rfl); intro _ _ _ _ _) | ((with_reducible apply p_updateFG); (case L => assumption); (case U => intro q'; (repeat (first | (apply SetAt.here; exact rfl) | apply SetAt.there))); (case e1 => first | assumption | exact rfl); (case e => (conv => lhs; reduce); try exact rfl); (case hf => exact rfl); intro _ _ _ _) | ((with_reducible apply p_updateG); (case L => assumption); (case U => intro q'; (repeat (first | (apply SetAt.here; exact rfl) | apply SetAt.there))); (case e1 => first | assumption | exact rfl); (case e => rfl); (case hf => rfl); intro _ _ _ _))) | (apply p_sbind) | (apply p_bind))
  refine WP.id' ?_
  conv => arg 3; simp only [bne_self_eq_false, Bool.false_eq_true, if_false]
  refine p_bind ?_
  refine p_pure ?_
  refine WP.id' ?_
  simp only [Bool.false_eq_true, if_false]
  refine p_bind ?_
  delta tryCompare
  refine p_bind ?_
  refine WP.mk (special5 w A hu h g d tk os KR T K v H a b da x t ha _ _ (wpAny_mono hc (fun v s' q => ?_) fun _ _ e => e))
  obtain ⟨r, rfl, q⟩ := q
  repeat (first | ((with_reducible apply p_nsLookB); (case B => assumption); (case e => first | exact bi_object | exact bi_bc)) | (first | (first | ((with_reducible apply p_execsH); intro QQ kQ) | ((with_reducible apply p_goS); (case H => assumption); clear kQ QQ) | ((with_reducible apply p_goR); (case H => assumption); clear kQ QQ)) | with_reducible apply p_sbind | with_reducible apply p_bind | with_reducible apply p_rule | with_reducible apply p_point | with_reducible apply p_pure | ((with_reducible apply p_load); (case ho => (first | assumption | exact Lg.base16 (by assumption) (by assumption) rfl | exact Lg.base16 (by assumption) ((by assumption : Old _ _).fr _ _ rfl rfl rfl) rfl | exact Lg.base0 (by assumption) (by assumption) | exact Lg.base0 (by assumption) ((by assumption : Old _ _).fr _ _ rfl rfl rfl) | exact Lg.hitE (by assumption) (by (repeat (first | exact List.Mem.head _ | refine List.Mem.tail _ ?_))) (by first | assumption | exact rfl))); (any_goals (try exact (Option.none : Option Value)))) | with_reducible apply p_freshK | with_reducible apply p_fresh | with_reducible apply p_at | with_reducible apply p_ask | ((with_reducible apply p_allocFnG); (case L => assumption); intro _ _ _ _ _) | ((with_reducible apply p_allocG); (case L => assumption); (case e => (conv => lhs; reduce); try exact rfl); (case hf => exact rfl); intro _ _ _ _ _) | ((with_reducible apply p_updateFG); (case L => assumption); (case U => intro q'; (repeat (first | (apply SetAt.here; exact rfl) | apply SetAt.there))); (case e1 => first | assumption | exact rfl); (case e => (conv => lhs; reduce); try exact rfl); (case hf => exact rfl); intro _ _ _ _) | ((with_reducible apply p_updateG); (case L => assumption); (case U => intro q'; (repeat (first | (apply SetAt.here; exact rfl) | apply SetAt.there))); (case e1 => first | assumption | exact rfl); (case e => rfl); (case hf => rfl); intro _ _ _ _)) | with_reducible apply p_holding | with_reducible apply p_try' | with_reducible apply p_try | with_reducible apply p_keep | with_reducible apply p_attempt | (first | with_reducible apply p_val c2 | with_reducible apply p_val c4 | with_reducible apply p_val c5 | with_reducible apply p_val c7 | with_reducible apply p_val c9 | with_reducible apply p_val l1 | with_reducible apply p_val l2 | with_reducible apply p_val l3 | with_reducible apply p_val l4 | with_reducible apply p_val l5 | with_reducible apply p_val sn_str | with_reducible apply p_val sn_int | with_reducible apply p_val sn_list | with_reducible apply p_val sn_function | with_reducible apply p_val sn_NoneType | with_reducible apply p_val sn_tuple | with_reducible apply p_val sn_mem | ((with_reducible apply p_enter); (case nl => exact noLimit (by (show Heap.get? _ _ = _); (first | assumption | exact Lg.base16 (by assumption) (by assumption) rfl | exact Lg.base16 (by assumption) ((by assumption : Old _ _).fr _ _ rfl rfl rfl) rfl | exact Lg.base0 (by assumption) (by assumption) | exact Lg.base0 (by assumption) ((by assumption : Old _ _).fr _ _ rfl rfl rfl) | exact Lg.hitE (by assumption) (by (repeat (first | exact List.Mem.head _ | refine List.Mem.tail _ ?_))) (by first | assumption | exact rfl)))); (case dp => first | exact Deep.lt (by assumption) | exact Deep2.lt (by assumption) (by first | exact Nat.le_add_right _ _ | (simp [Around.deeper, Around.mark]; try omega)))) | (with_reducible apply p_standAt) | ((with_reducible show WP _ _ (buildClass _ _ _ _ _ _ _ _ _ _ _) _ _ _); conv => arg 3; delta buildClass) | ((with_reducible show WP _ _ (List.mapM mkText (Scope.freeNames _)) _ _ _); first | refine' p_is (m' := List.mapM mkText []) (by kernel_rfl!) ?_ | refine' p_is (m' := List.mapM mkText [⟨#[109, 121, 99, 109, 112]⟩]) (by kernel_rfl!) ?_) | ((with_reducible show wpAny _ _ (runValue (Code.builtin "proto.collect" _)) _ _ _); refine' collect_ok ?S ?hSl ?_; (case S => assumption); (case hSl => (first | assumption | exact Lg.base16 (by assumption) (by assumption) rfl | exact Lg.base16 (by assumption) ((by assumption : Old _ _).fr _ _ rfl rfl rfl) rfl | exact Lg.base0 (by assumption) (by assumption) | exact Lg.base0 (by assumption) ((by assumption : Old _ _).fr _ _ rfl rfl rfl) | exact Lg.hitE (by assumption) (by (repeat (first | exact List.Mem.head _ | refine List.Mem.tail _ ?_))) (by first | assumption | exact rfl))); intro hC aC tkC kC nC eC; (have LC := Lg.add (by assumption) kC nC eC); clear kC nC eC) | ((with_reducible apply p_croom); (case hu => assumption))) | ((with_reducible apply p_slot); (case hi => kernel_rfl!)) | ((with_reducible apply p_iteB); (case hb => kernel_rfl!)) | ((with_reducible apply p_iteN); (case hb => kernel_rfl!)) | ((refine' p_see (Bx.mk ?_)); (first | (first | ((with_reducible apply p_execsH); intro QQ kQ) | ((with_reducible apply p_goS); (case H => assumption); clear kQ QQ) | ((with_reducible apply p_goR); (case H => assumption); clear kQ QQ)) | with_reducible apply p_sbind | with_reducible apply p_bind | with_reducible apply p_rule | with_reducible apply p_point | with_reducible apply p_pure | ((with_reducible apply p_load); (case ho => (first | assumption | exact Lg.base16 (by assumption) (by assumption) rfl | exact Lg.base16 (by assumption) ((by assumption : Old _ _).fr _ _ rfl rfl rfl) rfl | exact Lg.base0 (by assumption) (by assumption) | exact Lg.base0 (by assumption) ((by assumption : Old _ _).fr _ _ rfl rfl rfl) | exact Lg.hitE (by assumption) (by (repeat (first | exact List.Mem.head _ | refine List.Mem.tail _ ?_))) (by first | assumption | exact rfl))); (any_goals (try exact (Option.none : Option Value)))) | with_reducible apply p_freshK | with_reducible apply p_fresh | with_reducible apply p_at | with_reducible apply p_ask | ((with_reducible apply p_allocFnG); (case L => assumption); intro _ _ _ _ _) | ((with_reducible apply p_allocG); (case L => assumption); (case e => (conv => lhs; reduce); try exact rfl); (case hf => exact rfl); intro _ _ _ _ _) | ((with_reducible apply p_updateFG); (case L => assumption); (case U => intro q'; (repeat (first | (apply SetAt.here; exact rfl) | apply SetAt.there))); (case e1 => first | assumption | exact rfl); (case e => (conv => lhs; reduce); try exact rfl); (case hf => exact rfl); intro _ _ _ _) | ((with_reducible apply p_updateG); (case L => assumption); (case U => intro q'; (repeat (first | (apply SetAt.here; exact rfl) | apply SetAt.there))); (case e1 => first | assumption | exact rfl); (case e => rfl); (case hf => rfl); intro _ _ _ _))) | (apply p_sbind) | (apply p_bind))
  all_goals exact q
end
theorem ck_any (w : World) (A : Around) (S : Deep3 A) (h : Heap) (KR : Old w h) (g d tk os) (v : Value) (C : List Addr) (hC : ∀ a ∈ C, ∃ o, h.get? a = some o) (o16 : Obj) (h16 : h.get? 16 = some o16) (h65 : h.get? 65 = some tab0)
   (hT : o16 = tab0 ∨ ∃ T, TabOK w h T ∧ ∀ a ∈ T.as, a ∉ C) (Q : Value → Shared → Prop) (E : Value → Shared → Prop)
   (KQ : ∀ h' T K tk', KeepsT h h' → (∀ a ∈ K.as, a ∉ C) → (∀ a ∈ T.as, a ∉ C) → TabOK w h' T → KOK w h' T K v → Q (.ref K.C) ⟨h', g, d, tk', os⟩) :
   wpAny (model PG w) A (PySem.call (.ref 21) [v]) Q E ⟨h, g, d, tk, os⟩ := by
  have nw : ∀ l : List Addr, (∀ a ∈ l, h.get? a = none) → ∀ a ∈ l, a ∉ C := fun l hl a ha hm => by
    obtain ⟨o, e⟩ := hC a hm
    rw [hl a ha] at e; cases e
  rcases hT with rfl | ⟨T, HT, hTC⟩
  · exact ck_first w A S h KR h16 g d tk os v Q E fun h' T K tk' k kn tn ht hk => KQ h' T K tk' k (nw _ kn) (nw _ tn) ht hk
  · exact ck_later w A S h g d tk os v Q E T HT KR fun h' K tk' k kn hk => KQ h' T K tk' ⟨fun b o e _ => k b o e⟩ (nw _ kn) hTC (HT.keeps k) hk
end Mine

-- PURE
open PySem PySem.W PyProof.Rows
namespace Mine
def sat {α : Type} (r : Nat → Nat) (n : Nat) (P : α → Prop) : KasT α → Prop
  | .ret a => P a
  | .ask i j k => i < n ∧ j < n ∧ sat r n P (k (decide (r i < r j)))
theorem sat_bind {α β : Type} {r : Nat → Nat} {n : Nat} {P : β → Prop} {f : α → KasT β} : ∀ (t : KasT α), sat r n (fun a => sat r n P (f a)) t → sat r n P (t.bind f)
  | .ret _, h => h
  | .ask _ _ k, h => ⟨h.1, h.2.1, sat_bind (k _) h.2.2⟩
theorem sat_mono {α : Type} {r : Nat → Nat} {n : Nat} {P P' : α → Prop} (hp : ∀ a, P a → P' a) : ∀ (t : KasT α), sat r n P t → sat r n P' t
  | .ret a, h => hp a h
  | .ask _ _ k, h => ⟨h.1, h.2.1, sat_mono hp (k _) h.2.2⟩
def gg (p : Array Nat) (k : Nat) : Nat := p.getD k 0
theorem gg_of {p q : Array Nat} {k m : Nat} (e : p[k]? = q[m]?) : gg p k = gg q m := by
  simp only [gg, Array.getD_eq_getD_getElem?, e]
theorem gg_rev {p : Array Nat} {i j : Nat} (hj : j ≤ p.size) (k : Nat) : gg (kas_rev p i j) k = if i ≤ k ∧ k < j then gg p (i + j - 1 - k) else gg p k := by
  have e := getElem?_mirror_all (xs := p) (i := i) hj k
  split
  · rename_i h; rw [if_pos h] at e; exact gg_of e
  · rename_i h; rw [if_neg h] at e; exact gg_of e
theorem gg_bub {p : Array Nat} {k d : Nat} (hk : k < p.size) (hd : d ≤ k) (m : Nat) : gg (bubble p k d) m = if m = k - d then gg p k else if k - d < m ∧ m ≤ k then gg p (m - 1) else gg p m := by
  have e := getElem?_bubble hk d hd m
  split
  · rename_i h; rw [if_pos h] at e; exact gg_of e
  · rename_i h; rw [if_neg h] at e
    split
    · rename_i h2; rw [if_pos h2] at e; exact gg_of e
    · rename_i h2; rw [if_neg h2] at e; exact gg_of e
theorem gg_bub2 {p : Array Nat} {k m : Nat} (hk : k < p.size) (hm : m ≤ k) (a : Nat) : gg (bubble p k (k - m)) a = if a = m then gg p k else if m < a ∧ a ≤ k then gg p (a - 1) else gg p a := by
  rw [gg_bub hk (Nat.sub_le _ _), Nat.sub_sub_self hm]
theorem lexle {a b c : Nat} {P R : Prop} (h : a < b ∨ (a = b ∧ P)) (h2 : b ≤ c) (h3 : R) : a < c ∨ (a = c ∧ R) := by
  rcases h with t | ⟨t, _⟩
  · exact .inl (Nat.lt_of_lt_of_le t h2)
  · subst t
    rcases Nat.lt_or_eq_of_le h2 with u | u
    · exact .inl u
    · exact .inr ⟨u, h3⟩
theorem ltlex {a b c : Nat} {P : Prop} (h : a < b) (h2 : b < c ∨ (b = c ∧ P)) : a < c := by
  rcases h2 with t | ⟨t, _⟩
  · exact Nat.lt_trans h t
  · exact t ▸ h
/-- the first m stand in order, those alike as they came -/
def SP (r : Nat → Nat) (p : Array Nat) (m : Nat) : Prop := ∀ a b, a < b → b < m → r (gg p a) < r (gg p b) ∨ (r (gg p a) = r (gg p b) ∧ gg p a < gg p b)
theorem kx1 {i k a b : Nat} (h1 : a < b) (h2 : b < k) : i + k - 1 - b < i + k - 1 - a := by omega
theorem kx2 {i k a : Nat} (h1 : i ≤ a) (h2 : a < k) : i + k - 1 - a < k := by omega
theorem kx3 {i k b : Nat} (h : b < k) : i ≤ i + k - 1 - b := by omega
theorem kx4 {a b : Nat} (h : a < b) (h2 : a ≠ b - 1) : a < b - 1 := Nat.lt_of_le_of_ne (Nat.le_sub_one_of_lt h) h2
theorem km {l u f m : Nat} (h3 : u - l ≤ f + 1) (h : m < u) : m - l ≤ f := by omega
theorem km2 {l u f m : Nat} (h3 : u - l ≤ f + 1) (h : l ≤ m) : u - (m + 1) ≤ f := by omega
theorem mid1 {l u : Nat} (h : l < u) : l ≤ (l + u) / 2 := by omega
theorem mid2 {l u : Nat} (h : l < u) : (l + u) / 2 < u := by omega
/-- the first k are the first k numbers, the others have not moved -/
structure Lo (n : Nat) (p : Array Nat) (k : Nat) : Prop where
  size : p.size = n
  low : ∀ a, a < k → gg p a < k
  id : ∀ m, k ≤ m → m < n → gg p m = m
  perm : p.Perm (List.toArray (List.range n))
theorem Lo.up {n : Nat} {p : Array Nat} {k k' : Nat} (L : Lo n p k) (h : k ≤ k') (hn : k' ≤ n) : Lo n p k' :=
  ⟨L.size, fun a ha => by
    by_cases q : a < k
    · exact Nat.lt_of_lt_of_le (L.low a q) h
    · rw [L.id a (Nat.not_lt.mp q) (Nat.lt_of_lt_of_le ha hn)]; exact ha, fun m hm hn => L.id m (Nat.le_trans h hm) hn, L.perm⟩
theorem Lo.lt {n : Nat} {p : Array Nat} {k : Nat} (L : Lo n p k) (hk : k ≤ n) {a : Nat} (ha : a < n) : gg p a < n := by
  by_cases q : a < k
  · exact Nat.lt_of_lt_of_le (L.low a q) hk
  · rw [L.id a (Nat.not_lt.mp q) ha]; exact ha
theorem Lo.rev {n : Nat} {p : Array Nat} {k i : Nat} (L : Lo n p k) (hk : k ≤ n) (hi : i ≤ k) : Lo n (kas_rev p i k) k := by
  have hj : k ≤ p.size := by rw [L.size]; exact hk
  refine ⟨(kas_rev_size i k).trans L.size, fun a ha => ?_, fun m hm hn => ?_, (mirror_perm _ _ _ _).trans L.perm⟩
  · rw [gg_rev hj]
    split
    · rename_i z; exact L.low _ (kx2 z.1 z.2)
    · exact L.low _ ha
  · rw [gg_rev hj, if_neg (fun z => Nat.not_lt.mpr hm z.2)]; exact L.id m hm hn
theorem SP.up {r : Nat → Nat} {n : Nat} {p : Array Nat} {k : Nat} (L : Lo n p k) (S : SP r p k) (hk : 1 ≤ k) (hn : k < n) (h : ¬ r (gg p k) < r (gg p (k - 1))) : SP r p (k + 1) := by
  intro a b ab hb
  by_cases q : b < k
  · exact S a b ab q
  · obtain rfl : b = k := Nat.le_antisymm (Nat.le_of_lt_succ hb) (Nat.not_lt.mp q)
    have hab : a < b := ab
    have h1 := L.low a hab
    have h2 := L.id b (Nat.le_refl _) hn
    have h4 := Nat.lt_of_lt_of_eq h1 h2.symm
    have h5 := Nat.not_lt.mp h
    clear h1 h2 h L hn hb q
    by_cases q2 : a = b - 1
    · subst q2
      rcases Nat.lt_or_eq_of_le h5 with u | u
      · exact .inl u
      · exact .inr ⟨u, h4⟩
    · exact lexle (S a (b - 1) (kx4 hab q2) (Nat.sub_lt hk Nat.one_pos)) h5 h4
theorem ka {k f n : Nat} (h : k + (f + 1) = n) : k < n := by omega
theorem kb {k f n : Nat} (h : k + (f + 1) = n) : k ≤ n := Nat.le_of_lt (ka h)
theorem kc {k f n : Nat} (h : k + (f + 1) = n) : k + 1 + f = n := by omega
theorem kd {k f n : Nat} (h : k + (f + 1) = n) : k - 1 < n := Nat.lt_of_le_of_lt (Nat.sub_le _ _) (ka h)
theorem ke {i k : Nat} (h : 1 ≤ k) : i + k - 1 - (k - 1) = i := by omega
theorem kf {q k : Nat} (h : q + 1 ≤ k) : 1 ≤ k := Nat.le_trans (Nat.succ_le_succ (Nat.zero_le q)) h
theorem sat_asc {r : Nat → Nat} {n : Nat} (p : Array Nat) : ∀ (f k : Nat), 1 ≤ k → k + f = n → Lo n p k → SP r p k →
    sat r n (fun m => k ≤ m ∧ m ≤ n ∧ SP r p m ∧ (m < n → r (gg p m) < r (gg p (m - 1)))) (kas_asc p f k)
  | 0, k, _, hf, _, S => ⟨Nat.le_refl _, Nat.le_of_eq hf, S, fun h => absurd h (Nat.not_lt.mpr (Nat.le_of_eq hf.symm))⟩
  | f + 1, k, h1, hf, L, S => by
    refine ⟨L.lt (kb hf) (ka hf), L.lt (kb hf) (kd hf), ?_⟩
    show sat r n _ (if decide (r (gg p k) < r (gg p (k - 1))) = true then KasT.ret k else kas_asc p f (k + 1))
    by_cases q : r (gg p k) < r (gg p (k - 1))
    · rw [if_pos (decide_eq_true q)]
      exact ⟨Nat.le_refl _, kb hf, S, fun _ => q⟩
    · rw [if_neg (by simpa using q)]
      refine sat_mono (fun m hm => ⟨Nat.le_of_succ_le hm.1, hm.2.1, hm.2.2⟩) _ (sat_asc p f (k + 1) (Nat.succ_le_succ (Nat.zero_le k)) (kc hf) (L.up (Nat.le_succ k) (ka hf)) (S.up L h1 (ka hf) q))
/-- the first k go down; the last q + 1 of them are alike and still stand as they came -/
def DP (r : Nat → Nat) (p : Array Nat) (k q : Nat) : Prop := ∀ a b, a < b → b < k →
  (k - 1 - q ≤ a → r (gg p a) = r (gg p b) ∧ gg p a < gg p b) ∧
  (a < k - 1 - q → k - 1 - q ≤ b → r (gg p b) < r (gg p a)) ∧
  (b < k - 1 - q → r (gg p b) < r (gg p a) ∨ (r (gg p b) = r (gg p a) ∧ gg p b < gg p a))
/-- the first k go down, those alike the other way -/
def DD (r : Nat → Nat) (p : Array Nat) (k : Nat) : Prop := ∀ a b, a < b → b < k → r (gg p b) < r (gg p a) ∨ (r (gg p b) = r (gg p a) ∧ gg p b < gg p a)
theorem DP.turn {r : Nat → Nat} {n : Nat} {p : Array Nat} {k q : Nat} (L : Lo n p k) (D : DP r p k q) (hk : k ≤ n) (hq : q + 1 ≤ k) : DD r (kas_rev p (k - (q + 1)) k) k := by
  have hj : k ≤ p.size := by rw [L.size]; exact hk
  obtain ⟨i, rfl⟩ : ∃ i, k = i + (q + 1) := ⟨k - (q + 1), (Nat.sub_add_cancel hq).symm⟩
  have e0 : i + (q + 1) - 1 - q = i := Nat.add_sub_cancel i q
  have hik : i < i + (q + 1) := Nat.lt_add_of_pos_right (Nat.succ_pos _)
  unfold DP at D
  rw [e0] at D
  rw [Nat.add_sub_cancel]
  clear hq e0 hk L
  generalize i + (q + 1) = k at *
  intro a b ab hb
  rw [gg_rev hj, gg_rev hj]
  clear hj
  by_cases ha : i ≤ a
  · rw [if_pos ⟨Nat.le_trans ha (Nat.le_of_lt ab), hb⟩, if_pos ⟨ha, Nat.lt_trans ab hb⟩]
    exact .inr ((D (i + k - 1 - b) (i + k - 1 - a) (kx1 ab hb) (kx2 ha (Nat.lt_trans ab hb))).1 (kx3 hb))
  · have ha' := Nat.not_le.mp ha
    rw [if_neg (fun z => ha z.1 : ¬ (i ≤ a ∧ a < k))]
    by_cases hb2 : i ≤ b
    · rw [if_pos ⟨hb2, hb⟩]
      exact .inl ((D a (i + k - 1 - b) (Nat.lt_of_lt_of_le ha' (kx3 hb)) (kx2 hb2 hb)).2.1 ha' (kx3 hb))
    · rw [if_neg (fun z => hb2 z.1 : ¬ (i ≤ b ∧ b < k))]
      exact (D a b ab hb).2.2 (Nat.not_le.mp hb2)
theorem DP.zero {r : Nat → Nat} {p : Array Nat} {k : Nat} (D : DP r p k 0) : DD r p k := by
  intro a b ab hb
  by_cases q : b < k - 1 - 0
  · exact (D a b ab hb).2.2 q
  · exact .inl ((D a b ab hb).2.1 (Nat.lt_of_lt_of_le ab (Nat.le_sub_one_of_lt hb)) (Nat.not_lt.mp q))
theorem DD.down {r : Nat → Nat} {n : Nat} {p : Array Nat} {k : Nat} (L : Lo n p k) (D : DD r p k) (h1 : 1 ≤ k) (hk : k < n) (h : r (gg p k) < r (gg p (k - 1))) : DP r p (k + 1) 0 := by
  intro a b ab hb
  have e0 : k + 1 - 1 - 0 = k := rfl
  rw [e0]
  have hbk := Nat.le_of_lt_succ hb
  refine ⟨fun ha => absurd (Nat.lt_of_lt_of_le ab hbk) (Nat.not_lt.mpr ha), fun ha hb2 => ?_, fun hb2 => D a b ab hb2⟩
  obtain rfl : b = k := Nat.le_antisymm hbk hb2
  clear L hb e0 hbk hb2 ha hk
  by_cases q : a = b - 1
  · subst q; exact h
  · exact ltlex h (D a (b - 1) (kx4 ab q) (Nat.sub_lt h1 Nat.one_pos))
theorem DP.alike {r : Nat → Nat} {n : Nat} {p : Array Nat} {k q : Nat} (L : Lo n p k) (D : DP r p k q) (hq : q + 1 ≤ k) (hk : k < n) (h : r (gg p k) = r (gg p (k - 1))) : DP r p (k + 1) (q + 1) := by
  intro a b ab hb
  have hbk' := Nat.le_of_lt_succ hb
  have low := L.low a (Nat.lt_of_lt_of_le ab hbk')
  have idk := L.id k (Nat.le_refl _) hk
  have e0 : k + 1 - 1 - (q + 1) = k - 1 - q := by rw [Nat.add_sub_cancel, Nat.sub_sub, Nat.add_comm 1 q]
  rw [e0]
  unfold DP at D
  have hi : k - 1 - q ≤ k - 1 := Nat.sub_le _ _
  have hi2 : 1 ≤ k := Nat.le_trans (Nat.succ_le_succ (Nat.zero_le q)) hq
  generalize k - 1 - q = i at *
  clear e0 L hk hq
  by_cases hbk : b < k
  · exact D a b ab hbk
  · obtain rfl : b = k := Nat.le_antisymm hbk' (Nat.not_lt.mp hbk)
    clear hbk hbk' hb
    have h4 := Nat.lt_of_lt_of_eq low idk.symm
    refine ⟨fun ha => ?_, fun ha hb2 => ?_, fun hb2 => absurd hb2 (Nat.not_lt.mpr (Nat.le_trans hi (Nat.sub_le _ _)))⟩
    · by_cases q2 : a = b - 1
      · subst q2; exact ⟨h.symm, h4⟩
      · exact ⟨((D a (b - 1) (kx4 ab q2) (Nat.sub_lt hi2 Nat.one_pos)).1 ha).1.trans h.symm, h4⟩
    · exact Nat.lt_of_le_of_lt (Nat.le_of_eq h) ((D a (b - 1) (Nat.lt_of_lt_of_le ha hi) (Nat.sub_lt hi2 Nat.one_pos)).2.1 ha hi)
theorem sat_desc {r : Nat → Nat} {n : Nat} : ∀ (f : Nat) (p : Array Nat) (k q : Nat), q + 1 ≤ k → k + f = n → Lo n p k → DP r p k q →
    sat r n (fun x => k ≤ x.2.1 ∧ x.2.1 ≤ n ∧ x.2.2 + 1 ≤ x.2.1 ∧ Lo n x.1 x.2.1 ∧ DP r x.1 x.2.1 x.2.2) (kas_desc f p k q)
  | 0, p, k, q, hq, hf, L, D => ⟨Nat.le_refl _, Nat.le_of_eq hf, hq, L, D⟩
  | f + 1, p, k, q, hq, hf, L, D => by
    refine ⟨L.lt (kb hf) (ka hf), L.lt (kb hf) (kd hf), ?_⟩
    show sat r n _ (if decide (r (gg p k) < r (gg p (k - 1))) = true then (if q > 0 then kas_desc f (kas_rev p (k - (q + 1)) k) (k + 1) 0 else kas_desc f p (k + 1) 0)
      else .ask (p.getD (k - 1) 0) (p.getD k 0) fun d => if d = true then .ret (p, k, q) else kas_desc f p (k + 1) (q + 1))
    by_cases c : r (gg p k) < r (gg p (k - 1))
    · rw [if_pos (decide_eq_true c)]
      by_cases q0 : q > 0
      · rw [if_pos q0]
        have L' := L.rev (i := k - (q + 1)) (kb hf) (Nat.sub_le _ _)
        have hj : k ≤ p.size := by rw [L.size]; exact kb hf
        have e1 : gg (kas_rev p (k - (q + 1)) k) k = gg p k := by rw [gg_rev hj, if_neg (fun z => Nat.lt_irrefl _ z.2)]
        have e2 : r (gg (kas_rev p (k - (q + 1)) k) (k - 1)) = r (gg p (k - 1)) := by
          have h1 := kf hq
          have hi : k - (q + 1) ≤ k - 1 := Nat.sub_le_sub_left (Nat.succ_le_succ (Nat.zero_le q)) k
          have hk1 : k - 1 < k := Nat.sub_lt h1 Nat.one_pos
          have hi2 : k - 1 - q = k - (q + 1) := by rw [Nat.sub_sub, Nat.add_comm 1 q]
          rw [gg_rev hj, if_pos ⟨hi, hk1⟩, ke h1]
          rcases Nat.lt_or_eq_of_le hi with u | u
          · exact ((D (k - (q + 1)) (k - 1) u hk1).1 (Nat.le_of_eq hi2)).1
          · rw [u]
        refine sat_mono (fun x hx => ⟨Nat.le_trans (Nat.le_succ _) hx.1, hx.2⟩) _ (sat_desc f _ (k + 1) 0 (Nat.succ_le_succ (Nat.zero_le k)) (kc hf) (L'.up (Nat.le_succ k) (ka hf)) (DD.down L' (DP.turn L D (kb hf) hq) (kf hq) (ka hf) (by rw [e1, e2]; exact c)))
      · rw [if_neg q0]
        obtain rfl : q = 0 := Nat.eq_zero_of_not_pos q0
        refine sat_mono (fun x hx => ⟨Nat.le_trans (Nat.le_succ _) hx.1, hx.2⟩) _ (sat_desc f _ (k + 1) 0 (Nat.succ_le_succ (Nat.zero_le k)) (kc hf) (L.up (Nat.le_succ k) (ka hf)) (DD.down L D.zero (kf hq) (ka hf) c))
    · rw [if_neg (by simpa using c)]
      refine ⟨L.lt (kb hf) (kd hf), L.lt (kb hf) (ka hf), ?_⟩
      show sat r n _ (if decide (r (gg p (k - 1)) < r (gg p k)) = true then .ret (p, k, q) else kas_desc f p (k + 1) (q + 1))
      by_cases d : r (gg p (k - 1)) < r (gg p k)
      · rw [if_pos (decide_eq_true d)]
        exact ⟨Nat.le_refl _, (by show k ≤ n; exact kb hf), hq, L, D⟩
      · rw [if_neg (by simpa using d)]
        refine sat_mono (fun x hx => ⟨Nat.le_trans (Nat.le_succ _) hx.1, hx.2⟩) _ (sat_desc f p (k + 1) (q + 1) (Nat.succ_le_succ hq) (kc hf) (L.up (Nat.le_succ k) (ka hf)) (D.alike L hq (ka hf) (Nat.le_antisymm (Nat.not_lt.mp d) (Nat.not_lt.mp c))))
theorem DD.flip {r : Nat → Nat} {n : Nat} {p : Array Nat} {k : Nat} (L : Lo n p k) (D : DD r p k) (hk : k ≤ n) : SP r (kas_rev p 0 k) k := by
  have hj : k ≤ p.size := by rw [L.size]; exact hk
  intro a b ab hb
  rw [gg_rev hj, gg_rev hj, if_pos ⟨Nat.zero_le _, Nat.lt_trans ab hb⟩, if_pos ⟨Nat.zero_le _, hb⟩]
  exact D (0 + k - 1 - b) (0 + k - 1 - a) (kx1 ab hb) (kx2 (Nat.zero_le a) (Nat.lt_trans ab hb))
/-- what the counting gives -/
def Cnt (r : Nat → Nat) (n : Nat) (x : Nat × Array Nat) : Prop := 1 ≤ x.1 ∧ x.1 ≤ n ∧ Lo n x.2 x.1 ∧ SP r x.2 x.1
theorem sat_tail3 {r : Nat → Nat} {n k : Nat} {p : Array Nat} (h1 : 1 ≤ k) (hk : k ≤ n) (L : Lo n p k) (D : DD r p k) : sat r n (Cnt r n) (kas_tail3 k n p) := by
  have L' := L.rev (i := 0) hk (Nat.zero_le k)
  refine sat_bind _ (sat_mono (fun m hm => ?_) _ (sat_asc (kas_rev p 0 k) (n - k) k h1 (Nat.add_sub_cancel' hk) L' (D.flip L hk)))
  exact ⟨Nat.le_trans h1 hm.1, hm.2.1, L'.up hm.1 hm.2.1, hm.2.2.1⟩
theorem sat_descPart {r : Nat → Nat} {n k : Nat} {p : Array Nat} (h1 : 1 ≤ k) (hk : k < n) (L : Lo n p k) (D : DD r p k) (c : r (gg p k) < r (gg p (k - 1))) : sat r n (Cnt r n) (kas_descPart k n p) := by
  refine sat_bind _ (sat_mono (fun x hx => ?_) _ (sat_desc (n - (k + 1)) p (k + 1) 0 (Nat.succ_le_succ (Nat.zero_le k)) (Nat.add_sub_cancel' hk) (L.up (Nat.le_succ k) hk) (DD.down L D h1 hk c)))
  obtain ⟨h2, h3, h4, L2, D2⟩ := hx
  split
  · exact sat_tail3 (Nat.le_trans (Nat.succ_le_succ (Nat.zero_le k)) h2) h3 (L2.rev h3 (Nat.sub_le _ _)) (DP.turn L2 D2 h3 h4)
  · rename_i q
    have e : x.2.2 = 0 := Nat.eq_zero_of_not_pos q
    rw [e] at D2
    exact sat_tail3 (Nat.le_trans (Nat.succ_le_succ (Nat.zero_le k)) h2) h3 L2 D2.zero
theorem sat_count {r : Nat → Nat} {n : Nat} {p : Array Nat} (h1 : 1 ≤ n) (L : Lo n p 0) : sat r n (Cnt r n) (kas_count n p) := by
  have S1 : SP r p 1 := fun a b ab hb => absurd (Nat.lt_of_le_of_lt (Nat.zero_le a) ab) (Nat.not_lt.mpr (Nat.le_of_lt_succ hb))
  refine sat_bind _ (sat_mono (fun m hm => ?_) _ (sat_asc p (n - 1) 1 (Nat.le_refl _) (Nat.add_sub_cancel' h1) (L.up (Nat.zero_le 1) h1) S1))
  obtain ⟨m1, mn, S, c⟩ := hm
  have Lm := L.up (k' := m) (Nat.zero_le m) mn
  by_cases e : m = n
  · rw [if_pos (by simpa using e)]
    exact ⟨m1, mn, Lm, S⟩
  · rw [if_neg (by simpa using e)]
    by_cases q : m > 1
    · rw [if_pos q]
      refine ⟨Lm.lt mn h1, Lm.lt mn (Nat.lt_of_lt_of_le (Nat.sub_lt m1 Nat.one_pos) mn), ?_⟩
      show sat r n _ (if decide (r (gg p 0) < r (gg p (m - 1))) = true then .ret (m, p) else kas_descPart m n (kas_rev p 0 m))
      by_cases d : r (gg p 0) < r (gg p (m - 1))
      · rw [if_pos (decide_eq_true d)]; exact ⟨m1, mn, Lm, S⟩
      · rw [if_neg (by simpa using d)]
        have hj : m ≤ p.size := by rw [L.size]; exact mn
        have eqs : ∀ a, a < m → r (gg p a) = r (gg p 0) := by
          intro a ha
          by_cases a0 : a = 0
          · rw [a0]
          · have h3 := S 0 a (Nat.pos_of_ne_zero a0) ha
            by_cases a1 : a = m - 1
            · subst a1; exact h3.elim (fun t => absurd t d) (fun t => t.1.symm)
            · exact h3.elim (fun t => absurd (ltlex t (S a (m - 1) (kx4 ha a1) (Nat.sub_lt m1 Nat.one_pos))) d) (fun t => t.1.symm)
        refine sat_descPart m1 (Nat.lt_of_le_of_ne mn e) (Lm.rev mn (Nat.zero_le m)) ?_ ?_
        · intro a b ab hb
          rw [gg_rev hj, gg_rev hj, if_pos ⟨Nat.zero_le _, hb⟩, if_pos ⟨Nat.zero_le _, Nat.lt_trans ab hb⟩]
          exact S (0 + m - 1 - b) (0 + m - 1 - a) (kx1 ab hb) (kx2 (Nat.zero_le a) (Nat.lt_trans ab hb))
        · rw [gg_rev hj, gg_rev hj, if_neg (fun z => Nat.lt_irrefl _ z.2), if_pos ⟨Nat.zero_le _, Nat.sub_lt m1 Nat.one_pos⟩, ke m1, ← eqs (m - 1) (Nat.sub_lt m1 Nat.one_pos)]
          exact c (Nat.lt_of_le_of_ne mn e)
    · rw [if_neg q]
      obtain rfl : m = 1 := Nat.le_antisymm (Nat.not_lt.mp q) m1
      exact sat_descPart (Nat.le_refl _) (Nat.lt_of_le_of_ne mn e) Lm (fun a b ab hb => absurd (Nat.lt_of_le_of_lt (Nat.zero_le a) ab) (Nat.not_lt.mpr (Nat.le_of_lt_succ hb))) (c (Nat.lt_of_le_of_ne mn e))
theorem sat_place {r : Nat → Nat} {n k : Nat} {p : Array Nat} (L : Lo n p k) (hk : k < n) (S : SP r p k) : ∀ (f l u : Nat), l ≤ u → u ≤ k → u - l ≤ f → (∀ a, a < l → ¬ r (gg p k) < r (gg p a)) → (∀ a, u ≤ a → a < k → r (gg p k) < r (gg p a)) →
    sat r n (fun m => m ≤ k ∧ (∀ a, a < m → ¬ r (gg p k) < r (gg p a)) ∧ (∀ a, m ≤ a → a < k → r (gg p k) < r (gg p a))) (kas_place p k f l u)
  | 0, l, u, h1, h2, h3, hl, hu => by
    obtain rfl : l = u := Nat.le_antisymm h1 (Nat.le_of_sub_eq_zero (Nat.le_zero.mp h3))
    exact ⟨h2, hl, hu⟩
  | f + 1, l, u, h1, h2, h3, hl, hu => by
    unfold kas_place
    by_cases q : l ≥ u
    · rw [if_pos q]
      obtain rfl : l = u := Nat.le_antisymm h1 q
      exact ⟨h2, hl, hu⟩
    · rw [if_neg q]
      have lu := Nat.not_le.mp q
      have m2 := Nat.lt_of_lt_of_le (mid2 lu) h2
      refine ⟨L.lt (Nat.le_of_lt hk) hk, L.lt (Nat.le_of_lt hk) (Nat.lt_trans m2 hk), ?_⟩
      show sat r n _ (if decide (r (gg p k) < r (gg p ((l + u) / 2))) = true then kas_place p k f l ((l + u) / 2) else kas_place p k f ((l + u) / 2 + 1) u)
      by_cases c : r (gg p k) < r (gg p ((l + u) / 2))
      · rw [if_pos (decide_eq_true c)]
        refine sat_place L hk S f l ((l + u) / 2) (mid1 lu) (Nat.le_of_lt m2) (km h3 (mid2 lu)) hl fun a ha hak => ?_
        by_cases e : a = (l + u) / 2
        · rw [e]; exact c
        · exact ltlex c (S ((l + u) / 2) a (Nat.lt_of_le_of_ne ha (Ne.symm e)) hak)
      · rw [if_neg (by simpa using c)]
        refine sat_place L hk S f ((l + u) / 2 + 1) u (mid2 lu) h2 (km2 h3 (mid1 lu)) (fun a ha => ?_) hu
        by_cases e : a = (l + u) / 2
        · rw [e]; exact c
        · exact fun z => c (ltlex z (S a ((l + u) / 2) (Nat.lt_of_le_of_ne (Nat.le_of_lt_succ ha) e) m2))
theorem sat_bin {r : Nat → Nat} {n : Nat} : ∀ (f : Nat) (p : Array Nat) (k : Nat), k + f = n → Lo n p k → SP r p k → sat r n (fun p' => Lo n p' n ∧ SP r p' n) (kas_bin f p k)
  | 0, p, k, hf, L, S => by
    obtain rfl : k = n := hf
    exact ⟨L, S⟩
  | f + 1, p, k, hf, L, S => by
    refine sat_bind _ (sat_mono (fun m hm => ?_) _ (sat_place L (ka hf) S k 0 k (Nat.zero_le k) (Nat.le_refl _) (Nat.le_refl _) (fun a ha => absurd ha (Nat.not_lt_zero a)) (fun a ha hk => absurd hk (Nat.not_lt.mpr ha))))
    obtain ⟨mk, hlo, hhi⟩ := hm
    have hs : k < p.size := by rw [L.size]; exact ka hf
    have idk := L.id k (Nat.le_refl _) (ka hf)
    refine sat_bin f _ (k + 1) (kc hf) ⟨(bubble_size _ _ _).trans L.size, fun a ha => ?_, fun a ha hn => ?_, (bubble_perm _ _ _).trans L.perm⟩ ?_
    · rw [gg_bub2 hs mk]
      split
      · rw [idk]; exact Nat.lt_succ_self k
      · rename_i h1
        split
        · rename_i h2
          exact Nat.lt_succ_of_lt (L.low (a - 1) (Nat.lt_of_lt_of_le (Nat.sub_lt (Nat.lt_of_le_of_lt (Nat.zero_le m) h2.1) Nat.one_pos) h2.2))
        · rename_i h2
          exact Nat.lt_succ_of_lt (L.low a (Nat.lt_of_lt_of_le (Nat.lt_of_le_of_ne (Nat.not_lt.mp fun z => h2 ⟨z, Nat.le_of_lt_succ ha⟩) h1) mk))
    · rw [gg_bub2 hs mk, if_neg (Nat.ne_of_gt (Nat.lt_of_le_of_lt mk ha)), if_neg (fun z => Nat.not_le.mpr ha z.2)]
      exact L.id a (Nat.le_of_lt ha) hn
    · intro a b ab hb
      have hbk : b ≤ k := Nat.le_of_lt_succ hb
      have hb1 : b - 1 < k := Nat.lt_of_lt_of_le (Nat.sub_lt (Nat.lt_of_le_of_lt (Nat.zero_le a) ab) Nat.one_pos) hbk
      rw [gg_bub2 hs mk, gg_bub2 hs mk]
      by_cases a1 : a = m
      · have mb : m < b := a1 ▸ ab
        rw [if_pos a1, if_neg (Nat.ne_of_gt mb), if_pos ⟨mb, hbk⟩]
        exact .inl (hhi (b - 1) (Nat.le_sub_one_of_lt mb) hb1)
      · rw [if_neg a1]
        by_cases a2 : m < a ∧ a ≤ k
        · have mb : m < b := Nat.lt_trans a2.1 ab
          rw [if_pos a2, if_neg (Nat.ne_of_gt mb), if_pos ⟨mb, hbk⟩]
          exact S (a - 1) (b - 1) (Nat.sub_lt_sub_right (Nat.lt_of_le_of_lt (Nat.zero_le m) a2.1) ab) hb1
        · rw [if_neg a2]
          have am : a < m := Nat.lt_of_le_of_ne (Nat.not_lt.mp fun z => a2 ⟨z, Nat.le_of_lt (Nat.lt_of_lt_of_le ab hbk)⟩) a1
          have hl := hlo a am
          have lo := L.low a (Nat.lt_of_lt_of_le am mk)
          by_cases b1 : b = m
          · rw [if_pos b1]
            rcases Nat.lt_or_eq_of_le (Nat.not_lt.mp hl) with u | u
            · exact .inl u
            · exact .inr ⟨u, Nat.lt_of_lt_of_eq lo idk.symm⟩
          · rw [if_neg b1]
            by_cases b2 : m < b ∧ b ≤ k
            · rw [if_pos b2]
              exact S a (b - 1) (Nat.lt_of_lt_of_le am (Nat.le_sub_one_of_lt b2.1)) hb1
            · rw [if_neg b2]; exact S a b ab (Nat.lt_of_lt_of_le (Nat.lt_of_le_of_ne (Nat.not_lt.mp fun z => b2 ⟨z, hbk⟩) b1) mk)
theorem gg_range {n m : Nat} (h : m < n) : gg (List.toArray (List.range n)) m = m := by
  simp [gg, Array.getD_eq_getD_getElem?, h]
theorem sat_sort {r : Nat → Nat} {n : Nat} (h1 : 1 ≤ n) : sat r n (fun p => Lo n p n ∧ SP r p n) (kas_sort n) := by
  have L0 : Lo n (List.toArray (List.range n)) 0 := ⟨by simp, fun a ha => absurd ha (Nat.not_lt_zero a), fun m _ hm => gg_range hm, Array.Perm.refl _⟩
  refine sat_bind _ (sat_mono (fun x hx => ?_) _ (sat_count h1 L0))
  obtain ⟨x1, x2, L, S⟩ := hx
  by_cases c : x.1 < n
  · rw [if_pos c]
    have e : max x.1 1 = x.1 := Nat.max_eq_left x1
    rw [e]
    exact sat_bin _ _ _ (Nat.add_sub_cancel' x2) L S
  · rw [if_neg c]
    have e : x.1 = n := Nat.le_antisymm x2 (Nat.not_lt.mp c)
    rw [e] at L S
    exact ⟨L, S⟩
end Mine

-- BB
namespace Mine
theorem Lg.same {but : List Addr} {h₀ h h' : Heap} {news news' : List (Addr × Obj)} {a : Addr} {o o' : Obj} (L : Lg but h₀ h news) (U : SetAt a o o' news news') (hs : Heap.SameBut a h h') (e : h'.get? a = some o') : Lg but h₀ h' news' := by
  have hm := U.mem
  have ha := L.nw _ hm
  refine ⟨fun b ob eb hb => ?_, fun p hp => ?_, by rw [U.keys]; exact L.nd⟩
  · refine (hs.2 b ?_).trans (L.keep b ob eb hb)
    rintro rfl
    rcases ha.2 with q | q
    · exact hb q
    · rw [q] at eb; cases eb
  · rcases U.of L.nd p hp with rfl | ⟨q, q2⟩
    · exact ⟨e, ha.2⟩
    · exact ⟨(hs.2 _ q2).trans (L.nw p q).1, (L.nw p q).2⟩
section
set_option maxRecDepth 100000
set_option maxHeartbeats 0
set_option pp.maxSteps 3000
set_option pp.deepTerms false
local macro_rules | `(tactic| kcf_m) => `(tactic| first | exact upd_eq | (refine upd_ne (by decide +kernel) ?_; kcf_m) | assumption | exact rfl)
local macro_rules | `(tactic| kxf_signs) => `(tactic| ((repeat (first | exact List.Mem.head _ | refine List.Mem.tail _ ?_)); done))
local macro_rules | `(tactic| kfm_signs) => `(tactic| ((repeat (first | (apply SetAt.here; exact rfl) | apply SetAt.there)); done))
local macro_rules | `(tactic| kxf_nat) => `(tactic| first | assumption | exact Lg.base (by assumption) (by assumption) (by decide) | exact (Old.lg (by assumption) (by assumption)).fr _ _ rfl rfl rfl | exact (Old.kb (by assumption) (Lg.kb (by assumption)) (by assumption)).fr _ _ rfl rfl rfl | exact Lg.base0 (by assumption) (by assumption) | exact Lg.base0 (by assumption) ((by assumption : Old _ _).fr _ _ rfl rfl rfl) | exact Lg.hit (by assumption) (by kxf_signs))
local macro_rules | `(tactic| kct_strs) => `(tactic| first
    | with_reducible apply p_sbind
    | with_reducible apply p_bind
    | with_reducible apply p_rule
    | with_reducible apply p_point
    | with_reducible apply p_pure
    | ((with_reducible apply p_load); (case ho => kxf_nat); (any_goals (try exact (Option.none : Option Value))))
    | with_reducible apply p_fresh
    | with_reducible apply p_at
    | with_reducible apply p_ask
    | ((with_reducible apply p_allocFn); (case L => assumption); intro a' h' D')
    | ((with_reducible apply p_allocN); (case L => assumption); (case e => (conv => lhs; reduce); try exact rfl); (case hf => exact rfl); intro a' h' D')
    | ((with_reducible apply p_updateF); (case L => assumption); (case U => kfm_signs); (case e => (conv => lhs; reduce); try exact rfl); (case hf => exact rfl); intro h' D')
    | ((with_reducible apply p_update); (case L => assumption); (case U => kfm_signs); (case e => rfl); (case hf => rfl); intro h' D'))
local macro_rules | `(tactic| ktyn_q) => `(tactic| first
    | kct_strs
    | with_reducible apply p_holding
    | with_reducible apply p_try'
    | with_reducible apply p_try
    | with_reducible apply p_keep
    | with_reducible apply p_attempt
    | kpt_signs
    | ((with_reducible apply p_slot); (case hi => kernel_rfl!))
    | ((with_reducible apply p_iteB); (case hb => kernel_rfl!))
    | ((with_reducible apply p_iteN); (case hb => kernel_rfl!))
    | ((fail_if_success (with_reducible show WP _ _ (eval (Expr.ListComp _ _ _ _) _) _ _ _)); (fail_if_success (with_reducible show WP _ _ (comprehension _ _ _ _ _ _ _ _) _ _ _)); first | ((apply p_load); (case ho => kxf_nat)) | (apply p_fresh) | (apply p_pure) | ((refine' p_see (Bx.mk ?_)); kct_strs) | (apply p_sbind) | (apply p_bind)))
local macro_rules | `(tactic| kpt_signs) => `(tactic| first
    | ((with_reducible apply p_loadNm); (case ho => kxf_nat); (case N => assumption); (case hk => exact rfl); (case hl => kernel_rfl!);  (case e => kcf_m))
    | ((with_reducible apply p_bindName); (case L => assumption); (case hm => kxf_signs); (case N => assumption); (case hl => kernel_rfl!); (case hp => kernel_rfl!); intro h' o' hs' e' N'; have D' := Lg.same (L := by assumption) (U := by kfm_signs) (hs := hs') (e := e'); clear hs' e')
    | ((with_reducible apply p_croom); (case hu => assumption))
    | ((with_reducible apply p_enter); (case nl => exact noLimit (by (show Heap.get? _ _ = _); kxf_nat)); (case dp => first | assumption | exact Shal1.lt (by assumption) | exact Shallow.lt (by assumption) | exact Deep.lt (by assumption) | exact Deep2.lt (by assumption) (by first | exact Nat.le_add_right _ _ | (simp [Around.deeper, Around.mark]; try omega))))
    | (with_reducible apply p_standAt)
    | ((with_reducible apply p_pyIter); (case hl => kxf_nat); (case L => assumption); intro a' h' D')
    | ((with_reducible show WP _ _ (List.mapM mkText (Scope.freeNames _)) _ _ _); first | refine' p_is (m' := List.mapM mkText []) (by kernel_rfl!) ?_))
local macro_rules | `(tactic| tb_start) => `(tactic| first | exact upd_eq | (refine upd_ne (by decide +kernel) ?_; tb_start) | assumption | exact rfl)
local macro_rules | `(tactic| tb_rel) => `(tactic| first
    | (with_reducible first | apply q_return | apply q_ifF | apply q_int | apply q_str | apply q_bool | apply q_bin | apply q_truthyB | apply q_listE | apply q_anil | apply q_call | apply q_knil | apply q_kcons | apply q_target | apply q_add | apply q_sub | apply q_le | apply q_lt | apply q_ge | apply q_gt | apply q_eq | apply q_ne | apply q_nil | apply q_tuple | apply q_isNo | apply q_isYes | apply q_if2 | apply q_try | apply q_ifE | apply q_intB | apply q_partN | apply q_partS)
    | ((with_reducible apply q_assign); (case hs => exact rfl))
    | ((with_reducible apply q_for); (case hs => intro _; exact rfl))
    | ((with_reducible apply q_local); (case V => assumption); (case hl => kernel_rfl!); (case ho => kxf_nat); (case N => assumption); (case e => tb_start); (case hd => kernel_rfl!))
    | ((with_reducible apply q_cell); (case V => assumption); (case hl => kernel_rfl!); (case hc => exact rfl); (case ho => kxf_nat); (case N => assumption); (case hd => kernel_rfl!))
    | ((with_reducible apply q_glob); (case V => assumption); (case hl => kernel_rfl!); (case KR => first | assumption | exact Old.keeps (by assumption) (Lg.keeps (by assumption)) | exact Old.lg (by assumption) (by assumption) | exact Old.kb (by assumption) (Lg.kb (by assumption)) (by assumption)); (case e => exact rfl); (case hd => kernel_rfl!))
    | ((with_reducible apply q_bi); (case V => assumption); (case hl => kernel_rfl!); (case KR => first | assumption | exact Old.keeps (by assumption) (Lg.keeps (by assumption)) | exact Old.lg (by assumption) (by assumption) | exact Old.kb (by assumption) (Lg.kb (by assumption)) (by assumption)); (case e3 => kernel_rfl!); (case e => first | exact bi_sorted | exact bi_len | exact bi_min | exact bi_max | exact bi_range | exact bi_int | exact bi_str | exact bi_iter | exact bi_next | exact bi_sum | exact bi_TypeError | exact bi_StopIteration | exact bi_object); (case hd => kernel_rfl!))
    | ((with_reducible apply q_isCmp); (case hm => exact rfl))
    | ((with_reducible apply q_cmp); (case hm => exact rfl))
    | ((with_reducible apply q_acons); (case he => exact rfl))
    | ((with_reducible apply q_cwB); (case he => exact rfl); (case hp => exact rfl))
    | ((with_reducible apply q_cwK); (case he => exact rfl); (case hplain => exact rfl); (case hall => exact rfl); (case hkw => exact rfl))
    | ((with_reducible apply q_store); (case V => assumption); (case hl => kernel_rfl!); (case D => assumption); (case hm => kxf_signs); (case N => assumption); intro h' o' hs' e' N'; have D' := Lg.same (L := by assumption) (U := by kfm_signs) (hs := hs') (e := e'); clear hs' e')
    | ((with_reducible apply q_storeC); (case V => assumption); (case hl => kernel_rfl!); (case hc => exact rfl); (case D => assumption); (case hm => kxf_signs); (case N => assumption); intro h' o' hs' e' N'; have D' := Lg.same (L := by assumption) (U := by kfm_signs) (hs := hs') (e := e'); clear hs' e')
    | ((with_reducible apply listEnd); (case D => assumption); (case hz => (first | decide | (simp [sizeLine_eq]; done) | (simp [sizeLine_eq]; omega))); intro a' h' D')
    | ((with_reducible apply q_slice); (case ht => intro _ _; exact rfl))
    | (with_reducible apply q_subs)
    | ((with_reducible apply q_lenM); (case hl => kxf_nat); (case hf => omega))
    | ((with_reducible apply q_addL); (case D => assumption); (case ha => kxf_nat); (case hb => kxf_nat); (case hz => simp [sizeLine_eq]; omega); intro a' h' D')
    | ((with_reducible apply sliceTo); (case D => assumption); (case hl => kxf_nat); (case hz => simp [sizeLine_eq]; omega); (case hb => simp; try omega); intro a' h' D')
    | ((with_reducible apply sliceFrom); (case D => assumption); (case hl => kxf_nat); (case hz => simp [sizeLine_eq]; omega); (case hb => simp; try omega); intro a' h' D')
    | ((with_reducible apply q_cwTy); (case he => exact rfl); (case hp => exact rfl))
    | ((with_reducible apply tupEnd); (case D => assumption); (case hz => simp [sizeLine_eq]); intro a' h' D')
    | ((with_reducible apply q_neL); (case hu => assumption); (case ha => kxf_nat); (case hb => kxf_nat))
    | ((with_reducible apply q_neE); (case hu => assumption); (case ha => kxf_nat); (case hb => kxf_nat))
    | ((with_reducible apply q_iter); (case D => assumption); (case hl => kxf_nat); intro a' h' D')
    | ((with_reducible apply q_expr); (case V => assumption))
    | ((with_reducible apply q_mod); (case hb => decide))
    | ((with_reducible apply q_free); (case V => assumption); (case hl => kernel_rfl!); (case hc => exact rfl); (case ho => kxf_nat); (case N => exact rfl); (case hn => decide); (case hd => kernel_rfl!))
    | ((with_reducible apply q_attr); (case ho => exact rfl); (case ht => intro _ _; exact rfl))
    | ((with_reducible apply q_mul); (case hm => exact IntMulOk.of_left (by decide +kernel)))
    | ((with_reducible apply p_pyIter); (case hl => kxf_nat); (case L => assumption); intro a' h' D'))

theorem way_0 (w : World) (A : Around) (S : Shal1 A) (h g d tk os) (KR : Old w h) (x y : Int) (t u : Tok) (Q : Value → Shared → Prop) (E : Value → Shared → Prop)
   (hq : ∀ h' tk' t', Keeps h h' → Q (.int (wayF 0 x y) t') ⟨h', g, d, tk', os⟩) :
   wpAny (model PG w) A (PySem.call (.ref 37) [.int x t, .int y u]) Q E ⟨h, g, d, tk, os⟩ := by
  have D := Lg.start h
  have h2 := KR.fr 2 _ rfl rfl rfl
  have h30 := KR.fr 37 _ rfl rfl rfl
  have h3 := KR.fr 3 _ rfl rfl rfl
  refine wpAny_call (codeAny_of_tree ?_)
  show wpAny (model PG w) A.in1 (callAny (.ref 37) ⟨[.int x t, .int y u], []⟩) _ _ _
  refine WP.out (WP.noE fun EE => ?_)
  repeat ktyn_q
  rename_i fr hfr Dfr hp Dp hp2 Dp2
  obtain ⟨oL, N0, D5⟩ : ∃ oL, NsO oL (upd (upd noNames (Str.ofString "one") (.int x t)) (Str.ofString "other") (.int y u)) ∧ Lg [] h hp2 [(fr, oL)] := ⟨_, nsO_put (nsO_put nsO_empty'), Dp2⟩
  clear D Dfr Dp Dp2 h30 h3 h2
  refine ⟨rfl, enter (fun env => EnvOK env fr [(Str.ofString "one", .local), (Str.ofString "other", .local)] []) ⟨rfl, rfl, rfl, rfl, rfl, rfl⟩ fun env V => ?_⟩
  refine WP.out (WP.noE fun EE => ?_)
  repeat tb_rel
  exact hq _ _ _ D5.keeps
theorem way_1 (w : World) (A : Around) (S : Shal1 A) (h g d tk os) (KR : Old w h) (x y : Int) (t u : Tok) (Q : Value → Shared → Prop) (E : Value → Shared → Prop)
   (hq : ∀ h' tk' t', Keeps h h' → Q (.int (wayF 1 x y) t') ⟨h', g, d, tk', os⟩) :
   wpAny (model PG w) A (PySem.call (.ref 44) [.int x t, .int y u]) Q E ⟨h, g, d, tk, os⟩ := by
  have D := Lg.start h
  have h2 := KR.fr 2 _ rfl rfl rfl
  have h30 := KR.fr 44 _ rfl rfl rfl
  have h3 := KR.fr 3 _ rfl rfl rfl
  refine wpAny_call (codeAny_of_tree ?_)
  show wpAny (model PG w) A.in1 (callAny (.ref 44) ⟨[.int x t, .int y u], []⟩) _ _ _
  refine WP.out (WP.noE fun EE => ?_)
  repeat ktyn_q
  rename_i fr hfr Dfr hp Dp hp2 Dp2
  obtain ⟨oL, N0, D5⟩ : ∃ oL, NsO oL (upd (upd noNames (Str.ofString "one") (.int x t)) (Str.ofString "other") (.int y u)) ∧ Lg [] h hp2 [(fr, oL)] := ⟨_, nsO_put (nsO_put nsO_empty'), Dp2⟩
  clear D Dfr Dp Dp2 h30 h3 h2
  refine ⟨rfl, enter (fun env => EnvOK env fr [(Str.ofString "one", .local), (Str.ofString "other", .local)] []) ⟨rfl, rfl, rfl, rfl, rfl, rfl⟩ fun env V => ?_⟩
  refine WP.out (WP.noE fun EE => ?_)
  repeat tb_rel
  exact hq _ _ _ D5.keeps
theorem way_2 (w : World) (A : Around) (S : Shal1 A) (h g d tk os) (KR : Old w h) (x y : Int) (t u : Tok) (Q : Value → Shared → Prop) (E : Value → Shared → Prop)
   (hq : ∀ h' tk' t', Keeps h h' → Q (.int (wayF 2 x y) t') ⟨h', g, d, tk', os⟩) :
   wpAny (model PG w) A (PySem.call (.ref 51) [.int x t, .int y u]) Q E ⟨h, g, d, tk, os⟩ := by
  have D := Lg.start h
  have h2 := KR.fr 2 _ rfl rfl rfl
  have h30 := KR.fr 51 _ rfl rfl rfl
  have h3 := KR.fr 3 _ rfl rfl rfl
  refine wpAny_call (codeAny_of_tree ?_)
  show wpAny (model PG w) A.in1 (callAny (.ref 51) ⟨[.int x t, .int y u], []⟩) _ _ _
  refine WP.out (WP.noE fun EE => ?_)
  repeat ktyn_q
  rename_i fr hfr Dfr hp Dp hp2 Dp2
  obtain ⟨oL, N0, D5⟩ : ∃ oL, NsO oL (upd (upd noNames (Str.ofString "one") (.int x t)) (Str.ofString "other") (.int y u)) ∧ Lg [] h hp2 [(fr, oL)] := ⟨_, nsO_put (nsO_put nsO_empty'), Dp2⟩
  clear D Dfr Dp Dp2 h30 h3 h2
  refine ⟨rfl, enter (fun env => EnvOK env fr [(Str.ofString "one", .local), (Str.ofString "other", .local), (Str.ofString "int", .globalImplicit)] []) ⟨rfl, rfl, rfl, rfl, rfl, rfl⟩ fun env V => ?_⟩
  refine WP.out (WP.noE fun EE => ?_)
  repeat tb_rel
  by_cases hyx : y < x
  · refine WP.id' ?_
    rw [decide_eq_true hyx, if_pos rfl]
    repeat tb_rel
    have e : wayF 2 x y = 10 * (x.fmod 3 - y.fmod 3) + 1 := by simp only [wayF, if_pos hyx]
    rw [e] at hq
    exact hq _ _ _ D5.keeps
  · refine WP.id' ?_
    rw [decide_eq_false hyx, if_neg Bool.false_ne_true]
    repeat tb_rel
    have e : wayF 2 x y = 10 * (x.fmod 3 - y.fmod 3) + (0 - (if decide (x < y) = true then 1 else 0)) := by simp only [wayF, if_neg hyx, decide_eq_true_eq]
    rw [e] at hq
    exact hq _ _ _ D5.keeps
theorem way_any (w : World) (A : Around) (S : Shal1 A) (j : Nat) (hj : j < 3) (h g d tk os) (KR : Old w h) (x y : Int) (t u : Tok) (Q : Value → Shared → Prop) (E : Value → Shared → Prop)
   (hq : ∀ h' tk' t', Keeps h h' → Q (.int (wayF j x y) t') ⟨h', g, d, tk', os⟩) :
   wpAny (model PG w) A (PySem.call (.ref (wayA j)) [.int x t, .int y u]) Q E ⟨h, g, d, tk, os⟩ :=
  match j, hj with
  | 0, _ => way_0 w A S h g d tk os KR x y t u Q E hq
  | 1, _ => way_1 w A S h g d tk os KR x y t u Q E hq
  | 2, _ => way_2 w A S h g d tk os KR x y t u Q E hq
theorem wayW (w : World) (A : Around) (S : Shallow A) (j : Nat) (hj : j < 3) (h g d tk os) (KR : Old w h) (x y : Int) (t u : Tok) (Q : Value → Shared → Prop) (E : Value → Shared → Prop)
   (hq : ∀ h' tk' t', Keeps h h' → Q (.int (wayF j x y) t') ⟨h', g, d, tk', os⟩) :
   wpAny (model PG w) A (PySem.call (.ref (wayA j)) [.int x t, .int y u]) Q E ⟨h, g, d, tk, os⟩ := way_any w A (Shal1.of S) j hj h g d tk os KR x y t u Q E hq
theorem call1 (w : World) (A : Around) (S : Shallow A) (j : Nat) (hj : j < 3) (h g d tk os) (KR : Old w h) (T : TD) (HT : TabOK w h T) (K : KD) (H : KOK w h T K (.ref (wayA j))) (a b da db : Addr) (x y : Int) (t u : Tok)
   (ha : h.get? a = some (oInst K.C da x t)) (hb : h.get? b = some (oInst K.C db y u)) (Q : Value → Shared → Prop) (E : Value → Shared → Prop)
   (hq : ∀ h' tk', Keeps h h' → Q (.bool (decide (wayF j x y < 0))) ⟨h', g, d, tk', os⟩) :
   wpAny (model PG w) A (PySem.call (.ref K.f1) [.ref a, .ref b]) Q E ⟨h, g, d, tk, os⟩ := by
  have D := Lg.start h
  have h2 := KR.fr 2 _ rfl rfl rfl
  have h3 := KR.fr 3 _ rfl rfl rfl
  have f1 := H.f1 _ rfl
  have c1 := HT.c1
  have hcell := H.hcell
  refine wpAny_call (codeAny_of_tree ?_)
  show wpAny (model PG w) A.in1 (callAny (.ref K.f1) ⟨[.ref a, .ref b], []⟩) _ _ _
  refine WP.out (WP.noE fun EE => ?_)
  repeat ktyn_q
  rename_i fr hfr Dfr hp Dp hp2 Dp2
  obtain ⟨oL, N0, D5⟩ : ∃ oL, NsO oL (upd (upd noNames (Str.ofString "self") (.ref a)) (Str.ofString "other") (.ref b)) ∧ Lg [] h hp2 [(fr, oL)] := ⟨_, nsO_put (nsO_put nsO_empty'), Dp2⟩
  clear D Dfr Dp Dp2 f1 c1 h3 h2
  refine ⟨rfl, enter (fun env => EnvOK env fr [(Str.ofString "self", .local), (Str.ofString "other", .local), (Str.ofString "mycmp", .free)] [(Str.ofString "mycmp", K.cell)]) ⟨rfl, rfl, rfl, rfl, rfl, rfl⟩ fun env V => ?_⟩
  refine WP.out (WP.noE fun EE => ?_)
  generalize hA : A.deeper env = A1
  have S1 : Shal1 A1 := hA ▸ Shal1.deeper S env
  clear hA
  have e1 := D5.keeps _ _ hcell
  repeat tb_rel
  refine q_cwT (topWay w hj) rfl ?_
  repeat tb_rel
  refine WP.mk (attr_obj w A1 S1 hp2 g d _ os (KR.keeps D5.keeps) T K _ (H.keeps D5.keeps) a da x t (D5.keeps _ _ ha) _ _ fun h3 tk3 k3 => ?_)
  have D6 := D5.grow k3
  clear D5 e1
  repeat tb_rel
  refine WP.mk (attr_obj w A1 S1 h3 g d _ os (KR.keeps D6.keeps) T K _ (H.keeps D6.keeps) b db y u (D6.keeps _ _ hb) _ _ fun h4 tk4 k4 => ?_)
  have k7 : Keeps h h4 := fun b o e => k4 b o (D6.keeps b o e)
  clear D6
  repeat tb_rel
  refine ⟨KR.keeps k7, way_any w A1 S1 j hj h4 g d _ os (KR.keeps k7) x y t u _ _ fun h5 tk5 t5 k5 => ?_⟩
  repeat tb_rel
  exact hq _ _ fun b o e => k5 b o (k7 b o e)
theorem call2 (w : World) (A : Around) (S : Shallow A) (j : Nat) (hj : j < 3) (h g d tk os) (KR : Old w h) (T : TD) (HT : TabOK w h T) (K : KD) (H : KOK w h T K (.ref (wayA j))) (a b da db : Addr) (x y : Int) (t u : Tok)
   (ha : h.get? a = some (oInst K.C da x t)) (hb : h.get? b = some (oInst K.C db y u)) (Q : Value → Shared → Prop) (E : Value → Shared → Prop)
   (hq : ∀ h' tk', Keeps h h' → Q (.bool (decide (0 < wayF j x y))) ⟨h', g, d, tk', os⟩) :
   wpAny (model PG w) A (PySem.call (.ref K.f2) [.ref a, .ref b]) Q E ⟨h, g, d, tk, os⟩ := by
  have D := Lg.start h
  have h2 := KR.fr 2 _ rfl rfl rfl
  have h3 := KR.fr 3 _ rfl rfl rfl
  have f1 := H.f2 _ rfl
  have c1 := HT.c2
  have hcell := H.hcell
  refine wpAny_call (codeAny_of_tree ?_)
  show wpAny (model PG w) A.in1 (callAny (.ref K.f2) ⟨[.ref a, .ref b], []⟩) _ _ _
  refine WP.out (WP.noE fun EE => ?_)
  repeat ktyn_q
  rename_i fr hfr Dfr hp Dp hp2 Dp2
  obtain ⟨oL, N0, D5⟩ : ∃ oL, NsO oL (upd (upd noNames (Str.ofString "self") (.ref a)) (Str.ofString "other") (.ref b)) ∧ Lg [] h hp2 [(fr, oL)] := ⟨_, nsO_put (nsO_put nsO_empty'), Dp2⟩
  clear D Dfr Dp Dp2 f1 c1 h3 h2
  refine ⟨rfl, enter (fun env => EnvOK env fr [(Str.ofString "self", .local), (Str.ofString "other", .local), (Str.ofString "mycmp", .free)] [(Str.ofString "mycmp", K.cell)]) ⟨rfl, rfl, rfl, rfl, rfl, rfl⟩ fun env V => ?_⟩
  refine WP.out (WP.noE fun EE => ?_)
  generalize hA : A.deeper env = A1
  have S1 : Shal1 A1 := hA ▸ Shal1.deeper S env
  clear hA
  have e1 := D5.keeps _ _ hcell
  repeat tb_rel
  refine q_cwT (topWay w hj) rfl ?_
  repeat tb_rel
  refine WP.mk (attr_obj w A1 S1 hp2 g d _ os (KR.keeps D5.keeps) T K _ (H.keeps D5.keeps) a da x t (D5.keeps _ _ ha) _ _ fun h3 tk3 k3 => ?_)
  have D6 := D5.grow k3
  clear D5 e1
  repeat tb_rel
  refine WP.mk (attr_obj w A1 S1 h3 g d _ os (KR.keeps D6.keeps) T K _ (H.keeps D6.keeps) b db y u (D6.keeps _ _ hb) _ _ fun h4 tk4 k4 => ?_)
  have k7 : Keeps h h4 := fun b o e => k4 b o (D6.keeps b o e)
  clear D6
  repeat tb_rel
  refine ⟨KR.keeps k7, way_any w A1 S1 j hj h4 g d _ os (KR.keeps k7) x y t u _ _ fun h5 tk5 t5 k5 => ?_⟩
  repeat tb_rel
  exact hq _ _ fun b o e => k5 b o (k7 b o e)
theorem call3 (w : World) (A : Around) (S : Shallow A) (j : Nat) (hj : j < 3) (h g d tk os) (KR : Old w h) (T : TD) (HT : TabOK w h T) (K : KD) (H : KOK w h T K (.ref (wayA j))) (a b da db : Addr) (x y : Int) (t u : Tok)
   (ha : h.get? a = some (oInst K.C da x t)) (hb : h.get? b = some (oInst K.C db y u)) (Q : Value → Shared → Prop) (E : Value → Shared → Prop)
   (hq : ∀ h' tk', Keeps h h' → Q (.bool (decide (wayF j x y = 0))) ⟨h', g, d, tk', os⟩) :
   wpAny (model PG w) A (PySem.call (.ref K.f3) [.ref a, .ref b]) Q E ⟨h, g, d, tk, os⟩ := by
  have D := Lg.start h
  have h2 := KR.fr 2 _ rfl rfl rfl
  have h3 := KR.fr 3 _ rfl rfl rfl
  have f1 := H.f3 _ rfl
  have c1 := HT.c3
  have hcell := H.hcell
  refine wpAny_call (codeAny_of_tree ?_)
  show wpAny (model PG w) A.in1 (callAny (.ref K.f3) ⟨[.ref a, .ref b], []⟩) _ _ _
  refine WP.out (WP.noE fun EE => ?_)
  repeat ktyn_q
  rename_i fr hfr Dfr hp Dp hp2 Dp2
  obtain ⟨oL, N0, D5⟩ : ∃ oL, NsO oL (upd (upd noNames (Str.ofString "self") (.ref a)) (Str.ofString "other") (.ref b)) ∧ Lg [] h hp2 [(fr, oL)] := ⟨_, nsO_put (nsO_put nsO_empty'), Dp2⟩
  clear D Dfr Dp Dp2 f1 c1 h3 h2
  refine ⟨rfl, enter (fun env => EnvOK env fr [(Str.ofString "self", .local), (Str.ofString "other", .local), (Str.ofString "mycmp", .free)] [(Str.ofString "mycmp", K.cell)]) ⟨rfl, rfl, rfl, rfl, rfl, rfl⟩ fun env V => ?_⟩
  refine WP.out (WP.noE fun EE => ?_)
  generalize hA : A.deeper env = A1
  have S1 : Shal1 A1 := hA ▸ Shal1.deeper S env
  clear hA
  have e1 := D5.keeps _ _ hcell
  repeat tb_rel
  refine q_cwT (topWay w hj) rfl ?_
  repeat tb_rel
  refine WP.mk (attr_obj w A1 S1 hp2 g d _ os (KR.keeps D5.keeps) T K _ (H.keeps D5.keeps) a da x t (D5.keeps _ _ ha) _ _ fun h3 tk3 k3 => ?_)
  have D6 := D5.grow k3
  clear D5 e1
  repeat tb_rel
  refine WP.mk (attr_obj w A1 S1 h3 g d _ os (KR.keeps D6.keeps) T K _ (H.keeps D6.keeps) b db y u (D6.keeps _ _ hb) _ _ fun h4 tk4 k4 => ?_)
  have k7 : Keeps h h4 := fun b o e => k4 b o (D6.keeps b o e)
  clear D6
  repeat tb_rel
  refine ⟨KR.keeps k7, way_any w A1 S1 j hj h4 g d _ os (KR.keeps k7) x y t u _ _ fun h5 tk5 t5 k5 => ?_⟩
  repeat tb_rel
  exact hq _ _ fun b o e => k5 b o (k7 b o e)
theorem call4 (w : World) (A : Around) (S : Shallow A) (j : Nat) (hj : j < 3) (h g d tk os) (KR : Old w h) (T : TD) (HT : TabOK w h T) (K : KD) (H : KOK w h T K (.ref (wayA j))) (a b da db : Addr) (x y : Int) (t u : Tok)
   (ha : h.get? a = some (oInst K.C da x t)) (hb : h.get? b = some (oInst K.C db y u)) (Q : Value → Shared → Prop) (E : Value → Shared → Prop)
   (hq : ∀ h' tk', Keeps h h' → Q (.bool (decide (wayF j x y ≤ 0))) ⟨h', g, d, tk', os⟩) :
   wpAny (model PG w) A (PySem.call (.ref K.f4) [.ref a, .ref b]) Q E ⟨h, g, d, tk, os⟩ := by
  have D := Lg.start h
  have h2 := KR.fr 2 _ rfl rfl rfl
  have h3 := KR.fr 3 _ rfl rfl rfl
  have f1 := H.f4 _ rfl
  have c1 := HT.c4
  have hcell := H.hcell
  refine wpAny_call (codeAny_of_tree ?_)
  show wpAny (model PG w) A.in1 (callAny (.ref K.f4) ⟨[.ref a, .ref b], []⟩) _ _ _
  refine WP.out (WP.noE fun EE => ?_)
  repeat ktyn_q
  rename_i fr hfr Dfr hp Dp hp2 Dp2
  obtain ⟨oL, N0, D5⟩ : ∃ oL, NsO oL (upd (upd noNames (Str.ofString "self") (.ref a)) (Str.ofString "other") (.ref b)) ∧ Lg [] h hp2 [(fr, oL)] := ⟨_, nsO_put (nsO_put nsO_empty'), Dp2⟩
  clear D Dfr Dp Dp2 f1 c1 h3 h2
  refine ⟨rfl, enter (fun env => EnvOK env fr [(Str.ofString "self", .local), (Str.ofString "other", .local), (Str.ofString "mycmp", .free)] [(Str.ofString "mycmp", K.cell)]) ⟨rfl, rfl, rfl, rfl, rfl, rfl⟩ fun env V => ?_⟩
  refine WP.out (WP.noE fun EE => ?_)
  generalize hA : A.deeper env = A1
  have S1 : Shal1 A1 := hA ▸ Shal1.deeper S env
  clear hA
  have e1 := D5.keeps _ _ hcell
  repeat tb_rel
  refine q_cwT (topWay w hj) rfl ?_
  repeat tb_rel
  refine WP.mk (attr_obj w A1 S1 hp2 g d _ os (KR.keeps D5.keeps) T K _ (H.keeps D5.keeps) a da x t (D5.keeps _ _ ha) _ _ fun h3 tk3 k3 => ?_)
  have D6 := D5.grow k3
  clear D5 e1
  repeat tb_rel
  refine WP.mk (attr_obj w A1 S1 h3 g d _ os (KR.keeps D6.keeps) T K _ (H.keeps D6.keeps) b db y u (D6.keeps _ _ hb) _ _ fun h4 tk4 k4 => ?_)
  have k7 : Keeps h h4 := fun b o e => k4 b o (D6.keeps b o e)
  clear D6
  repeat tb_rel
  refine ⟨KR.keeps k7, way_any w A1 S1 j hj h4 g d _ os (KR.keeps k7) x y t u _ _ fun h5 tk5 t5 k5 => ?_⟩
  repeat tb_rel
  exact hq _ _ fun b o e => k5 b o (k7 b o e)
theorem call5 (w : World) (A : Around) (S : Shallow A) (j : Nat) (hj : j < 3) (h g d tk os) (KR : Old w h) (T : TD) (HT : TabOK w h T) (K : KD) (H : KOK w h T K (.ref (wayA j))) (a b da db : Addr) (x y : Int) (t u : Tok)
   (ha : h.get? a = some (oInst K.C da x t)) (hb : h.get? b = some (oInst K.C db y u)) (Q : Value → Shared → Prop) (E : Value → Shared → Prop)
   (hq : ∀ h' tk', Keeps h h' → Q (.bool (decide (0 ≤ wayF j x y))) ⟨h', g, d, tk', os⟩) :
   wpAny (model PG w) A (PySem.call (.ref K.f5) [.ref a, .ref b]) Q E ⟨h, g, d, tk, os⟩ := by
  have D := Lg.start h
  have h2 := KR.fr 2 _ rfl rfl rfl
  have h3 := KR.fr 3 _ rfl rfl rfl
  have f1 := H.f5 _ rfl
  have c1 := HT.c5
  have hcell := H.hcell
  refine wpAny_call (codeAny_of_tree ?_)
  show wpAny (model PG w) A.in1 (callAny (.ref K.f5) ⟨[.ref a, .ref b], []⟩) _ _ _
  refine WP.out (WP.noE fun EE => ?_)
  repeat ktyn_q
  rename_i fr hfr Dfr hp Dp hp2 Dp2
  obtain ⟨oL, N0, D5⟩ : ∃ oL, NsO oL (upd (upd noNames (Str.ofString "self") (.ref a)) (Str.ofString "other") (.ref b)) ∧ Lg [] h hp2 [(fr, oL)] := ⟨_, nsO_put (nsO_put nsO_empty'), Dp2⟩
  clear D Dfr Dp Dp2 f1 c1 h3 h2
  refine ⟨rfl, enter (fun env => EnvOK env fr [(Str.ofString "self", .local), (Str.ofString "other", .local), (Str.ofString "mycmp", .free)] [(Str.ofString "mycmp", K.cell)]) ⟨rfl, rfl, rfl, rfl, rfl, rfl⟩ fun env V => ?_⟩
  refine WP.out (WP.noE fun EE => ?_)
  generalize hA : A.deeper env = A1
  have S1 : Shal1 A1 := hA ▸ Shal1.deeper S env
  clear hA
  have e1 := D5.keeps _ _ hcell
  repeat tb_rel
  refine q_cwT (topWay w hj) rfl ?_
  repeat tb_rel
  refine WP.mk (attr_obj w A1 S1 hp2 g d _ os (KR.keeps D5.keeps) T K _ (H.keeps D5.keeps) a da x t (D5.keeps _ _ ha) _ _ fun h3 tk3 k3 => ?_)
  have D6 := D5.grow k3
  clear D5 e1
  repeat tb_rel
  refine WP.mk (attr_obj w A1 S1 h3 g d _ os (KR.keeps D6.keeps) T K _ (H.keeps D6.keeps) b db y u (D6.keeps _ _ hb) _ _ fun h4 tk4 k4 => ?_)
  have k7 : Keeps h h4 := fun b o e => k4 b o (D6.keeps b o e)
  clear D6
  repeat tb_rel
  refine ⟨KR.keeps k7, way_any w A1 S1 j hj h4 g d _ os (KR.keeps k7) x y t u _ _ fun h5 tk5 t5 k5 => ?_⟩
  repeat tb_rel
  exact hq _ _ fun b o e => k5 b o (k7 b o e)
theorem richW1 (w : World) (A : Around) (S : Shallow A) (j : Nat) (hj : j < 3) (h g d tk os) (KR : Old w h) (T : TD) (HT : TabOK w h T) (K : KD) (H : KOK w h T K (.ref (wayA j))) (a b da db : Addr) (x y : Int) (t u : Tok)
   (ha : h.get? a = some (oInst K.C da x t)) (hb : h.get? b = some (oInst K.C db y u)) (Q : Value → Shared → Prop) (E : Value → Shared → Prop)
   (hq : ∀ h' tk', Keeps h h' → Q (.bool (decide (wayF j x y < 0))) ⟨h', g, d, tk', os⟩) :
   wpAny (model PG w) A (richCompare .Lt (.ref a) (.ref b)) Q E ⟨h, g, d, tk, os⟩ :=
  rich1 w A (shU S) h g d tk os KR T K _ H a b da db x y t u ha hb Q E (call1 w A S j hj h g d tk os KR T HT K H a b da db x y t u ha hb _ _ fun h' tk' k => ⟨_, rfl, hq h' tk' k⟩)
theorem richW2 (w : World) (A : Around) (S : Shallow A) (j : Nat) (hj : j < 3) (h g d tk os) (KR : Old w h) (T : TD) (HT : TabOK w h T) (K : KD) (H : KOK w h T K (.ref (wayA j))) (a b da db : Addr) (x y : Int) (t u : Tok)
   (ha : h.get? a = some (oInst K.C da x t)) (hb : h.get? b = some (oInst K.C db y u)) (Q : Value → Shared → Prop) (E : Value → Shared → Prop)
   (hq : ∀ h' tk', Keeps h h' → Q (.bool (decide (0 < wayF j x y))) ⟨h', g, d, tk', os⟩) :
   wpAny (model PG w) A (richCompare .Gt (.ref a) (.ref b)) Q E ⟨h, g, d, tk, os⟩ :=
  rich2 w A (shU S) h g d tk os KR T K _ H a b da db x y t u ha hb Q E (call2 w A S j hj h g d tk os KR T HT K H a b da db x y t u ha hb _ _ fun h' tk' k => ⟨_, rfl, hq h' tk' k⟩)
theorem richW3 (w : World) (A : Around) (S : Shallow A) (j : Nat) (hj : j < 3) (h g d tk os) (KR : Old w h) (T : TD) (HT : TabOK w h T) (K : KD) (H : KOK w h T K (.ref (wayA j))) (a b da db : Addr) (x y : Int) (t u : Tok)
   (ha : h.get? a = some (oInst K.C da x t)) (hb : h.get? b = some (oInst K.C db y u)) (Q : Value → Shared → Prop) (E : Value → Shared → Prop)
   (hq : ∀ h' tk', Keeps h h' → Q (.bool (decide (wayF j x y = 0))) ⟨h', g, d, tk', os⟩) :
   wpAny (model PG w) A (richCompare .Eq (.ref a) (.ref b)) Q E ⟨h, g, d, tk, os⟩ :=
  rich3 w A (shU S) h g d tk os KR T K _ H a b da db x y t u ha hb Q E (call3 w A S j hj h g d tk os KR T HT K H a b da db x y t u ha hb _ _ fun h' tk' k => ⟨_, rfl, hq h' tk' k⟩)
theorem richW4 (w : World) (A : Around) (S : Shallow A) (j : Nat) (hj : j < 3) (h g d tk os) (KR : Old w h) (T : TD) (HT : TabOK w h T) (K : KD) (H : KOK w h T K (.ref (wayA j))) (a b da db : Addr) (x y : Int) (t u : Tok)
   (ha : h.get? a = some (oInst K.C da x t)) (hb : h.get? b = some (oInst K.C db y u)) (Q : Value → Shared → Prop) (E : Value → Shared → Prop)
   (hq : ∀ h' tk', Keeps h h' → Q (.bool (decide (wayF j x y ≤ 0))) ⟨h', g, d, tk', os⟩) :
   wpAny (model PG w) A (richCompare .LtE (.ref a) (.ref b)) Q E ⟨h, g, d, tk, os⟩ :=
  rich4 w A (shU S) h g d tk os KR T K _ H a b da db x y t u ha hb Q E (call4 w A S j hj h g d tk os KR T HT K H a b da db x y t u ha hb _ _ fun h' tk' k => ⟨_, rfl, hq h' tk' k⟩)
theorem richW5 (w : World) (A : Around) (S : Shallow A) (j : Nat) (hj : j < 3) (h g d tk os) (KR : Old w h) (T : TD) (HT : TabOK w h T) (K : KD) (H : KOK w h T K (.ref (wayA j))) (a b da db : Addr) (x y : Int) (t u : Tok)
   (ha : h.get? a = some (oInst K.C da x t)) (hb : h.get? b = some (oInst K.C db y u)) (Q : Value → Shared → Prop) (E : Value → Shared → Prop)
   (hq : ∀ h' tk', Keeps h h' → Q (.bool (decide (0 ≤ wayF j x y))) ⟨h', g, d, tk', os⟩) :
   wpAny (model PG w) A (richCompare .GtE (.ref a) (.ref b)) Q E ⟨h, g, d, tk, os⟩ :=
  rich5 w A (shU S) h g d tk os KR T K _ H a b da db x y t u ha hb Q E (call5 w A S j hj h g d tk os KR T HT K H a b da db x y t u ha hb _ _ fun h' tk' k => ⟨_, rfl, hq h' tk' k⟩)
theorem keyLtW (w : World) (A : Around) (S : Shallow A) (j : Nat) (hj : j < 3) (h g d tk os) (KR : Old w h) (T : TD) (HT : TabOK w h T) (K : KD) (H : KOK w h T K (.ref (wayA j))) (a b da db : Addr) (x y : Int) (t u : Tok)
   (ha : h.get? a = some (oInst K.C da x t)) (hb : h.get? b = some (oInst K.C db y u)) (Q : Bool → Shared → Prop) (E : Value → Shared → Prop)
   (hq : ∀ h' tk', Keeps h h' → Q (decide (wayF j x y < 0)) ⟨h', g, d, tk', os⟩) :
   wpAny (model PG w) A (keyLt' oneType' (.ref a) (.ref b)) Q E ⟨h, g, d, tk, os⟩ := by
  rw [keyLt'_oneType, oneLt'_eq]
  simp only [if_true]
  refine wpAny_bind (wpAny_cRoomFor (shU S) ?_)
  refine wpAny_bind (special1 w A (shU S) h g d tk os KR T K _ H a b da x t ha _ _ (call1 w A S j hj h g d tk os KR T HT K H a b da db x y t u ha hb _ _ fun h' tk' k => ?_))
  exact wpAny_truthy_bool (hq h' tk' k)
section
set_option maxHeartbeats 200000
set_option maxRecDepth 512
theorem wayF_anti (j : Nat) (x y : Int) : wayF j y x = - wayF j x y := by
  match j with
  | 0 => simp only [wayF]; omega
  | 1 => simp only [wayF]; omega
  | j + 2 =>
    simp only [wayF]
    by_cases h1 : x < y
    · rw [if_pos h1, if_neg (show ¬ y < x by omega), if_pos h1]; omega
    · rw [if_neg h1]
      by_cases h2 : y < x
      · rw [if_pos h2, if_pos h2]; omega
      · rw [if_neg h2, if_neg h2, if_neg h1]; omega
theorem wayF_trans (j : Nat) {x y z : Int} (h1 : wayF j x y ≤ 0) (h2 : wayF j y z ≤ 0) : wayF j x z ≤ 0 := by
  match j with
  | 0 => simp only [wayF] at *; omega
  | 1 => simp only [wayF] at *; omega
  | j + 2 =>
    simp only [wayF] at *
    rw [Int.fmod_eq_emod_of_nonneg _ (by decide), Int.fmod_eq_emod_of_nonneg _ (by decide)] at *
    have a1 := Int.emod_nonneg x (show (3 : Int) ≠ 0 by decide)
    have a2 := Int.emod_lt_of_pos x (show (0 : Int) < 3 by decide)
    have b1 := Int.emod_nonneg y (show (3 : Int) ≠ 0 by decide)
    have b2 := Int.emod_lt_of_pos y (show (0 : Int) < 3 by decide)
    have c1 := Int.emod_nonneg z (show (3 : Int) ≠ 0 by decide)
    have c2 := Int.emod_lt_of_pos z (show (0 : Int) < 3 by decide)
    generalize x % 3 = a at *
    generalize y % 3 = b at *
    generalize z % 3 = c at *
    split at h1 <;> split at h2 <;> split <;> (try split at h1) <;> (try split at h2) <;> (try split) <;> omega
theorem wayF_lt_le {j : Nat} {x y z : Int} (h1 : wayF j x y < 0) (h2 : wayF j y z ≤ 0) : wayF j x z < 0 := by
  have a := wayF_trans j (Int.le_of_lt h1) h2
  have b := wayF_anti j x y
  have c := wayF_anti j x z
  by_cases q : wayF j x z = 0
  · have := wayF_trans j h2 (show wayF j z x ≤ 0 by omega)
    omega
  · omega
theorem wayF_le_lt {j : Nat} {x y z : Int} (h1 : wayF j x y ≤ 0) (h2 : wayF j y z < 0) : wayF j x z < 0 := by
  have a := wayF_trans j h1 (Int.le_of_lt h2)
  have b := wayF_anti j y z
  have c := wayF_anti j x z
  by_cases q : wayF j x z = 0
  · have := wayF_trans j (show wayF j z x ≤ 0 by omega) h1
    omega
  · omega
/-- the program's own laying, one by one -/
def ins {α : Type} (le : α → α → Bool) (laid : List α) (one : α) : List α := laid.take (laid.filter (le · one)).length ++ [one] ++ laid.drop (laid.filter (le · one)).length
def laidF (j : Nat) (xs : List Int) : List Int := xs.foldl (ins fun o one => decide (wayF j o one ≤ 0)) []
theorem ins_map {α β : Type} (f : α → β) (le : β → β → Bool) (laid : List α) (one : α) : (ins (fun a b => le (f a) (f b)) laid one).map f = ins le (laid.map f) (f one) := by
  have e : ((laid.map f).filter (le · (f one))).length = (laid.filter (fun a => le (f a) (f one))).length := by
    rw [List.filter_map, List.length_map]; rfl
  simp only [ins, List.map_append, List.map_take, List.map_drop, e, List.map_cons, List.map_nil]
theorem fold_ins_map {α β : Type} (f : α → β) (le : β → β → Bool) : ∀ (ps : List α) (laid : List α), (ps.foldl (ins (fun a b => le (f a) (f b))) laid).map f = (ps.map f).foldl (ins le) (laid.map f)
  | [], _ => rfl
  | p :: ps, laid => by
    simp only [List.foldl_cons, List.map_cons]
    rw [fold_ins_map f le ps, ins_map]
theorem ins_perm {α : Type} (le : α → α → Bool) (laid : List α) (one : α) : (ins le laid one).Perm (one :: laid) := by
  unfold ins
  rw [List.append_assoc, List.singleton_append]
  refine List.perm_middle.trans ?_
  rw [List.take_append_drop]
theorem pre_take {α : Type} (q : α → Bool) : ∀ (l : List α), l.Pairwise (fun a b => q b = true → q a = true) → l.take (l.filter q).length = l.filter q ∧ l.drop (l.filter q).length = l.filter (fun a => !q a)
  | [], _ => ⟨rfl, rfl⟩
  | a :: l, h => by
    rw [List.pairwise_cons] at h
    by_cases qa : q a = true
    · have ih := pre_take q l h.2
      simp [qa, ih.1, ih.2]
    · have e : l.filter q = [] := by
        rw [List.filter_eq_nil_iff]
        intro b hb qb
        exact qa (h.1 b hb qb)
      have e2 : l.filter (fun a => !q a) = l := by
        rw [List.filter_eq_self]
        intro b hb
        have := List.filter_eq_nil_iff.mp e b hb
        simpa using this
      simp only [Bool.not_eq_true] at qa
      simp [qa, e, e2]
/-- before: by the way, those alike by their number -/
def Sb (j : Nat) (a b : Int × Nat) : Prop := wayF j a.1 b.1 < 0 ∨ (wayF j a.1 b.1 = 0 ∧ a.2 < b.2)
theorem Sb.le {j : Nat} {a b : Int × Nat} (h : Sb j a b) : wayF j a.1 b.1 ≤ 0 := by rcases h with h | h <;> omega
theorem ins_sorted {j : Nat} {l : List (Int × Nat)} {c : Int × Nat} (h : l.Pairwise (Sb j)) (hc : ∀ a ∈ l, a.2 < c.2) : (ins (fun a b : Int × Nat => decide (wayF j a.1 b.1 ≤ 0)) l c).Pairwise (Sb j) := by
  have hp := pre_take (fun a => decide (wayF j a.1 c.1 ≤ 0)) l (h.imp fun {a b} hab hb => by
    simp only [decide_eq_true_eq] at hb ⊢
    exact wayF_trans j hab.le hb)
  unfold ins
  rw [hp.1, hp.2, List.append_assoc]
  have fl : ∀ q : Int × Nat → Bool, (l.filter q).Pairwise (Sb j) := fun q => h.sublist List.filter_sublist
  have m1 : ∀ a ∈ l.filter (fun a => decide (wayF j a.1 c.1 ≤ 0)), wayF j a.1 c.1 ≤ 0 ∧ a.2 < c.2 := by
    intro a ha
    rw [List.mem_filter] at ha
    exact ⟨by simpa using ha.2, hc a ha.1⟩
  have m2 : ∀ a ∈ l.filter (fun a => !decide (wayF j a.1 c.1 ≤ 0)), wayF j c.1 a.1 < 0 := by
    intro a ha
    rw [List.mem_filter] at ha
    have h1 : ¬ wayF j a.1 c.1 ≤ 0 := by simpa using ha.2
    have := wayF_anti j a.1 c.1
    omega
  rw [List.pairwise_append]
  refine ⟨fl _, ?_, ?_⟩
  · rw [List.singleton_append, List.pairwise_cons]
    exact ⟨fun a ha => .inl (m2 a ha), fl _⟩
  · intro a ha b hb
    have := m1 a ha
    rw [List.singleton_append, List.mem_cons] at hb
    rcases hb with rfl | hb
    · by_cases q : wayF j a.1 b.1 = 0
      · exact .inr ⟨q, this.2⟩
      · exact .inl (by omega)
    · exact .inl (wayF_le_lt this.1 (m2 b hb))
theorem fold_ins_sorted {j : Nat} : ∀ (ps l : List (Int × Nat)), l.Pairwise (Sb j) → ps.Pairwise (fun a b => a.2 < b.2) → (∀ a ∈ l, ∀ b ∈ ps, a.2 < b.2) →
    (ps.foldl (ins (fun a b : Int × Nat => decide (wayF j a.1 b.1 ≤ 0))) l).Pairwise (Sb j) ∧ (ps.foldl (ins (fun a b : Int × Nat => decide (wayF j a.1 b.1 ≤ 0))) l).Perm (ps ++ l)
  | [], l, h, _, _ => ⟨h, .refl _⟩
  | p :: ps, l, h, hp, hl => by
    rw [List.pairwise_cons] at hp
    have ih := fold_ins_sorted ps (ins (fun a b : Int × Nat => decide (wayF j a.1 b.1 ≤ 0)) l p) (ins_sorted h fun a ha => hl a ha p (.head _)) hp.2 (by
      intro a ha b hb
      rcases List.mem_cons.mp ((ins_perm _ l p).mem_iff.mp ha) with rfl | ha
      · exact hp.1 b hb
      · exact hl a ha b (.tail _ hb))
    refine ⟨ih.1, ih.2.trans ?_⟩
    exact ((ins_perm _ l p).append_left ps).trans List.perm_middle
/-- the rank of the i-th number -/
def rk (j : Nat) (xs : List Int) (i : Nat) : Nat := (List.range xs.length).countP fun k => decide (wayF j (xs.getD k 0) (xs.getD i 0) < 0)
theorem countP_strict {α : Type} {p q : α → Bool} : ∀ (l : List α), (∀ x ∈ l, p x = true → q x = true) → (∃ x ∈ l, q x = true ∧ p x = false) → l.countP p < l.countP q
  | [], _, h => by obtain ⟨x, hx, _⟩ := h; cases hx
  | a :: l, h, h2 => by
    have le : l.countP p ≤ l.countP q := List.countP_mono_left fun x hx => h x (.tail _ hx)
    obtain ⟨x, hx, h3, h4⟩ := h2
    rcases List.mem_cons.mp hx with rfl | hx
    · rw [List.countP_cons_of_pos h3, List.countP_cons_of_neg (by simp [h4])]; omega
    · have ih := countP_strict l (fun x hx => h x (.tail _ hx)) ⟨x, hx, h3, h4⟩
      have h5 := h a (.head _)
      by_cases pa : p a = true
      · rw [List.countP_cons_of_pos pa, List.countP_cons_of_pos (h5 pa)]; omega
      · rw [List.countP_cons_of_neg pa]
        by_cases qa : q a = true
        · rw [List.countP_cons_of_pos qa]; omega
        · rw [List.countP_cons_of_neg qa]; exact ih
theorem rk_lt {j : Nat} {xs : List Int} {i k : Nat} (hi : i < xs.length) : rk j xs i < rk j xs k ↔ wayF j (xs.getD i 0) (xs.getD k 0) < 0 := by
  constructor
  · intro h
    by_cases q : wayF j (xs.getD i 0) (xs.getD k 0) < 0
    · exact q
    · exfalso
      have a := wayF_anti j (xs.getD i 0) (xs.getD k 0)
      have le : rk j xs k ≤ rk j xs i := List.countP_mono_left fun x _ hx => by
        simp only [decide_eq_true_eq] at hx ⊢
        exact wayF_lt_le hx (by omega)
      omega
  · intro h
    refine countP_strict _ (fun x _ hx => ?_) ⟨i, List.mem_range.mpr hi, decide_eq_true h, ?_⟩
    · simp only [decide_eq_true_eq] at hx ⊢
      exact wayF_lt_le hx (Int.le_of_lt h)
    · have := wayF_anti j (xs.getD i 0) (xs.getD i 0)
      exact decide_eq_false (by omega)
/-- what the sort gives is what the program lays -/
theorem sorted_laid {j : Nat} {xs : List Int} {p : Array Nat} (L : Lo xs.length p xs.length) (S : SP (rk j xs) p xs.length) : p.toList.map (fun i => xs.getD i 0) = laidF j xs := by
  have e0 : (List.range xs.length).map (fun i => xs.getD i 0) = xs := by
    apply List.ext_getElem
    · simp
    · intro i h1 h2
      have h3 : i < xs.length := by simpa using h1
      simp [h3]
  have e1 : laidF j xs = (((List.range xs.length).map fun i => (xs.getD i 0, i)).foldl (ins (fun a b : Int × Nat => decide (wayF j a.1 b.1 ≤ 0))) []).map (·.1) := by
    rw [fold_ins_map (fun a : Int × Nat => a.1) (fun o one => decide (wayF j o one ≤ 0)), List.map_map]
    show _ = List.foldl _ _ _
    rw [show ((fun a : Int × Nat => a.1) ∘ fun i => (xs.getD i 0, i)) = fun i => xs.getD i 0 from rfl, e0]
    rfl
  rw [e1]
  have hp := fold_ins_sorted (j := j) ((List.range xs.length).map fun i => (xs.getD i 0, i)) [] List.Pairwise.nil
    (by rw [List.pairwise_map]; exact List.pairwise_lt_range) (fun a ha => by cases ha)
  rw [List.append_nil] at hp
  have key : p.toList.map (fun i => (xs.getD i 0, i)) = ((List.range xs.length).map fun i => (xs.getD i 0, i)).foldl (ins (fun a b : Int × Nat => decide (wayF j a.1 b.1 ≤ 0))) [] := by
    refine List.Perm.eq_of_pairwise (le := Sb j) (fun a b _ _ h1 h2 => ?_) ?_ hp.1 ?_
    · exfalso
      have := wayF_anti j a.1 b.1
      rcases h1 with h1 | h1 <;> rcases h2 with h2 | h2 <;> omega
    · rw [List.pairwise_map, List.pairwise_iff_getElem]
      intro a b ha hb hab
      have hs : p.toList.length = xs.length := by rw [Array.length_toList, L.size]
      have ga : ∀ c (hc : c < p.toList.length), gg p c = p.toList[c] := fun c hc => by
        unfold gg
        have : c < p.size := by simpa using hc
        simp [Array.getD, this]
      have h1 := S a b hab (by omega)
      rw [ga a ha, ga b hb] at h1
      have la : p.toList[a] < xs.length := by rw [← ga a ha]; exact L.low a (by omega)
      have lb : p.toList[b] < xs.length := by rw [← ga b hb]; exact L.low b (by omega)
      rcases h1 with h1 | ⟨h1, h2⟩
      · exact .inl ((rk_lt la).mp h1)
      · refine .inr ⟨?_, h2⟩
        have n1 := mt (rk_lt (j := j) (k := p.toList[b]) la).mpr (by omega)
        have n2 := mt (rk_lt (j := j) (k := p.toList[a]) lb).mpr (by omega)
        have := wayF_anti j (xs.getD p.toList[a] 0) (xs.getD p.toList[b] 0)
        show wayF j (xs.getD p.toList[a] 0) (xs.getD p.toList[b] 0) = 0
        omega
    · refine List.Perm.trans ?_ hp.2.symm
      exact (by simpa using Array.perm_iff_toList_perm.mp L.perm : p.toList.Perm (List.range xs.length)).map _
  rw [← key, List.map_map]
  rfl
end
section
set_option maxHeartbeats 200000
set_option maxRecDepth 512
def insts (C : Addr) (vs : List (Int × Tok)) (kd : List (Addr × Addr)) : List (Addr × Obj) := List.zipWith (fun p k => (k.1, oInst C k.2 p.1 p.2)) vs kd
theorem Lg.perm {but : List Addr} {h₀ h : Heap} {n n' : List (Addr × Obj)} (L : Lg but h₀ h n) (p : n.Perm n') : Lg but h₀ h n' :=
  ⟨L.keep, fun q hq => L.nw q (p.mem_iff.mpr hq), (p.map (·.1)).nodup_iff.mp L.nd⟩
theorem wp_of_sat {α : Type} {r : Nat → Nat} {n : Nat} {P : α → Prop} {cmp : Nat → Nat → (Bool → Shared → Prop) → Shared → Prop} {Q : α → Shared → Prop} (I : Shared → Prop)
    (hc : ∀ i j, i < n → j < n → ∀ (C : Bool → Shared → Prop) s, I s → (∀ s', I s' → C (decide (r i < r j)) s') → cmp i j C s) (hq : ∀ a s', P a → I s' → Q a s') : ∀ (t : KasT α), sat r n P t → ∀ s, I s → t.kasWp cmp Q s
  | .ret a, h, s, hs => hq a s h hs
  | .ask i j k, h, s, hs => hc i j h.1 h.2.1 _ s hs fun s' hs' => wp_of_sat I hc hq (k _) h.2.2 s' hs'
theorem listUp_L {but : List Addr} {h₀ h : Heap} {news news' : List (Addr × Obj)} {a : Addr} {xs ys : Array Value} {e : Nat} (L : Lg but h₀ h news) (U : SetAt a (seqObj "list" xs e) (seqObj "list" ys (if ys.size == xs.size then e else e + 1)) news news') (f : Array Value → Array Value) (hf : f xs = ys) :
    Lg but h₀ (h.update a (Obj.mapSeq f)) news' := L.update U (by subst hf; rfl) rfl
section
variable (w : World) (A : Around) (S : Shallow A) (j : Nat) (hj : j < 3) (h₀ : Heap) (g : Array GenState) (d : Drawn) (os : OsState) (KR : Old w h₀) (T : TD) (HT : TabOK w h₀ T) (K : KD) (H : KOK w h₀ T K (.ref (wayA j)))
include S KR HT H
theorem newW (h : Heap) (k : Keeps h₀ h) (tk : Nat) (x : Int) (t : Tok) (Q : Value → Shared → Prop) (E : Value → Shared → Prop)
    (hq : ∀ h' a dd tk', Keeps h h' → h.get? a = none → h'.get? a = some (oInst K.C dd x t) → Q (.ref a) ⟨h', g, d, tk', os⟩) :
    wpAny (model PG w) A (PySem.call (.ref K.C) [.int x t]) Q E ⟨h, g, d, tk, os⟩ :=
  wpAny_sh S (k_new w ⟨h, g, d, tk, os⟩ (KR.keeps k).inO T K _ (H.keeps k) (HT.keeps k) x t Q E hq)
include hj
/-- the sort's runs over the keys -/
theorem runsW (vs : List (Int × Tok)) (kd : List (Addr × Addr)) (hl : kd.length = vs.length) (h2 : 2 ≤ vs.length) (h64 : vs.length < 64) (but : List (Addr × Obj)) (h : Heap) (tk : Nat) (L : Lg [] h₀ h (but ++ insts K.C vs kd))
    (Q : PUnit × SortSt → Shared → Prop)
    (hq : ∀ h' tk' (p : Array Nat) st, Lg [] h₀ h' (but ++ insts K.C vs kd) → arrOf st = p.map (kas_item ((kd.map fun k => Value.ref k.1).toArray.zip (vs.map val).toArray)) → failedOf st = none → p.size = vs.length →
      p.toList.map (fun i => (vs.map (·.1)).getD i 0) = laidF j (vs.map (·.1)) → (∀ i ∈ p.toList, i < vs.length) → Q (⟨⟩, st) ⟨h', g, d, tk', os⟩) :
    wpAny (model PG w) A (sortRuns'.run (SortSt.mk' oneType' ((kd.map fun k => Value.ref k.1).toArray.zip (vs.map val).toArray) #[] 7 none)) Q (fun _ _ => False) ⟨h, g, d, tk, os⟩ := by
  have hsz : ((kd.map fun k => Value.ref k.1).toArray.zip (vs.map val).toArray).size = vs.length := by simp [hl]
  have item : ∀ i, i < vs.length → ∃ dd x t a, kas_item ((kd.map fun k => Value.ref k.1).toArray.zip (vs.map val).toArray) i = (.ref a, .int x t) ∧ (a, oInst K.C dd x t) ∈ insts K.C vs kd ∧ (vs.map (·.1)).getD i 0 = x := by
    intro i hi
    have hi2 : i < kd.length := by omega
    refine ⟨kd[i].2, vs[i].1, vs[i].2, kd[i].1, ?_, ?_, ?_⟩
    · unfold kas_item
      simp only [Array.getD, hsz, dif_pos hi]
      simp [val, hi, hi2]
    · have e : (insts K.C vs kd)[i]? = some (kd[i].1, oInst K.C kd[i].2 vs[i].1 vs[i].2) := by
        simp [insts, List.getElem?_zipWith, hi, hi2]
      exact List.mem_of_getElem? e
    · simp [hi]
  have st0 : SortSt.mk' oneType' ((kd.map fun k => Value.ref k.1).toArray.zip (vs.map val).toArray) #[] 7 none = kas_st oneType' ((kd.map fun k => Value.ref k.1).toArray.zip (vs.map val).toArray) (List.toArray (List.range vs.length)) := by
    unfold kas_st
    have := kas_range ((kd.map fun k => Value.ref k.1).toArray.zip (vs.map val).toArray)
    rw [hsz] at this
    rw [this]
  rw [st0]
  have I0 : ∃ h' tk', (⟨h, g, d, tk, os⟩ : Shared) = ⟨h', g, d, tk', os⟩ ∧ Lg [] h₀ h' (but ++ insts K.C vs kd) := ⟨_, _, rfl, L⟩
  refine kas_runs (Q := fun a st s' => Q (a, st) s') (G := fun p s' => (Lo vs.length p vs.length ∧ SP (rk j (vs.map (·.1))) p vs.length) ∧ ∃ h' tk', s' = ⟨h', g, d, tk', os⟩ ∧ Lg [] h₀ h' (but ++ insts K.C vs kd)) h2 h64 (fun p st s' hp ha hf hg => ?_) ?_
  · obtain ⟨⟨Lp, Sp⟩, h', tk', rfl, L'⟩ := hg
    have hlen : (vs.map (·.1)).length = vs.length := List.length_map _
    refine hq h' tk' p st L' ha hf hp (sorted_laid (by rw [hlen]; exact Lp) (by rw [hlen]; exact Sp)) fun i hi => ?_
    have := (Array.perm_iff_toList_perm.mp Lp.perm).mem_iff.mp hi
    simpa using this
  · refine wp_of_sat (fun s' => ∃ h' tk', s' = ⟨h', g, d, tk', os⟩ ∧ Lg [] h₀ h' (but ++ insts K.C vs kd)) (fun i k hi hk C s hs hC => ?_) (fun p s' hp hs => ⟨hp, hs⟩) _ (sat_sort (by omega)) _ I0
    obtain ⟨h', tk', rfl, L'⟩ := hs
    obtain ⟨d1, x1, t1, a1, e1, m1, v1⟩ := item i hi
    obtain ⟨d2, x2, t2, a2, e2, m2, v2⟩ := item k hk
    unfold kas_cmp
    rw [e1, e2]
    refine keyLtW w A S j hj h' g d tk' os (KR.keeps L'.keeps) T (HT.keeps L'.keeps) K (H.keeps L'.keeps) a1 a2 d1 d2 x1 x2 t1 t2 (L'.hit (List.mem_append_right _ m1)) (L'.hit (List.mem_append_right _ m2)) _ _ fun h'' tk'' kk => ?_
    have hd : decide (wayF j x1 x2 < 0) = decide (rk j (vs.map (·.1)) i < rk j (vs.map (·.1)) k) := by
      rw [decide_eq_decide, rk_lt (by rw [List.length_map]; exact hi), v1, v2]
    rw [hd]
    exact hC _ ⟨h'', tk'', rfl, L'.grow kk⟩

/-- the sort's end: the list gets its numbers back -/
theorem tailW (vs : List (Int × Tok)) (kd : List (Addr × Addr)) (hl : kd.length = vs.length) (h64 : vs.length < 64) (h : Heap) (tk : Nat) (kS D : Addr) (e e1 : Nat)
    (L : Lg [] h₀ h ([(kS, seqObj "list" (kd.map fun k => Value.ref k.1).toArray e), (D, seqObj "list" #[] e1)] ++ insts K.C vs kd)) (p : Array Nat) (st : SortSt) (ha : arrOf st = p.map (kas_item ((kd.map fun k => Value.ref k.1).toArray.zip (vs.map val).toArray)))
    (hf : failedOf st = none) (hp : p.size = vs.length) (hlaid : p.toList.map (fun i => (vs.map (·.1)).getD i 0) = laidF j (vs.map (·.1))) (hin : ∀ i ∈ p.toList, i < vs.length) (P : PySem.Fin → Shared → Prop) (E : Value → Shared → Prop)
    (hq : ∀ h' tk' (out : List (Int × Tok)) c, Lg [] h₀ h' [(D, seqObj "list" (out.map val).toArray c)] → out.map (·.1) = laidF j (vs.map (·.1)) → P (.done (.ret .none)) ⟨h', g, d, tk', os⟩) :
    wpAny (model PG w) A (ksk_tail D false e1 (.ref kS) st) P E ⟨h, g, d, tk, os⟩ := by
  have hs : (arrOf st).map (·.2) = ((p.toList.map fun i => vs.getD i (0, 0)).map val).toArray := by
    rw [ha]
    apply Array.ext'
    simp only [Array.toList_map, List.map_map]
    apply List.map_congr_left
    intro i hi
    have hi := hin i hi
    have hsz : ((kd.map fun k => Value.ref k.1).toArray.zip (vs.map val).toArray).size = vs.length := by simp [hl]
    simp only [Function.comp, kas_item, Array.getD, hsz, dif_pos hi]
    simp [hi]
  have ho : (p.toList.map fun i => vs.getD i (0, 0)).map (·.1) = laidF j (vs.map (·.1)) := by
    rw [← hlaid, List.map_map]
    apply List.map_congr_left
    intro i hi
    have hi := hin i hi
    simp [hi]
  have hk := L.hit (a := kS) (o := seqObj "list" (kd.map fun k => Value.ref k.1).toArray e) (.head _)
  have L2 := listUp_L L (ys := #[]) (.here rfl) (fun _ => #[]) rfl
  have hD := L2.hit (a := D) (o := seqObj "list" #[] e1) (.tail _ (.head _))
  have L3 := listUp_L L2 (ys := ((p.toList.map fun i => vs.getD i (0, 0)).map val).toArray) (.there (.here rfl)) (fun _ => (arrOf st).map (·.2)) hs
  have hz : ((arrOf st).map (·.2)).size = vs.length := by rw [hs]; simp [hp]
  unfold ksk_tail
  refine wpAny_bind (listUpdate_at hk rfl ?_ (by simp [hl, sizeLine_eq]; omega) (Nat.zero_le _))
  refine wpAny_bind (wpAny_letGo ?_)
  refine wpAny_bind (seqEpoch_at hD rfl ?_)
  refine wpAny_bind (listUpdate_at hD rfl ?_ (Nat.zero_le _) (by simp only [Bool.false_eq_true, if_false]; rw [hz, sizeLine_eq]; omega))
  rw [hf]
  simp only [bne_self_eq_false, Bool.false_eq_true, if_false]
  refine wpAny_pure (hq _ _ _ _ (L3.sub (List.Sublist.cons _ (List.Sublist.cons_cons _ (List.nil_sublist _)))) ho)
theorem endW (vs : List (Int × Tok)) (kd : List (Addr × Addr)) (hl : kd.length = vs.length) (h64 : vs.length < 64) (h : Heap) (tk : Nat) (kS D : Addr) (e e1 : Nat)
    (L : Lg [] h₀ h ([(kS, seqObj "list" (kd.map fun k => Value.ref k.1).toArray e), (D, seqObj "list" #[] e1)] ++ insts K.C vs kd)) (P : PySem.Fin → Shared → Prop)
    (hq : ∀ h' tk' (out : List (Int × Tok)) c, Lg [] h₀ h' [(D, seqObj "list" (out.map val).toArray c)] → out.map (·.1) = laidF j (vs.map (·.1)) → P (.done (.ret .none)) ⟨h', g, d, tk', os⟩) :
    wpAny (model PG w) A (ksk_end D false (vs.map val).toArray e1 (.ref kS) (kd.map fun k => Value.ref k.1).toArray) P (fun _ _ => False) ⟨h, g, d, tk, os⟩ := by
  unfold ksk_end
  simp only [Bool.false_eq_true, if_false]
  have hsz : ((kd.map fun k => Value.ref k.1).toArray.zip (vs.map val).toArray).size = vs.length := by simp [hl]
  by_cases h2 : (vs.map val).toArray.size < 2
  · rw [if_pos h2, if_pos h2]
    refine wpAny_bind (wpAny_pure ?_)
    rw [StateT.run_pure]
    refine wpAny_bind (wpAny_pure ?_)
    have hr := kas_range ((kd.map fun k => Value.ref k.1).toArray.zip (vs.map val).toArray)
    rw [hsz] at hr
    have h3 : vs.length < 2 := by simpa using h2
    refine tailW w A S j hj h₀ g d os KR T HT K H vs kd hl h64 h tk kS D e e1 L (List.toArray (List.range vs.length)) _ hr.symm rfl (by simp) ?_ (fun i hi => by simpa using hi) P _ hq
    match vs, h3 with
    | [], _ => rfl
    | [v], _ => rfl
    | _ :: _ :: _, h3 => simp at h3; omega
  · rw [if_neg h2, if_neg h2]
    have h3 : 2 ≤ vs.length := by simpa using h2
    refine wpAny_bind (kas_kind (T := .ref K.C) (by simp [hl]; omega) (fun v hv => ?_) rfl (by simp) ?_)
    · obtain ⟨k, hk, rfl⟩ := List.mem_map.mp hv
      obtain ⟨i, hi, rfl⟩ := List.getElem_of_mem hk
      have hi2 : i < vs.length := by omega
      have e3 : (insts K.C vs kd)[i]? = some (kd[i].1, oInst K.C kd[i].2 vs[i].1 vs[i].2) := by
        simp [insts, List.getElem?_zipWith, hi, hi2]
      exact (Looks.ld (L.hit (List.mem_append_right _ (List.mem_of_getElem? e3)))).andThen .now
    · refine wpAny_bind (runsW w A S j hj h₀ g d os KR T HT K H vs kd hl h3 h64 _ h tk L _ fun h' tk' p st L' ha hf hp hlaid hin => ?_)
      exact tailW w A S j hj h₀ g d os KR T HT K H vs kd hl h64 h' tk' kS D e e1 L' p st ha hf hp hlaid hin P _ hq
theorem restW (vs : List (Int × Tok)) (h64 : vs.length < 64) (h : Heap) (tk : Nat) (kS D : Addr) (e1 : Nat)
    (L : Lg [] h₀ h [(kS, seqObj "list" #[] 0), (D, seqObj "list" #[] e1)]) (P : PySem.Fin → Shared → Prop)
    (hq : ∀ h' tk' (out : List (Int × Tok)) c, Lg [] h₀ h' [(D, seqObj "list" (out.map val).toArray c)] → out.map (·.1) = laidF j (vs.map (·.1)) → P (.done (.ret .none)) ⟨h', g, d, tk', os⟩) :
    wpAny (model PG w) A (ksk_rest D (.ref K.C) false (vs.map val).toArray e1 (.ref kS)) P (fun _ _ => False) ⟨h, g, d, tk, os⟩ := by
  unfold ksk_rest
  refine wpAny_bind (wpAny_rule ?_)
  rw [List.forIn_toArray]
  refine wpAny_bind (ksk_fold (fun i s' => ∃ h' tk' kd e, s' = ⟨h', g, d, tk', os⟩ ∧ kd.length = i ∧ Lg [] h₀ h' ([(kS, seqObj "list" (kd.map fun k => Value.ref k.1).toArray e), (D, seqObj "list" #[] e1)] ++ insts K.C (vs.take i) kd)) (vs.map val) 0 _
    ⟨h, tk, [], 0, rfl, rfl, by simpa [insts] using L⟩ ?step ?done)
  case step =>
    rintro i x s' hx ⟨h', tk', kd, e, rfl, hkd, L'⟩
    simp only [Nat.zero_add] at hkd L' ⊢
    obtain ⟨p, hp, rfl⟩ : ∃ p, vs[i]? = some p ∧ val p = x := by
      rw [List.getElem?_map] at hx
      exact Option.map_eq_some_iff.mp hx
    have hi : i < vs.length := (List.getElem?_eq_some_iff.mp hp).1
    refine wpAny_bind (wpAny_attempt (newW w A S j h₀ g d os KR T HT K H h' L'.keeps tk' p.1 p.2 _ _ fun h'' a dd tk'' k hn ha => ?_))
    have L2 := Lg.add L' k hn ha
    have hk := L2.hit (a := kS) (o := seqObj "list" (kd.map fun k => Value.ref k.1).toArray e) (.tail _ (.head _))
    obtain ⟨c, L3⟩ : ∃ c, Lg [] h₀ (h''.update kS (Obj.mapSeq (·.push (.ref a)))) ((a, oInst K.C dd p.1 p.2) :: ([(kS, seqObj "list" ((kd ++ [(a, dd)]).map fun k => Value.ref k.1).toArray c), (D, seqObj "list" #[] e1)] ++ insts K.C (vs.take i) kd)) := ⟨_, listUp_L L2 (.there (.here rfl)) (·.push (.ref a)) (by simp)⟩
    refine wpAny_bind (listUpdate_at hk rfl ?_ (by simp [hkd, sizeLine_eq]; omega) (by simp [hkd, sizeLine_eq]; omega))
    refine wpAny_pure ⟨rfl, _, _, kd ++ [(a, dd)], c, rfl, by simp [hkd], ?_⟩
    have et : vs.take (i + 1) = vs.take i ++ [p] := by rw [List.take_add_one, hp]; rfl
    have ei : insts K.C (vs.take (i + 1)) (kd ++ [(a, dd)]) = insts K.C (vs.take i) kd ++ [(a, oInst K.C dd p.1 p.2)] := by
      rw [et]
      unfold insts
      rw [List.zipWith_append (by rw [List.length_take]; omega)]
      rfl
    rw [ei]
    rw [← List.append_assoc]
    exact L3.perm (List.perm_append_singleton _ _).symm
  case done =>
    rintro s' ⟨h', tk', kd, e, rfl, hkd, L'⟩
    rw [Nat.zero_add, List.length_map] at hkd L'
    rw [List.take_length] at L'
    have hk := L'.hit (a := kS) (o := seqObj "list" (kd.map fun k => Value.ref k.1).toArray e) (.head _)
    refine wpAny_bind (listItems_at hk rfl ?_)
    exact endW w A S j hj h₀ g d os KR T HT K H vs kd hkd h64 h' tk' kS D e e1 L' P hq
theorem treeW (vs : List (Int × Tok)) (h64 : vs.length < 64) (h : Heap) (tk : Nat) (D : Addr) (e : Nat)
    (L : Lg [] h₀ h [(D, seqObj "list" (vs.map val).toArray e)]) (P : PySem.Fin → Shared → Prop) (E : Value → Shared → Prop)
    (hq : ∀ h' tk' (out : List (Int × Tok)) c, Lg [] h₀ h' [(D, seqObj "list" (out.map val).toArray c)] → out.map (·.1) = laidF j (vs.map (·.1)) → P (.done (.ret .none)) ⟨h', g, d, tk', os⟩) :
    wpAny (model PG w) A (ksk_tree D (.ref K.C) false) P E ⟨h, g, d, tk, os⟩ := by
  have hD := L.hit (a := D) (o := seqObj "list" (vs.map val).toArray e) (.head _)
  have L2 := listUp_L L (ys := #[]) (.here rfl) (fun _ => #[]) rfl
  have hD2 := L2.hit (a := D) (o := seqObj "list" #[] _) (.head _)
  unfold ksk_tree
  refine wpAny_bind (listItems_at hD rfl ?_)
  refine wpAny_bind (listUpdate_at hD rfl ?_ (by simp [sizeLine_eq]; omega) (Nat.zero_le _))
  refine wpAny_bind (seqEpoch_at hD2 rfl ?_)
  have L3 := L2.alloc (o := seqObj "tuple" (vs.map val).toArray 0) rfl
  have L4 := L3.alloc (o := seqObj "list" #[] 0) rfl
  refine wpAny_bind (wpAny_newTuple ?_ (by simp [sizeLine_eq]; omega))
  refine wpAny_bind (wpAny_newList ?_ (Nat.zero_le _))
  refine wpAny_holding ?_
  exact wpAny_mono (restW w A S j hj h₀ g d os KR T HT K H vs h64 _ tk _ D _ (L4.sub (List.Sublist.cons_cons _ (List.Sublist.cons _ (List.Sublist.refl _)))) P hq) (fun _ _ x => x) fun _ _ x => x.elim
end
/-- sorted(row, key=key) -/
theorem sortedW (w : World) (A : Around) (S : Shallow A.in1.in1) (j : Nat) (hj : j < 3) (h : Heap) (g d tk os) (KR : Old w h) (T : TD) (HT : TabOK w h T) (K : KD) (H : KOK w h T K (.ref (wayA j))) (l : Addr) (vs : List (Int × Tok)) (e : Nat)
    (hl : h.get? l = some (seqObj "list" (vs.map val).toArray e)) (h64 : vs.length < 64) (Q : Value → Shared → Prop) (E : Value → Shared → Prop)
    (hq : ∀ h' D tk' (out : List (Int × Tok)) c, Lg [] h h' [(D, seqObj "list" (out.map val).toArray c)] → out.map (·.1) = laidF j (vs.map (·.1)) → Q (.ref D) ⟨h', g, d, tk', os⟩) :
    wpAny (model PG w) A (PySem.call (.builtin "sorted") [.ref l] [(Str.ofString "key", .ref K.C)]) Q E ⟨h, g, d, tk, os⟩ := by
  refine call_function_entry_kw kind_sorted plain_sorted entry_sorted (ksk_s1 _ _) ?_
  unfold Builtin.«sorted»
  refine wpAny_bind (m := checkCount "sorted" 1 1 _) (wpAny_pure ?_)
  have L0 := Lg.start h
  have L1 := listUp_L (L0.alloc (o := seqObj "list" #[] 0) rfl) (ys := (vs.map val).toArray) (.here rfl) (· ++ (vs.map val).toArray) (by simp)
  have L2 := (L1.sub (List.nil_sublist _)).alloc (o := seqObj "list" (vs.map val).toArray 0) rfl
  refine wpAny_bind (collect_list (vs := vs.map val) ⟨_, hl, rfl, e, rfl⟩ ?_ (by simp [sizeLine_eq]; omega))
  refine wpAny_bind (wpAny_newList ?_ (by simp [sizeLine_eq]; omega))
  have hD := L2.hit (.head _)
  refine wpAny_bind (wpAny_holding (wpAny_call_entry_kw slot_list_sort ⟨_, hD, rfl⟩ entry_list_sort ?body (ksk_l1 _ _)))
  case body =>
    rw [ksk_t1]
    refine treeW w A.in1.in1 S j hj h g d os KR T HT K H vs h64 _ tk _ 0 L2 _ _ fun h' tk' out c L' ho => ⟨_, rfl, ?_⟩
    exact wpAny_pure ⟨_, rfl, hq h' _ tk' out c L' ho⟩
end
section
set_option maxHeartbeats 200000
set_option maxRecDepth 512
theorem Lg.drop {h₀ h h' : Heap} {news : List (Addr × Obj)} {a : Addr} {o : Obj} (L : Lg [] h₀ h ((a, o) :: news)) (hs : Heap.ExtBut a h h') : Lg [] h₀ h' news := by
  have nd := L.nd
  simp only [List.map_cons, List.nodup_cons] at nd
  refine ⟨fun b ob eb hb => hs b ob ?_ (L.keep b ob eb hb), fun p hp => ⟨hs p.1 p.2 (fun q => nd.1 ?_) (L.nw p (.tail _ hp)).1, (L.nw p (.tail _ hp)).2⟩, nd.2⟩
  · rintro rfl
    rcases (L.nw _ (.head _)).2 with q | q
    · cases q
    · rw [q] at eb; cases eb
  · rw [← q]; exact List.mem_map_of_mem hp
theorem callKwTree {prog : Program} {w : World} {A : Around} {E : Value → Shared → Prop} {s : Shared} {id : String} {b : Builtin} {args : List Value} {kw : List (Str × Value)} {Q : Value → Shared → Prop} (hk : builtinKind id = none) (hp : plainId id = true)
    (hb : entryFor table id = some b) (ha : argsOk id ⟨args, kw⟩)
    (hc : wpAny (model prog w) A.in1 (b ⟨args, kw⟩) (fun fin s' => match fin with
      | .done f => (match (Except.ok f : Result) with | .ok (.ret v) => Q v s' | .ok _ => False | .error e => E e s')
      | .again c' => c'.quiet = true ∧ codeAny (model prog w) A c' (fun r s' => match r with | .ok (.ret v) => Q v s' | .ok _ => False | .error e => E e s') s') E s) :
    wpAny (model prog w) A (PySem.call (.builtin id) args kw) Q E s := by
  refine wpAny_call (codeAny_call_builtin hp hb ?_)
  simp only [checkBuiltinCall, hk]
  cases hs : Manifest.signature? id with
  | none => exact wpAny_pure hc
  | some sig =>
    have ha' : Bind.checkArgs id sig ⟨args, kw⟩ = pure () := by simpa only [argsOk, hs] using ha
    simp only [ha']
    exact wpAny_pure hc
/-- the best one so far -/
def bestF (rel : Int → Int → Bool) (b : Int) (xs : List Int) : Int := xs.foldl (fun b x => if rel x b = true then x else b) b
/-- min(row, key=key): the loop, a best one in hand -/
theorem min_loop (w : World) (A : Around) (S : Shallow A.in1) (j : Nat) (hj : j < 3) (h₀ : Heap) (g : Array GenState) (d : Drawn) (os : OsState) (KR : Old w h₀) (T : TD) (HT : TabOK w h₀ T) (K : KD) (H : KOK w h₀ T K (.ref (wayA j)))
    (l : Addr) (vs : List (Int × Tok)) (e : Nat) (hl : h₀.get? l = some (seqObj "list" (vs.map val).toArray e)) (h64 : vs.length < 64) (it best : Addr) (R : Result → Shared → Prop) :
    ∀ (rest : List (Int × Tok)) (i : Nat) (h : Heap) (tk : Nat) (b : Int × Tok) (ka dd : Addr) (c : Nat) (oit : Obj), vs.drop i = rest → Lg [] h₀ h [(it, oit), (best, seqObj "list" #[val b, .ref ka] c), (ka, oInst K.C dd b.1 b.2)] →
    (oit.cls = .type "list_iterator" ∧ oit.data = .fields #[.ref l, .int i 0]) →
    (∀ h' tk' t, Keeps h₀ h' → R (.ok (.ret (.int (bestF (fun x b => decide (wayF j x b < 0)) b.1 (rest.map (·.1))) t))) ⟨h', g, d, tk', os⟩) →
    codeAny (model PG w) A (.builtin "min.loop" ⟨[.ref it, .ref K.C, .ref best], []⟩) R ⟨h, g, d, tk, os⟩
  | rest, i, h, tk, b, ka, dd, c, oit, hd, L, hit, hR => by
    have hname : (toString "min" ++ toString ".loop" : String) = "min.loop" := by decide
    have hb := L.hit (a := best) (.tail _ (.head _))
    have hi := L.hit (a := it) (.head _)
    have hl2 := L.keeps _ _ hl
    refine codeAny_builtin F.entry_min_loop ?_
    rw [Around.under_plainId F.plain_min_loop _]
    show wpAny _ A.in1 (seqItems? (.ref best) >>= _) _ _ _
    refine wpAny_bind (wpAny_seqItems hb rfl ?_)
    show wpAny _ A.in1 (tryCatch (pyNext (.ref it)) _ >>= _) _ _ _
    match rest, hd, hR with
    | [], hd, hR =>
      have hn : vs.length ≤ i := List.drop_eq_nil_iff.mp hd
      refine wpAny_bind (wpAny_tryCatch (wpAny_pyNext_list_end (l := l) (i := i) (items := (vs.map val).toArray) S.handled ⟨_, hi, hit⟩ ⟨_, hl2, rfl, e, rfl⟩ (by simpa using hn) fun h' hs => ?_))
      have L2 := L.drop hs
      have hb2 := L2.hit (a := best) (.head _)
      have L3 := listUp_L L2 (ys := #[]) (.here rfl) (fun _ => #[]) rfl
      show wpAny _ A.in1 (updateSeq best (fun _ => #[]) >>= _) _ _ _
      refine wpAny_bind (wpAny_updateSeq hb2 rfl ?_)
      refine wpAny_bind (wpAny_letGo (wpAny_pure ?_))
      exact hR _ tk b.2 L3.keeps
    | p :: rest, hd, hR =>
      have hn : i < vs.length := by
        by_cases q : i < vs.length
        · exact q
        · rw [List.drop_eq_nil_of_le (by omega)] at hd; cases hd
      have hp : vs[i]? = some p := by
        have := congrArg (fun l => l[0]?) hd
        simpa using this
      have hr : vs.drop (i + 1) = rest := by
        have := congrArg List.tail hd
        simpa using this
      refine wpAny_bind (wpAny_tryCatch (wpAny_pyNext_list_item (l := l) (i := i) (items := (vs.map val).toArray) (x := val p) ⟨_, hi, hit⟩ ⟨_, hl2, rfl, e, rfl⟩ (by simp [hp]) fun h' he hs => ?_))
      obtain ⟨oit', ho', hc', hd'⟩ := he
      have L2 := L.same (.here rfl) hs ho'
      show wpAny _ A.in1 (tryCatch (holding [val p] (PySem.call (.ref K.C) [val p])) _ >>= _) _ _ _
      refine wpAny_bind (wpAny_tryCatch (wpAny_holding (newW w A.in1 S j h₀ g d os KR T HT K H h' L2.keeps tk p.1 p.2 _ _ fun h2 a2 d2 tk2 k2 n2 e2 => ?_)))
      have L3 := Lg.add L2 k2 n2 e2
      have i2 := L3.hit (a := a2) (.head _)
      have i1 := L3.hit (a := ka) (.tail _ (.tail _ (.tail _ (.head _))))
      show wpAny _ A.in1 (tryCatch (holding [val p, .ref a2] (richCompare .Lt (.ref a2) (.ref ka) >>= _)) _ >>= _) _ _ _
      refine wpAny_bind (wpAny_tryCatch (wpAny_holding (wpAny_bind (richW1 w A.in1 S j hj h2 g d tk2 os (KR.keeps L3.keeps) T (HT.keeps L3.keeps) K (H.keeps L3.keeps) a2 ka d2 dd p.1 b.1 p.2 b.2 i2 i1 _ _ fun h3 tk3 k3 => ?_))))
      have L4 := L3.grow k3
      refine wpAny_bind (wpAny_holding (wpAny_truthy_bool ?_))
      refine wpAny_bind (wpAny_letGo (wpAny_pure ?_))
      by_cases q : wayF j p.1 b.1 < 0
      · rw [if_pos (decide_eq_true q)]
        have hb2 := L4.hit (a := best) (.tail _ (.tail _ (.head _)))
        obtain ⟨c2, L5⟩ : ∃ c2, Lg [] h₀ (h3.update best (Obj.mapSeq fun _ => #[val p, .ref a2])) [(a2, oInst K.C d2 p.1 p.2), (it, oit'), (best, seqObj "list" #[val p, .ref a2] c2), (ka, oInst K.C dd b.1 b.2)] := ⟨_, listUp_L L4 (.there (.there (.here rfl))) _ rfl⟩
        refine wpAny_bind (wpAny_updateSeq hb2 rfl ?_)
        refine wpAny_bind (wpAny_letGo ?_)
        rw [hname]
        refine wpAny_pure ⟨plainId_quiet F.plain_min_loop _, min_loop w A S j hj h₀ g d os KR T HT K H l vs e hl h64 it best R rest (i + 1) _ tk3 p a2 d2 c2 oit' hr
          ((L5.perm (List.perm_middle (l₁ := [(a2, _), (it, _), (best, _)]) (l₂ := []))).sub (List.Sublist.cons _ (List.Sublist.refl _)) |>.perm (by exact (List.perm_middle (l₁ := [(it, _), (best, _)]) (l₂ := [])).symm)) ⟨hc', hd'⟩ fun h5 tk5 t5 k5 => ?_⟩
        have := hR h5 tk5 t5 k5
        simp only [List.map_cons, bestF, List.foldl_cons] at this
        rw [if_pos (decide_eq_true q)] at this
        exact this
      · rw [if_neg (by simpa using q)]
        refine wpAny_bind (wpAny_letGo ?_)
        rw [hname]
        refine wpAny_pure ⟨plainId_quiet F.plain_min_loop _, min_loop w A S j hj h₀ g d os KR T HT K H l vs e hl h64 it best R rest (i + 1) _ tk3 b ka dd c oit' hr
          (L4.sub (List.Sublist.cons _ (List.Sublist.refl _))) ⟨hc', hd'⟩ fun h5 tk5 t5 k5 => ?_⟩
        have := hR h5 tk5 t5 k5
        simp only [List.map_cons, bestF, List.foldl_cons] at this
        rw [if_neg (by simpa using q)] at this
        exact this
/-- min(row, key=key) -/
theorem minW (w : World) (A : Around) (S : Shallow A.in1) (j : Nat) (hj : j < 3) (h : Heap) (g d tk os) (KR : Old w h) (T : TD) (HT : TabOK w h T) (K : KD) (H : KOK w h T K (.ref (wayA j))) (l : Addr) (v : Int × Tok) (vs : List (Int × Tok)) (e : Nat)
    (hl : h.get? l = some (seqObj "list" ((v :: vs).map val).toArray e)) (h64 : (v :: vs).length < 64) (Q : Value → Shared → Prop) (E : Value → Shared → Prop)
    (hq : ∀ h' tk' t, Keeps h h' → Q (.int (bestF (fun x b => decide (wayF j x b < 0)) v.1 (vs.map (·.1))) t) ⟨h', g, d, tk', os⟩) :
    wpAny (model PG w) A (PySem.call (.builtin "min") [.ref l] [(Str.ofString "key", .ref K.C)]) Q E ⟨h, g, d, tk, os⟩ := by
  have hname : (toString "min" ++ toString ".loop" : String) = "min.loop" := by decide
  refine callKwTree F.kind_min F.plain_min F.entry_min (by unfold argsOk; kernel_rfl) ?_
  show wpAny _ A.in1 (Builtin.Builtins.bindParams "min" ["key", "default"] 0 ⟨[], [(Str.ofString "key", .ref K.C)]⟩ >>= _) _ _ _
  refine wpAny_bind (wpAny_of_eq (show Builtin.Builtins.bindParams "min" ["key", "default"] 0 ⟨[], [(Str.ofString "key", .ref K.C)]⟩ = pure [some (.ref K.C), none] by kernel_rfl!) ?_)
  refine wpAny_bind (wpAny_pure ?_)
  have L0 := Lg.start h
  refine wpAny_bind (wpAny_pyIter_list (items := ((v :: vs).map val).toArray) ⟨_, hl, rfl, e, rfl⟩ ?_)
  have L1 := L0.alloc (o := { cls := .type "list_iterator", data := .fields #[.ref l, .int 0 0] }) rfl
  refine wpAny_bind (wpAny_newList ?_ (Nat.zero_le _))
  have L2 := L1.alloc (o := { cls := .type "list", data := .seq #[] }) rfl
  rw [hname]
  have hb := L2.hit (.head _)
  have hi := L2.hit (.tail _ (.head _))
  have hl2 := L2.keeps _ _ hl
  refine wpAny_pure ⟨plainId_quiet F.plain_min_loop _, ?_⟩
  refine codeAny_builtin F.entry_min_loop ?_
  rw [Around.under_plainId F.plain_min_loop _]
  show wpAny _ A.in1 (seqItems? (.ref _) >>= _) _ _ _
  refine wpAny_bind (wpAny_seqItems hb rfl ?_)
  show wpAny _ A.in1 (tryCatch (pyNext (.ref _)) _ >>= _) _ _ _
  refine wpAny_bind (wpAny_tryCatch (wpAny_pyNext_list_item (l := l) (i := 0) (items := ((v :: vs).map val).toArray) (x := val v) ⟨_, hi, rfl, rfl⟩ ⟨_, hl2, rfl, e, rfl⟩ (by simp) fun h' he hs => ?_))
  obtain ⟨oit', ho', hc', hd'⟩ := he
  have L3 := L2.same (.there (.here rfl)) hs ho'
  show wpAny _ A.in1 (tryCatch (holding [val v] (PySem.call (.ref K.C) [val v])) _ >>= _) _ _ _
  refine wpAny_bind (wpAny_tryCatch (wpAny_holding (newW w A.in1 S j h g d os KR T HT K H h' L3.keeps tk v.1 v.2 _ _ fun h2 a2 d2 tk2 k2 n2 e2 => ?_)))
  have L4 := Lg.add L3 k2 n2 e2
  have hb2 := L4.hit (.tail _ (.head _))
  obtain ⟨c2, L5⟩ : ∃ c2, Lg [] h (h2.update _ (Obj.mapSeq fun _ => #[val v, .ref a2])) [(a2, oInst K.C d2 v.1 v.2), (_, seqObj "list" #[val v, .ref a2] c2), (_, oit')] := ⟨_, listUp_L L4 (.there (.here rfl)) _ rfl⟩
  refine wpAny_bind (wpAny_updateSeq hb2 rfl ?_)
  rw [hname]
  refine wpAny_pure ⟨plainId_quiet F.plain_min_loop _, min_loop w A S j hj h g d os KR T HT K H l (v :: vs) e hl h64 _ _ _ vs 1 _ tk2 v a2 d2 c2 oit' rfl (L5.perm ?_) ⟨hc', hd'⟩ hq⟩
  exact (List.reverse_perm [(a2, _), (_, _), (_, _)]).symm
/-- max(row, key=key): the loop, a best one in hand -/
theorem max_loop (w : World) (A : Around) (S : Shallow A.in1) (j : Nat) (hj : j < 3) (h₀ : Heap) (g : Array GenState) (d : Drawn) (os : OsState) (KR : Old w h₀) (T : TD) (HT : TabOK w h₀ T) (K : KD) (H : KOK w h₀ T K (.ref (wayA j)))
    (l : Addr) (vs : List (Int × Tok)) (e : Nat) (hl : h₀.get? l = some (seqObj "list" (vs.map val).toArray e)) (h64 : vs.length < 64) (it best : Addr) (R : Result → Shared → Prop) :
    ∀ (rest : List (Int × Tok)) (i : Nat) (h : Heap) (tk : Nat) (b : Int × Tok) (ka dd : Addr) (c : Nat) (oit : Obj), vs.drop i = rest → Lg [] h₀ h [(it, oit), (best, seqObj "list" #[val b, .ref ka] c), (ka, oInst K.C dd b.1 b.2)] →
    (oit.cls = .type "list_iterator" ∧ oit.data = .fields #[.ref l, .int i 0]) →
    (∀ h' tk' t, Keeps h₀ h' → R (.ok (.ret (.int (bestF (fun x b => decide (0 < wayF j x b)) b.1 (rest.map (·.1))) t))) ⟨h', g, d, tk', os⟩) →
    codeAny (model PG w) A (.builtin "max.loop" ⟨[.ref it, .ref K.C, .ref best], []⟩) R ⟨h, g, d, tk, os⟩
  | rest, i, h, tk, b, ka, dd, c, oit, hd, L, hit, hR => by
    have hname : (toString "max" ++ toString ".loop" : String) = "max.loop" := by decide
    have hb := L.hit (a := best) (.tail _ (.head _))
    have hi := L.hit (a := it) (.head _)
    have hl2 := L.keeps _ _ hl
    refine codeAny_builtin F.entry_max_loop ?_
    rw [Around.under_plainId F.plain_max_loop _]
    show wpAny _ A.in1 (seqItems? (.ref best) >>= _) _ _ _
    refine wpAny_bind (wpAny_seqItems hb rfl ?_)
    show wpAny _ A.in1 (tryCatch (pyNext (.ref it)) _ >>= _) _ _ _
    match rest, hd, hR with
    | [], hd, hR =>
      have hn : vs.length ≤ i := List.drop_eq_nil_iff.mp hd
      refine wpAny_bind (wpAny_tryCatch (wpAny_pyNext_list_end (l := l) (i := i) (items := (vs.map val).toArray) S.handled ⟨_, hi, hit⟩ ⟨_, hl2, rfl, e, rfl⟩ (by simpa using hn) fun h' hs => ?_))
      have L2 := L.drop hs
      have hb2 := L2.hit (a := best) (.head _)
      have L3 := listUp_L L2 (ys := #[]) (.here rfl) (fun _ => #[]) rfl
      show wpAny _ A.in1 (updateSeq best (fun _ => #[]) >>= _) _ _ _
      refine wpAny_bind (wpAny_updateSeq hb2 rfl ?_)
      refine wpAny_bind (wpAny_letGo (wpAny_pure ?_))
      exact hR _ tk b.2 L3.keeps
    | p :: rest, hd, hR =>
      have hn : i < vs.length := by
        by_cases q : i < vs.length
        · exact q
        · rw [List.drop_eq_nil_of_le (by omega)] at hd; cases hd
      have hp : vs[i]? = some p := by
        have := congrArg (fun l => l[0]?) hd
        simpa using this
      have hr : vs.drop (i + 1) = rest := by
        have := congrArg List.tail hd
        simpa using this
      refine wpAny_bind (wpAny_tryCatch (wpAny_pyNext_list_item (l := l) (i := i) (items := (vs.map val).toArray) (x := val p) ⟨_, hi, hit⟩ ⟨_, hl2, rfl, e, rfl⟩ (by simp [hp]) fun h' he hs => ?_))
      obtain ⟨oit', ho', hc', hd'⟩ := he
      have L2 := L.same (.here rfl) hs ho'
      show wpAny _ A.in1 (tryCatch (holding [val p] (PySem.call (.ref K.C) [val p])) _ >>= _) _ _ _
      refine wpAny_bind (wpAny_tryCatch (wpAny_holding (newW w A.in1 S j h₀ g d os KR T HT K H h' L2.keeps tk p.1 p.2 _ _ fun h2 a2 d2 tk2 k2 n2 e2 => ?_)))
      have L3 := Lg.add L2 k2 n2 e2
      have i2 := L3.hit (a := a2) (.head _)
      have i1 := L3.hit (a := ka) (.tail _ (.tail _ (.tail _ (.head _))))
      show wpAny _ A.in1 (tryCatch (holding [val p, .ref a2] (richCompare .Gt (.ref a2) (.ref ka) >>= _)) _ >>= _) _ _ _
      refine wpAny_bind (wpAny_tryCatch (wpAny_holding (wpAny_bind (richW2 w A.in1 S j hj h2 g d tk2 os (KR.keeps L3.keeps) T (HT.keeps L3.keeps) K (H.keeps L3.keeps) a2 ka d2 dd p.1 b.1 p.2 b.2 i2 i1 _ _ fun h3 tk3 k3 => ?_))))
      have L4 := L3.grow k3
      refine wpAny_bind (wpAny_holding (wpAny_truthy_bool ?_))
      refine wpAny_bind (wpAny_letGo (wpAny_pure ?_))
      by_cases q : 0 < wayF j p.1 b.1
      · rw [if_pos (decide_eq_true q)]
        have hb2 := L4.hit (a := best) (.tail _ (.tail _ (.head _)))
        obtain ⟨c2, L5⟩ : ∃ c2, Lg [] h₀ (h3.update best (Obj.mapSeq fun _ => #[val p, .ref a2])) [(a2, oInst K.C d2 p.1 p.2), (it, oit'), (best, seqObj "list" #[val p, .ref a2] c2), (ka, oInst K.C dd b.1 b.2)] := ⟨_, listUp_L L4 (.there (.there (.here rfl))) _ rfl⟩
        refine wpAny_bind (wpAny_updateSeq hb2 rfl ?_)
        refine wpAny_bind (wpAny_letGo ?_)
        rw [hname]
        refine wpAny_pure ⟨plainId_quiet F.plain_max_loop _, max_loop w A S j hj h₀ g d os KR T HT K H l vs e hl h64 it best R rest (i + 1) _ tk3 p a2 d2 c2 oit' hr
          ((L5.perm (List.perm_middle (l₁ := [(a2, _), (it, _), (best, _)]) (l₂ := []))).sub (List.Sublist.cons _ (List.Sublist.refl _)) |>.perm (by exact (List.perm_middle (l₁ := [(it, _), (best, _)]) (l₂ := [])).symm)) ⟨hc', hd'⟩ fun h5 tk5 t5 k5 => ?_⟩
        have := hR h5 tk5 t5 k5
        simp only [List.map_cons, bestF, List.foldl_cons] at this
        rw [if_pos (decide_eq_true q)] at this
        exact this
      · rw [if_neg (by simpa using q)]
        refine wpAny_bind (wpAny_letGo ?_)
        rw [hname]
        refine wpAny_pure ⟨plainId_quiet F.plain_max_loop _, max_loop w A S j hj h₀ g d os KR T HT K H l vs e hl h64 it best R rest (i + 1) _ tk3 b ka dd c oit' hr
          (L4.sub (List.Sublist.cons _ (List.Sublist.refl _))) ⟨hc', hd'⟩ fun h5 tk5 t5 k5 => ?_⟩
        have := hR h5 tk5 t5 k5
        simp only [List.map_cons, bestF, List.foldl_cons] at this
        rw [if_neg (by simpa using q)] at this
        exact this
/-- max(row, key=key) -/
theorem maxW (w : World) (A : Around) (S : Shallow A.in1) (j : Nat) (hj : j < 3) (h : Heap) (g d tk os) (KR : Old w h) (T : TD) (HT : TabOK w h T) (K : KD) (H : KOK w h T K (.ref (wayA j))) (l : Addr) (v : Int × Tok) (vs : List (Int × Tok)) (e : Nat)
    (hl : h.get? l = some (seqObj "list" ((v :: vs).map val).toArray e)) (h64 : (v :: vs).length < 64) (Q : Value → Shared → Prop) (E : Value → Shared → Prop)
    (hq : ∀ h' tk' t, Keeps h h' → Q (.int (bestF (fun x b => decide (0 < wayF j x b)) v.1 (vs.map (·.1))) t) ⟨h', g, d, tk', os⟩) :
    wpAny (model PG w) A (PySem.call (.builtin "max") [.ref l] [(Str.ofString "key", .ref K.C)]) Q E ⟨h, g, d, tk, os⟩ := by
  have hname : (toString "max" ++ toString ".loop" : String) = "max.loop" := by decide
  refine callKwTree F.kind_max F.plain_max F.entry_max (by unfold argsOk; kernel_rfl) ?_
  show wpAny _ A.in1 (Builtin.Builtins.bindParams "max" ["key", "default"] 0 ⟨[], [(Str.ofString "key", .ref K.C)]⟩ >>= _) _ _ _
  refine wpAny_bind (wpAny_of_eq (show Builtin.Builtins.bindParams "max" ["key", "default"] 0 ⟨[], [(Str.ofString "key", .ref K.C)]⟩ = pure [some (.ref K.C), none] by kernel_rfl!) ?_)
  refine wpAny_bind (wpAny_pure ?_)
  have L0 := Lg.start h
  refine wpAny_bind (wpAny_pyIter_list (items := ((v :: vs).map val).toArray) ⟨_, hl, rfl, e, rfl⟩ ?_)
  have L1 := L0.alloc (o := { cls := .type "list_iterator", data := .fields #[.ref l, .int 0 0] }) rfl
  refine wpAny_bind (wpAny_newList ?_ (Nat.zero_le _))
  have L2 := L1.alloc (o := { cls := .type "list", data := .seq #[] }) rfl
  rw [hname]
  have hb := L2.hit (.head _)
  have hi := L2.hit (.tail _ (.head _))
  have hl2 := L2.keeps _ _ hl
  refine wpAny_pure ⟨plainId_quiet F.plain_max_loop _, ?_⟩
  refine codeAny_builtin F.entry_max_loop ?_
  rw [Around.under_plainId F.plain_max_loop _]
  show wpAny _ A.in1 (seqItems? (.ref _) >>= _) _ _ _
  refine wpAny_bind (wpAny_seqItems hb rfl ?_)
  show wpAny _ A.in1 (tryCatch (pyNext (.ref _)) _ >>= _) _ _ _
  refine wpAny_bind (wpAny_tryCatch (wpAny_pyNext_list_item (l := l) (i := 0) (items := ((v :: vs).map val).toArray) (x := val v) ⟨_, hi, rfl, rfl⟩ ⟨_, hl2, rfl, e, rfl⟩ (by simp) fun h' he hs => ?_))
  obtain ⟨oit', ho', hc', hd'⟩ := he
  have L3 := L2.same (.there (.here rfl)) hs ho'
  show wpAny _ A.in1 (tryCatch (holding [val v] (PySem.call (.ref K.C) [val v])) _ >>= _) _ _ _
  refine wpAny_bind (wpAny_tryCatch (wpAny_holding (newW w A.in1 S j h g d os KR T HT K H h' L3.keeps tk v.1 v.2 _ _ fun h2 a2 d2 tk2 k2 n2 e2 => ?_)))
  have L4 := Lg.add L3 k2 n2 e2
  have hb2 := L4.hit (.tail _ (.head _))
  obtain ⟨c2, L5⟩ : ∃ c2, Lg [] h (h2.update _ (Obj.mapSeq fun _ => #[val v, .ref a2])) [(a2, oInst K.C d2 v.1 v.2), (_, seqObj "list" #[val v, .ref a2] c2), (_, oit')] := ⟨_, listUp_L L4 (.there (.here rfl)) _ rfl⟩
  refine wpAny_bind (wpAny_updateSeq hb2 rfl ?_)
  rw [hname]
  refine wpAny_pure ⟨plainId_quiet F.plain_max_loop _, max_loop w A S j hj h g d os KR T HT K H l (v :: vs) e hl h64 _ _ _ vs 1 _ tk2 v a2 d2 c2 oit' rfl (L5.perm ?_) ⟨hc', hd'⟩ hq⟩
  exact (List.reverse_perm [(a2, _), (_, _), (_, _)]).symm
end
section
set_option maxHeartbeats 200000
set_option maxRecDepth 512
def en : Nat → List Int → List (Int × Nat)
  | _, [] => []
  | k, x :: r => (x, k) :: en (k + 1) r
theorem en_map : ∀ (k : Nat) (xs : List Int), (en k xs).map (·.1) = xs
  | _, [] => rfl
  | k, x :: r => by simp [en, en_map (k + 1) r]
theorem en_lo : ∀ (k : Nat) (xs : List Int), ∀ p ∈ en k xs, k ≤ p.2
  | _, [], p, hp => by cases hp
  | k, x :: r, p, hp => by
    rcases List.mem_cons.mp hp with rfl | hp
    · exact Nat.le_refl _
    · have := en_lo (k + 1) r p hp; omega
theorem en_up : ∀ (k : Nat) (xs : List Int), (en k xs).Pairwise fun a b => a.2 < b.2
  | _, [] => List.Pairwise.nil
  | k, x :: r => List.pairwise_cons.mpr ⟨fun p hp => by have := en_lo (k + 1) r p hp; show k < p.2; omega, en_up (k + 1) r⟩
theorem laid_pairs (j : Nat) (xs : List Int) : ∃ L : List (Int × Nat), L.Pairwise (Sb j) ∧ L.Perm (en 0 xs) ∧ laidF j xs = L.map (·.1) := by
  have hp := fold_ins_sorted (j := j) (en 0 xs) [] List.Pairwise.nil (en_up 0 xs) (fun a ha => by cases ha)
  rw [List.append_nil] at hp
  refine ⟨_, hp.1, hp.2, ?_⟩
  rw [fold_ins_map (fun a : Int × Nat => a.1) (fun o one => decide (wayF j o one ≤ 0)), en_map]
  rfl
section
variable (W : Int → Int → Int) (anti : ∀ x y, W y x = - W x y) (tr : ∀ x y z, W x y ≤ 0 → W y z ≤ 0 → W x z ≤ 0)
def Fb (a b : Int × Nat) : Prop := W a.1 b.1 < 0 ∨ (W a.1 b.1 = 0 ∧ a.2 < b.2)
def stepP (b x : Int × Nat) : Int × Nat := if W x.1 b.1 < 0 then x else b
include anti tr in
theorem Fb.trans {a b c : Int × Nat} (h : Fb W a b) (k : Fb W b c) : Fb W a c := by
  have h1 : W a.1 b.1 ≤ 0 := by rcases h with h | h <;> omega
  have k1 : W b.1 c.1 ≤ 0 := by rcases k with k | k <;> omega
  have t := tr _ _ _ h1 k1
  by_cases q : W a.1 c.1 = 0
  · refine .inr ⟨q, ?_⟩
    have q2 : W c.1 a.1 ≤ 0 := by have := anti a.1 c.1; omega
    have e1 := tr _ _ _ k1 q2
    have e2 := tr _ _ _ q2 h1
    have a1 := anti a.1 b.1
    have a2 := anti b.1 c.1
    rcases h with h | h <;> rcases k with k | k <;> omega
  · exact .inl (by omega)
include anti tr in
theorem first_best : ∀ (ps : List (Int × Nat)) (b : Int × Nat), ps.Pairwise (fun a b => a.2 < b.2) → (∀ p ∈ ps, b.2 < p.2) →
    ps.foldl (stepP W) b ∈ b :: ps ∧ ∀ x ∈ b :: ps, x = ps.foldl (stepP W) b ∨ Fb W (ps.foldl (stepP W) b) x
  | [], b, _, _ => ⟨.head _, fun x hx => .inl (List.mem_singleton.mp hx)⟩
  | p :: ps, b, hp, hb => by
    rw [List.pairwise_cons] at hp
    have hbp := hb p (.head _)
    have IH := first_best ps (stepP W b p) hp.2 (by
      intro q hq
      unfold stepP
      split
      · exact hp.1 q hq
      · exact hb q (.tail _ hq))
    rw [List.foldl_cons]
    obtain ⟨hm, hx⟩ := IH
    have hs := hx _ (.head _)
    generalize ps.foldl (stepP W) (stepP W b p) = m at *
    unfold stepP at hm hx hs
    by_cases q : W p.1 b.1 < 0
    · simp only [if_pos q] at hm hx hs
      refine ⟨?_, fun x hxm => ?_⟩
      · rcases List.mem_cons.mp hm with rfl | hm
        · exact .tail _ (.head _)
        · exact .tail _ (.tail _ hm)
      · rcases List.mem_cons.mp hxm with rfl | hxm
        · right
          rcases hs with rfl | hs
          · exact .inl q
          · exact hs.trans W anti tr (.inl q)
        · exact hx x hxm
    · simp only [if_neg q] at hm hx hs
      have hbp2 : Fb W b p := by
        have := anti p.1 b.1
        by_cases z : W b.1 p.1 = 0
        · exact .inr ⟨z, hbp⟩
        · exact .inl (by omega)
      refine ⟨?_, fun x hxm => ?_⟩
      · rcases List.mem_cons.mp hm with rfl | hm
        · exact .head _
        · exact .tail _ (.tail _ hm)
      · rcases List.mem_cons.mp hxm with rfl | hxm
        · exact hs
        · rcases List.mem_cons.mp hxm with rfl | hxm
          · right
            rcases hs with rfl | hs
            · exact hbp2
            · exact hs.trans W anti tr hbp2
          · exact hx x (.tail _ hxm)
theorem best_pairs (rel : Int → Int → Bool) (hr : ∀ x b, rel x b = true ↔ W x b < 0) : ∀ (xs : List Int) (k : Nat) (b : Int) (kb : Nat), ((en k xs).foldl (stepP W) (b, kb)).1 = bestF rel b xs
  | [], _, _, _ => rfl
  | x :: r, k, b, kb => by
    simp only [en, List.foldl_cons, bestF]
    by_cases q : W x b < 0
    · rw [if_pos ((hr x b).mpr q)]
      have : stepP W (b, kb) (x, k) = (x, k) := if_pos q
      rw [this]
      exact best_pairs rel hr r (k + 1) x k
    · rw [if_neg (fun e => q ((hr x b).mp e))]
      have : stepP W (b, kb) (x, k) = (b, kb) := if_neg q
      rw [this]
      exact best_pairs rel hr r (k + 1) b kb
include anti in
theorem Fb.asymm {a b : Int × Nat} (h : Fb W a b) (k : Fb W b a) : False := by
  have := anti a.1 b.1
  rcases h with h | h <;> rcases k with k | k <;> omega
end
/-- min by the way: the first of the laid row -/
theorem min_laid (j : Nat) (v : Int) (vs : List Int) : (laidF j (v :: vs))[0]? = some (bestF (fun x b => decide (wayF j x b < 0)) v vs) := by
  obtain ⟨L, hs, hp, e⟩ := laid_pairs j (v :: vs)
  have fb := first_best (wayF j) (wayF_anti j) (fun x y z => wayF_trans j) (en 1 vs) (v, 0) (en_up 1 vs) (fun p hp => by have := en_lo 1 vs p hp; show 0 < p.2; omega)
  have bp := best_pairs (wayF j) (fun x b => decide (wayF j x b < 0)) (fun x b => by simp) vs 1 v 0
  generalize (en 1 vs).foldl (stepP (wayF j)) (v, 0) = m at *
  rw [e, ← bp]
  cases L with
  | nil => have := hp.length_eq; simp [en] at this
  | cons h t =>
    rw [List.pairwise_cons] at hs
    have hm : m ∈ h :: t := hp.mem_iff.mpr fb.1
    have hh : h ∈ (v, 0) :: en 1 vs := hp.mem_iff.mp (.head _)
    have : m = h := by
      rcases List.mem_cons.mp hm with q | q
      · exact q
      · have h1 := hs.1 m q
        rcases fb.2 h hh with z | z
        · exact z.symm
        · exact (Fb.asymm (wayF j) (wayF_anti j) (show Fb (wayF j) h m from h1) z).elim
    simp [this]
/-- max by the way: the first of those like the laid row's last -/
theorem max_laid (j : Nat) (v : Int) (vs : List Int) (z : Int) (hz : (laidF j (v :: vs))[(laidF j (v :: vs)).length - 1]? = some z) :
    ((laidF j (v :: vs)).filter fun o => decide (wayF j o z = 0))[0]? = some (bestF (fun x b => decide (0 < wayF j x b)) v vs) := by
  obtain ⟨L, hs, hp, e⟩ := laid_pairs j (v :: vs)
  have anti' : ∀ x y, wayF j x y = - wayF j y x := fun x y => wayF_anti j y x
  have fb := first_best (fun x y => wayF j y x) (fun x y => anti' x y) (fun x y z h k => wayF_trans j k h) (en 1 vs) (v, 0) (en_up 1 vs) (fun p hp => by have := en_lo 1 vs p hp; show 0 < p.2; omega)
  have bp := best_pairs (fun x y => wayF j y x) (fun x b => decide (0 < wayF j x b)) (fun x b => by have := anti' b x; simp only [decide_eq_true_eq]; omega) vs 1 v 0
  generalize (en 1 vs).foldl (stepP (fun x y => wayF j y x)) (v, 0) = m at *
  rw [← bp]
  rw [e] at hz ⊢
  have hne : L ≠ [] := by
    rintro rfl
    have := hp.length_eq; simp [en] at this
  obtain ⟨L', l, rfl⟩ : ∃ L' l, L = L' ++ [l] := ⟨L.dropLast, L.getLast hne, (List.dropLast_concat_getLast hne).symm⟩
  have hlz : l.1 = z := by simpa using hz
  subst hlz
  have hlast : ∀ x ∈ L' ++ [l], wayF j x.1 l.1 ≤ 0 := by
    intro x hx
    rw [List.pairwise_append] at hs
    rcases List.mem_append.mp hx with q | q
    · exact (hs.2.2 x q l (List.mem_singleton.mpr rfl)).le
    · rw [List.mem_singleton.mp q]
      have := wayF_anti j l.1 l.1; omega
  have hm : m ∈ L' ++ [l] := hp.mem_iff.mpr fb.1
  have hml : wayF j m.1 l.1 = 0 := by
    have h1 := hlast m hm
    rcases fb.2 l (hp.mem_iff.mp (List.mem_append_right _ (List.mem_singleton.mpr rfl))) with q | q
    · rw [q] at h1 ⊢
      have := wayF_anti j m.1 m.1; omega
    · have := wayF_anti j m.1 l.1
      rcases q with q | q
      · have q' : wayF j l.1 m.1 < 0 := q
        omega
      · have q' : wayF j l.1 m.1 = 0 := q.1
        omega
  rw [List.filter_map]
  have hF := hs.sublist (List.filter_sublist (p := (fun o => decide (wayF j o l.1 = 0)) ∘ fun x : Int × Nat => x.1) (l := L' ++ [l]))
  have hmF : m ∈ (L' ++ [l]).filter ((fun o => decide (wayF j o l.1 = 0)) ∘ fun x : Int × Nat => x.1) := by
    rw [List.mem_filter]; exact ⟨hm, by simp [hml]⟩
  have hall : ∀ x ∈ (L' ++ [l]).filter ((fun o => decide (wayF j o l.1 = 0)) ∘ fun x : Int × Nat => x.1), x ∈ L' ++ [l] ∧ wayF j x.1 l.1 = 0 := fun x hx => by
    rw [List.mem_filter] at hx; exact ⟨hx.1, by simpa using hx.2⟩
  generalize (L' ++ [l]).filter ((fun o => decide (wayF j o l.1 = 0)) ∘ fun x : Int × Nat => x.1) = F at *
  cases F with
  | nil => cases hmF
  | cons f F' =>
    rw [List.pairwise_cons] at hF
    have : m = f := by
      rcases List.mem_cons.mp hmF with q | q
      · exact q
      · exfalso
        have h1 := hF.1 m q
        have hf := hall f (.head _)
        have e1 : wayF j f.1 m.1 = 0 := by
          have a1 := wayF_trans j (show wayF j f.1 l.1 ≤ 0 by omega) (show wayF j l.1 m.1 ≤ 0 by have := wayF_anti j m.1 l.1; omega)
          have a2 := wayF_trans j (show wayF j m.1 l.1 ≤ 0 by omega) (show wayF j l.1 f.1 ≤ 0 by have := wayF_anti j f.1 l.1; omega)
          have := wayF_anti j f.1 m.1; omega
        have h2 : f.2 < m.2 := by rcases h1 with h1 | h1 <;> omega
        rcases fb.2 f (hp.mem_iff.mp hf.1) with z | z
        · rw [z] at h2; omega
        · rcases z with z | z
          · have z' : wayF j f.1 m.1 < 0 := z
            omega
          · have := z.2; omega
    simp [this]
end

theorem laid_walk (w : World) (A : Around) (S : Deep2 A) (j : Nat) (hj : j < 3) (h₀ : Heap) (KR : Old w h₀) (g d tk os) (l : Addr) (vs : List (Int × Tok)) (e : Nat)
   (hl : h₀.get? l = some (seqObj "list" (vs.map val).toArray e)) (h64 : vs.length < 64) (Q : Value → Shared → Prop) (E : Value → Shared → Prop)
   (hQ : ∀ h' D tk' (out : List (Int × Tok)) c, Lg [] h₀ h' [(D, seqObj "list" (out.map val).toArray c)] → out.map (·.1) = laidF j (vs.map (·.1)) → Q (.ref D) ⟨h', g, d, tk', os⟩) :
   wpAny (model PG w) A (PySem.call (.ref 56) [.ref l, .ref (wayA j)]) Q E ⟨h₀, g, d, tk, os⟩ := by
  have D := Lg.start h₀
  have h2 := KR.fr 2 _ rfl rfl rfl
  have h56 := KR.fr 56 _ rfl rfl rfl
  have h3 := KR.fr 3 _ rfl rfl rfl
  refine wpAny_call (codeAny_of_tree ?_)
  show wpAny (model PG w) A.in1 (callAny (.ref 56) ⟨[.ref l, .ref (wayA j)], []⟩) _ _ _
  refine WP.out (WP.noE fun EE => ?_)
  repeat ktyn_q
  rename_i fr hfr Dfr c1 hc1 Dc1 c2 hc2 Dc2 hp Dp hq Dq
  obtain ⟨oL, N0, oc1, C1, oc2, C2, D5⟩ : ∃ oL, NsO oL (upd noNames (Str.ofString "row") (.ref l)) ∧ ∃ oc1, CellO oc1 (some (.ref (wayA j))) ∧ ∃ oc2, CellO oc2 none ∧ Lg [] h₀ hq [(c2, oc2), (c1, oc1), (fr, oL)] :=
    ⟨_, nsO_put nsO_empty', _, cellO, _, cellO, Dq⟩
  clear D Dfr Dc1 Dc2 Dp Dq h56 h3 h2
  refine ⟨rfl, enter (fun env => EnvOK env fr [(Str.ofString "row", .local), (Str.ofString "way", .cell), (Str.ofString "laid", .local), (Str.ofString "one", .cell), (Str.ofString "place", .local), (Str.ofString "len", .globalImplicit)] [(Str.ofString "one", c2), (Str.ofString "way", c1)]) ⟨rfl, rfl, rfl, rfl, rfl, rfl⟩ fun env V => ?_⟩
  refine WP.out (WP.noE fun EE => ?_)
  generalize hA : A.deeper env = A1
  have S1 : Deep A1 := hA ▸ Deep2.deeper S _
  clear hA
  repeat tb_rel
  rename_i a0 hb Db hd od Nd Dd it hi Di
  refine codeAny_forLoop (fun n s' => ∃ (i : Nat) (h' : Heap) (tk' : Nat) (oL oc2 : Obj) (m : Str → Option Value) (D : Addr) (out : List (Int × Tok)) (c : Nat) (oit : Obj) (o2 : Option Value), s' = ⟨h', g, d, tk', os⟩ ∧ n = vs.length + 1 - i ∧ i ≤ vs.length ∧
     NsO oL m ∧ m (Str.ofString "laid") = some (.ref D) ∧ CellO oc2 o2 ∧ Lg [] h₀ h' [(D, seqObj "list" (out.map val).toArray c), (it, oit), (c2, oc2), (c1, oc1), (fr, oL)] ∧
     out.map (·.1) = laidF j ((vs.take i).map (·.1)) ∧ out.length = i ∧ oit.cls = .type "list_iterator" ∧ oit.data = .fields #[.ref l, .int i 0]) ?turn (vs.length + 1)
     ⟨0, _, _, od, oc2, _, a0, [], 0, _, none, rfl, rfl, Nat.zero_le _, Nd, upd_eq, C2, Di.perm (List.Perm.swap _ _ _), rfl, rfl, rfl, rfl⟩
  case turn =>
    clear Db Dd Di Nd N0 D5 C2
    rintro n s' ⟨i, h', tk', oL, oc2, m, D, out, c, oit, o2, rfl, rfl, hile, N1, hm, C2, L1, hout, hlen, hit1, hit2⟩
    have hi1 := L1.hit (a := it) (.tail _ (.head _))
    have hl2 := L1.keeps _ _ hl
    by_cases hn : i < vs.length
    · refine wpAny_pyNext_list_item (l := l) (i := i) (items := (vs.map val).toArray) (x := val vs[i]) ⟨_, hi1, hit1, hit2⟩ ⟨_, hl2, rfl, e, rfl⟩ (by simp [hn]) fun h2 he hs => ?_
      obtain ⟨oit', ho', hc', hd'⟩ := he
      have L2 := L1.same (.there (.here rfl)) hs ho'
      clear L1 hi1
      show wpAny _ _ (assign _ _ _) _ _ _
      refine WP.out (WP.noE fun EE => ?_)
      repeat tb_rel
      refine WP.out (WP.noE fun EE => WP.hide fun QQ hQQ => ?_)
      repeat tb_rel
      rename_i h3 oc2' C2' L3
      refine q_compF (cl := [(Str.ofString "way", c1), (Str.ofString "one", c2)]) (fun x => decide (wayF j x vs[i].1 ≤ 0)) S1.handled ?clos (by decide +kernel) rfl (by decide +kernel) (by kernel_rfl!) (fun _ => rfl) (by kernel_rfl!) ?_
      case clos => unfold closureFor cellOf; rw [V.cls]; rfl
      repeat tb_rel
      refine ⟨D, out, c, h3, _, rfl, rfl, L3.hit (.head _), by simp [sizeLine_eq]; omega, ?test, ?_⟩
      case test =>
        intro C z h₂ g₂ d₂ t₂ os₂ o₂ m₂ E' hz k₂ eC N₂ hmx
        have KR2 := KR.keeps (L3.keeps.trans k₂)
        have e1 := k₂ _ _ (L3.hit (a := c1) (.tail _ (.tail _ (.tail _ (.head _)))))
        have e2 := k₂ _ _ (L3.hit (a := c2) (.tail _ (.tail _ (.head _))))
        have V2 := EnvOK.comp (C := C) (cl := [(Str.ofString "way", c1), (Str.ofString "one", c2)]) (scope := { kind := .function, names := [(Str.ofString ".0", .local), (Str.ofString "other", .local), (Str.ofString "one", .free), (Str.ofString "way", .free)], isGenerator := false, isCoroutine := false }) (nms' := [(Str.ofString ".0", .local), (Str.ofString "other", .local), (Str.ofString "one", .cell), (Str.ofString "way", .cell)]) V rfl (by kernel_rfl!)
        refine wpAny_tests_one ?_
        clear V
        refine WP.out (WP.noE fun EE => ?_)
        repeat tb_rel
        obtain ⟨ow, fw, hw1, hw2⟩ := way_obj KR2 hj
        refine q_cwD rfl hw2 ?_
        repeat tb_rel
        refine ⟨hw1, wayW w _ (S1.sh : Shallow A1) j hj h₂ g₂ d₂ _ os₂ KR2 z.1 vs[i].1 z.2 vs[i].2 _ _ fun h3 t3 t' k3 => ?_⟩
        repeat tb_rel
        exact ⟨rfl, h3, _, rfl, k3⟩
      intro D1 h4 t4 c4 hD1 eD1 k4
      have L4 := Lg.add L3 k4 hD1 eD1
      have hfl : (out.filter fun z => decide (wayF j z.1 vs[i].1 ≤ 0)).length ≤ out.length := List.length_filter_le _ _
      clear eD1
      repeat tb_rel
      rename_i Dn h5 L5 h6 oL6 N6 L6
      have eo : List.take (List.filter (fun z => decide (wayF j z.fst vs[i].fst ≤ 0)) out).length (List.map val out) ++ [val vs[i]] ++ List.drop (List.filter (fun z => decide (wayF j z.fst vs[i].fst ≤ 0)) out).length (List.map val out)
        = (ins (fun a b : Int × Tok => decide (wayF j a.1 b.1 ≤ 0)) out vs[i]).map val := by simp [ins, List.map_take, List.map_drop]
      rw [eo] at L6
      have hev : vs.take (i + 1) = vs.take i ++ [vs[i]] := by rw [List.take_add_one]; simp [hn]
      refine hQQ _ _ ?_
      refine ⟨vs.length + 1 - (i + 1), by omega, i + 1, h6, _, oL6, oc2', _, Dn, ins (fun a b : Int × Tok => decide (wayF j a.1 b.1 ≤ 0)) out vs[i], 0, oit', some (val vs[i]), rfl, rfl, hn, N6, upd_eq, C2', L6.sub ?sl, ?_, ?_, hc', hd'⟩
      case sl => repeat (first | exact List.Sublist.refl _ | with_reducible apply List.Sublist.cons_cons | with_reducible apply List.Sublist.cons)
      · rw [ins_map (fun z : Int × Tok => z.1) (fun a b => decide (wayF j a b ≤ 0)), hout, hev]
        unfold laidF
        rw [List.map_append, List.foldl_append]
        rfl
      · rw [(ins_perm _ out vs[i]).length_eq, List.length_cons, hlen]
    · have hi : i = vs.length := by omega
      refine wpAny_pyNext_list_end (l := l) (i := i) (items := (vs.map val).toArray) S1.handled ⟨_, hi1, hit1, hit2⟩ ⟨_, hl2, rfl, e, rfl⟩ (by simp [hi]) fun h2 hs => ?_
      have L2 := (L1.perm (List.Perm.swap _ _ _)).drop hs
      refine wpAny_execs_nil ?_
      show wpAny _ _ (execs _ env) _ _ _
      refine WP.out (WP.noE fun EE => ?_)
      repeat tb_rel
      refine hQ h2 D _ out c (L2.sub ?sl) ?_
      case sl => exact List.Sublist.cons_cons _ (List.nil_sublist _)
      rw [hout, hi, List.take_length]

theorem reduce_init (w : World) (A : Around) (S : Deep2 A) (h₀ : Heap) (KR : Old w h₀) (g d tk os) (f l : Addr) (vs : List (Int × Tok)) (e : Nat) (v₀ : Int) (t₀ : Tok) (F : Int → Int → Int) (of : Obj) (fd : FuncData) (hof : h₀.get? f = some of) (hfd : of.data = .func fd)
   (hl : h₀.get? l = some (seqObj "list" (vs.map val).toArray e)) (Q : Value → Shared → Prop) (E : Value → Shared → Prop)
   (hf : ∀ pre b rest, vs = pre ++ b :: rest → ∀ (A' : Around) (E' : Value → Shared → Prop) (Q' : Value → Shared → Prop) (h' : Heap) (t' tk' : Nat), Deep A' → Keeps h₀ h' → (∀ h'' t'' tk'', Keeps h' h'' → Q' (.int (F ((pre.map (·.1)).foldl F v₀) b.1) t'') ⟨h'', g, d, tk'', os⟩) → wpAny (model PG w) A' (PySem.call (.ref f) [.int ((pre.map (·.1)).foldl F v₀) t', val b]) Q' E' ⟨h', g, d, tk', os⟩)
   (hQ : ∀ h' t' tk', Keeps h₀ h' → Q (.int ((vs.map (·.1)).foldl F v₀) t') ⟨h', g, d, tk', os⟩) :
   wpAny (model PG w) A (PySem.call (.ref 30) [.ref f, .ref l, .int v₀ t₀]) Q E ⟨h₀, g, d, tk, os⟩ := by
  have D := Lg.start h₀
  have h2 := KR.fr 2 _ rfl rfl rfl
  have h30 := KR.fr 30 _ rfl rfl rfl
  have h3 := KR.fr 3 _ rfl rfl rfl

  refine wpAny_call (codeAny_of_tree ?_)
  show wpAny (model PG w) A.in1 (callAny (.ref 30) ⟨[.ref f, .ref l, .int v₀ t₀], []⟩) _ _ _
  refine WP.out (WP.noE fun EE => ?_)
  repeat ktyn_q

  rename_i fr hfr Dfr hp Dp hp2 Dp2 hq Dq
  obtain ⟨oL, N0, D5⟩ : ∃ oL, NsO oL (upd (upd (upd noNames (Str.ofString "function") (.ref f)) (Str.ofString "sequence") (.ref l)) (Str.ofString "initial") (.int v₀ t₀)) ∧ Lg [] h₀ hq [(fr, oL)] :=
    ⟨_, nsO_put (nsO_put (nsO_put nsO_empty')), Dq⟩
  clear D Dfr Dp Dp2 Dq h30 h3 h2
  refine ⟨rfl, enter (fun env => EnvOK env fr [(Str.ofString "function", .local), (Str.ofString "sequence", .local), (Str.ofString "initial", .local), (Str.ofString "it", .local), (Str.ofString "value", .local), (Str.ofString "element", .local), (Str.ofString "iter", .globalImplicit), (Str.ofString "_initial_missing", .globalImplicit), (Str.ofString "next", .globalImplicit), (Str.ofString "StopIteration", .globalImplicit), (Str.ofString "TypeError", .globalImplicit)] []) ⟨rfl, rfl, rfl, rfl, rfl, rfl⟩ fun env V => ?_⟩
  refine WP.out (WP.noE fun EE => ?_)
  generalize hA : A.deeper env = A1
  have S1 : Deep A1 := hA ▸ Deep2.deeper S _
  clear hA
  repeat tb_rel
  refine WP.id' ?_
  dsimp only [cond]
  repeat tb_rel

  rename_i it hi Di ha oa Na Da hb ob Nb Db
  refine q_iterIt (i := 0) (Lg.hit Db (.head _)) rfl rfl ?_

  refine codeAny_forLoop (fun n s' => ∃ (i : Nat) (h' : Heap) (tk' t' : Nat) (oL : Obj) (m : Str → Option Value) (oit : Obj), s' = ⟨h', g, d, tk', os⟩ ∧ n = vs.length + 1 - i ∧ i ≤ vs.length ∧
     NsO oL m ∧ m (Str.ofString "function") = some (.ref f) ∧ m (Str.ofString "value") = some (.int (((vs.take i).map (·.1)).foldl F v₀) t') ∧ Lg [] h₀ h' [(it, oit), (fr, oL)] ∧
     oit.cls = .type "list_iterator" ∧ oit.data = .fields #[.ref l, .int (i + 0 : Nat) 0]) ?turn (vs.length + 1)
     ⟨0, _, _, t₀, _, _, _, rfl, rfl, Nat.zero_le _, Nb, by tb_start, upd_eq, Db, rfl, rfl⟩
  case turn =>
    clear Di Da Db Na Nb N0 D5
    rintro n s' ⟨i, h', tk', t', oL, m, oit, rfl, rfl, hile, N1, hmf, hmv, L1, hit1, hit2⟩
    have hi1 := L1.hit (a := it) (.head _)
    have hl2 := L1.keeps _ _ hl
    by_cases hn : i < vs.length
    · refine wpAny_pyNext_list_item (l := l) (i := i + 0) (items := (vs.map val).toArray) (x := val vs[i]) ⟨_, hi1, hit1, hit2⟩ ⟨_, hl2, rfl, e, rfl⟩ (by simp [hn]) fun h2 he hs => ?_
      obtain ⟨oit', ho', hc', hd'⟩ := he
      have L2 := L1.same (.here rfl) hs ho'
      clear L1 hi1
      show wpAny _ _ (assign _ _ _) _ _ _
      refine WP.out (WP.noE fun EE => ?_)
      repeat tb_rel
      refine WP.out (WP.noE fun EE => WP.hide fun QQ hQQ => ?_)
      repeat tb_rel
      refine q_cwD rfl hfd ?_
      repeat tb_rel
      rename_i h3 oL3 N3 L3
      have hev : vs = vs.take i ++ vs[i] :: vs.drop (i + 1) := by rw [List.getElem_cons_drop, List.take_append_drop]
      refine ⟨L3.keeps _ _ hof, hf (vs.take i) vs[i] (vs.drop (i + 1)) hev _ _ _ h3 t' _ S1 L3.keeps fun h4 t4 tk4 k4 => ?_⟩
      have L4 := L3.grow k4
      clear L3 k4
      repeat tb_rel
      rename_i h5 oL5 N5 L5
      have hev2 : vs.take (i + 1) = vs.take i ++ [vs[i]] := by rw [List.take_add_one]; simp [hn]
      refine hQQ _ _ ?_
      refine ⟨vs.length + 1 - (i + 1), by omega, i + 1, h5, _, t4, oL5, _, oit', rfl, rfl, hn, N5, by tb_start, ?_, L5, hc', ?_⟩
      · rw [hev2, List.map_append, List.foldl_append]
        exact upd_eq
      · rw [hd', show i + 0 + 1 = i + 1 + 0 from by omega]
    · have hi : i = vs.length := by omega
      refine wpAny_pyNext_list_end (l := l) (i := i + 0) (items := (vs.map val).toArray) S1.handled ⟨_, hi1, hit1, hit2⟩ ⟨_, hl2, rfl, e, rfl⟩ (by simp [hi]) fun h2 hs => ?_
      have L2 := L1.drop hs
      refine wpAny_execs_nil ?_
      show wpAny _ _ (execs _ env) _ _ _
      refine WP.out (WP.noE fun EE => ?_)
      repeat tb_rel
      have := hQ h2 t' tk' L2.keeps
      rw [hi, List.take_length]
      exact this

theorem reduce_bare (w : World) (A : Around) (S : Deep2 A) (h₀ : Heap) (KR : Old w h₀) (g d tk os) (f l : Addr) (vs : List (Int × Tok)) (e : Nat) (v : Int × Tok) (F : Int → Int → Int) (of : Obj) (fd : FuncData) (hof : h₀.get? f = some of) (hfd : of.data = .func fd)
   (hl : h₀.get? l = some (seqObj "list" ((v :: vs).map val).toArray e)) (Q : Value → Shared → Prop) (E : Value → Shared → Prop)
   (hf : ∀ pre b rest, vs = pre ++ b :: rest → ∀ (A' : Around) (E' : Value → Shared → Prop) (Q' : Value → Shared → Prop) (h' : Heap) (t' tk' : Nat), Deep A' → Keeps h₀ h' → (∀ h'' t'' tk'', Keeps h' h'' → Q' (.int (F ((pre.map (·.1)).foldl F v.1) b.1) t'') ⟨h'', g, d, tk'', os⟩) → wpAny (model PG w) A' (PySem.call (.ref f) [.int ((pre.map (·.1)).foldl F v.1) t', val b]) Q' E' ⟨h', g, d, tk', os⟩)
   (hQ : ∀ h' t' tk', Keeps h₀ h' → Q (.int ((vs.map (·.1)).foldl F v.1) t') ⟨h', g, d, tk', os⟩) :
   wpAny (model PG w) A (PySem.call (.ref 30) [.ref f, .ref l]) Q E ⟨h₀, g, d, tk, os⟩ := by
  have D := Lg.start h₀
  have h2 := KR.fr 2 _ rfl rfl rfl
  have h30 := KR.fr 30 _ rfl rfl rfl
  have h3 := KR.fr 3 _ rfl rfl rfl

  refine wpAny_call (codeAny_of_tree ?_)
  show wpAny (model PG w) A.in1 (callAny (.ref 30) ⟨[.ref f, .ref l], []⟩) _ _ _
  refine WP.out (WP.noE fun EE => ?_)
  repeat ktyn_q

  rename_i fr hfr Dfr hp Dp hp2 Dp2 hq Dq
  obtain ⟨oL, N0, D5⟩ : ∃ oL, NsO oL (upd (upd (upd noNames (Str.ofString "function") (.ref f)) (Str.ofString "sequence") (.ref l)) (Str.ofString "initial") (.ref 22)) ∧ Lg [] h₀ hq [(fr, oL)] :=
    ⟨_, nsO_put (nsO_put (nsO_put nsO_empty')), Dq⟩
  clear D Dfr Dp Dp2 Dq h30 h3 h2
  refine ⟨rfl, enter (fun env => EnvOK env fr [(Str.ofString "function", .local), (Str.ofString "sequence", .local), (Str.ofString "initial", .local), (Str.ofString "it", .local), (Str.ofString "value", .local), (Str.ofString "element", .local), (Str.ofString "iter", .globalImplicit), (Str.ofString "_initial_missing", .globalImplicit), (Str.ofString "next", .globalImplicit), (Str.ofString "StopIteration", .globalImplicit), (Str.ofString "TypeError", .globalImplicit)] []) ⟨rfl, rfl, rfl, rfl, rfl, rfl⟩ fun env V => ?_⟩
  refine WP.out (WP.noE fun EE => ?_)
  generalize hA : A.deeper env = A1
  have S1 : Deep A1 := hA ▸ Deep2.deeper S _
  clear hA
  repeat tb_rel
  refine WP.id' ?_
  dsimp only [cond]
  repeat tb_rel
  rename_i it hi Di ha oa Na Da
  refine q_next (i := 0) (Lg.hit Da (.head _)) rfl rfl (Da.keeps _ _ hl) (vs := (v :: vs).map val) (v := val v) rfl ?_
  intro h7 o7 hs7 e7 hc7 hd7
  have D7 := Da.same (.here rfl) hs7 e7
  clear Da Di
  repeat tb_rel
  rename_i hb ob Nb Db
  refine q_iterIt (i := 1) (Lg.hit Db (.head _)) (by assumption) (by assumption) ?_

  refine codeAny_forLoop (fun n s' => ∃ (i : Nat) (h' : Heap) (tk' t' : Nat) (oL : Obj) (m : Str → Option Value) (oit : Obj), s' = ⟨h', g, d, tk', os⟩ ∧ n = vs.length + 1 - i ∧ i ≤ vs.length ∧
     NsO oL m ∧ m (Str.ofString "function") = some (.ref f) ∧ m (Str.ofString "value") = some (.int (((vs.take i).map (·.1)).foldl F v.1) t') ∧ Lg [] h₀ h' [(it, oit), (fr, oL)] ∧
     oit.cls = .type "list_iterator" ∧ oit.data = .fields #[.ref l, .int (i + 1 : Nat) 0]) ?turn (vs.length + 1)
     ⟨0, _, _, v.2, _, _, _, rfl, rfl, Nat.zero_le _, Nb, by tb_start, upd_eq, Db, (by assumption), (by assumption)⟩
  case turn =>
    clear D7 Db Na Nb N0 D5
    rintro n s' ⟨i, h', tk', t', oL, m, oit, rfl, rfl, hile, N1, hmf, hmv, L1, hit1, hit2⟩
    have hi1 := L1.hit (a := it) (.head _)
    have hl2 := L1.keeps _ _ hl
    by_cases hn : i < vs.length
    · refine wpAny_pyNext_list_item (l := l) (i := i + 1) (items := ((v :: vs).map val).toArray) (x := val vs[i]) ⟨_, hi1, hit1, hit2⟩ ⟨_, hl2, rfl, e, rfl⟩ (by simp [hn]) fun h2 he hs => ?_
      obtain ⟨oit', ho', hc', hd'⟩ := he
      have L2 := L1.same (.here rfl) hs ho'
      clear L1 hi1
      show wpAny _ _ (assign _ _ _) _ _ _
      refine WP.out (WP.noE fun EE => ?_)
      repeat tb_rel
      refine WP.out (WP.noE fun EE => WP.hide fun QQ hQQ => ?_)
      repeat tb_rel
      refine q_cwD rfl hfd ?_
      repeat tb_rel
      rename_i h3 oL3 N3 L3
      have hev : vs = vs.take i ++ vs[i] :: vs.drop (i + 1) := by rw [List.getElem_cons_drop, List.take_append_drop]
      refine ⟨L3.keeps _ _ hof, hf (vs.take i) vs[i] (vs.drop (i + 1)) hev _ _ _ h3 t' _ S1 L3.keeps fun h4 t4 tk4 k4 => ?_⟩
      have L4 := L3.grow k4
      clear L3 k4
      repeat tb_rel
      rename_i h5 oL5 N5 L5
      have hev2 : vs.take (i + 1) = vs.take i ++ [vs[i]] := by rw [List.take_add_one]; simp [hn]
      refine hQQ _ _ ?_
      refine ⟨vs.length + 1 - (i + 1), by omega, i + 1, h5, _, t4, oL5, _, oit', rfl, rfl, hn, N5, by tb_start, ?_, L5, hc', ?_⟩
      · rw [hev2, List.map_append, List.foldl_append]
        exact upd_eq
      · rw [hd', show i + 1 + 1 = i + 1 + 1 from by omega]
    · have hi : i = vs.length := by omega
      refine wpAny_pyNext_list_end (l := l) (i := i + 1) (items := ((v :: vs).map val).toArray) S1.handled ⟨_, hi1, hit1, hit2⟩ ⟨_, hl2, rfl, e, rfl⟩ (by simp [hi]) fun h2 hs => ?_
      have L2 := L1.drop hs
      refine wpAny_execs_nil ?_
      show wpAny _ _ (execs _ env) _ _ _
      refine WP.out (WP.noE fun EE => ?_)
      repeat tb_rel
      have := hQ h2 t' tk' L2.keeps
      rw [hi, List.take_length]
      exact this
/-- the law's three lambdas, as the program's text has them -/
noncomputable def lawBody (p : Params) : List Stmt := match (topK p).lookup 68 with
  | some ⟨_, _, .func ⟨_, _, _, .stmts b, _, _, _, _, _, _, _, _, _, _, _⟩, _⟩ => b
  | _ => []
noncomputable def lamAt (p : Params) : Nat → Option (Arguments × Expr × Scope)
  | 0 => match ((lawBody p).drop 3).head? with
    | some (.If (.Compare (.Call _ (.Lambda a b s _ :: _) _ _) _ _ _) _ _ _) => some (a, b, s)
    | _ => none
  | 1 => match ((lawBody p).drop 4).head? with
    | some (.If (.BoolOp _ (_ :: .Compare (.Call _ (.Lambda a b s _ :: _) _ _) _ _ _ :: _) _) _ _ _) => some (a, b, s)
    | _ => none
  | _ => match ((lawBody p).drop 5).head? with
    | some (.Return (some (.BoolOp _ (.Compare (.Call _ (.Lambda a b s _ :: _) _ _) _ _ _ :: _) _)) _) => some (a, b, s)
    | _ => none
noncomputable def lamObj (p : Params) (i : Nat) (code : Value) : Option Obj := match lamAt p i with
  | some (a, b, s) => some { cls := .type "function", data := .func { name := Str.ofString "<lambda>", qualname := Str.ofString "law" ++ Str.ofString ".<locals>." ++ Str.ofString "<lambda>", params := a, body := .expr b, scope := s, globals := 3, closure := [], defaults := .none, kwdefaults := .none, pyModule := .str (Str.ofString "law_xc0001_01") 211, code := code } }
  | none => none
def lamCode (line : Int) (D : CD) : Obj := oCode ⟨#[60, 108, 97, 109, 98, 100, 97, 62]⟩ ⟨#[108, 97, 119, 46, 60, 108, 111, 99, 97, 108, 115, 62, 46, 60, 108, 97, 109, 98, 100, 97, 62]⟩ line D
section
variable {prog : Program} {w : World} {A : Around} {E : Value → Shared → Prop} {env : Env} {s : Shared} {h : Heap} {g : Array GenState} {d : Drawn} {t : Nat} {os : OsState}
theorem enterE {e : Expr} {R : Result → Shared → Prop} (P : Env → Prop) (hP : P env)
    (x : ∀ env, P env → wpAny (model prog w) (A.deeper env) (eval e env) (fun v s' => R (.ok (.ret v)) s')
      (fun e s' => wpAny (model prog w) (A.deeper env) (leaving env e) (fun _ s'' => R (.error e) s'') (fun e' s'' => R (.error e') s'') s') s) :
    codeAny (model prog w) A (.expr e env) R s := by
  refine codeAny_of_tree ?_
  show wpAny _ (A.deeper env) (do point; ret (← (eval e env).onRaise (leaving env))) _ _ s
  exact wpAny_bind (wpAny_point (wpAny_bind (wpAny_onRaise (wpAny_mono (x env hP) (fun v s' h' => wpAny_pure h') fun _ _ h' => h'))))
end


theorem lamcall0 (w : World) (A : Around) (S : Deep A) (h₀ : Heap) (KR : Old w h₀) (g d tk os) (f cd : Addr) (hf : ∀ o, lamObj w.params 0 (.ref cd) = some o → h₀.get? f = some o) (D0 : CD) (hcd : D0.c = cd) (hc : h₀.get? cd = some (lamCode 74 D0)) (a b : Int) (t u : Tok) (Q : Value → Shared → Prop) (E : Value → Shared → Prop)
   (hQ : ∀ h' t' tk', Keeps h₀ h' → Q (.int (10 * a + b) t') ⟨h', g, d, tk', os⟩) :
   wpAny (model PG w) A (PySem.call (.ref f) [.int a t, .int b u]) Q E ⟨h₀, g, d, tk, os⟩ := by
  have D := Lg.start h₀
  have hdp : A.in1.depth < recursionLimit := S.lt
  have h2 := KR.fr 2 _ rfl rfl rfl
  have h3 := KR.fr 3 _ rfl rfl rfl
  replace hf := hf _ rfl
  try dsimp only at hf
  unfold lamCode oCode at hc
  refine wpAny_call (codeAny_of_tree ?_)
  show wpAny (model PG w) A.in1 (callAny (.ref f) ⟨[.int a t, .int b u], []⟩) _ _ _
  refine WP.out (WP.noE fun EE => ?_)
  repeat ktyn_q
  rename_i fr hfr Dfr h1 D1 hq Dq
  obtain ⟨oL, N0, D5⟩ : ∃ oL, NsO oL (upd (upd noNames (Str.ofString "whole") (.int a t)) (Str.ofString "figure") (.int b u)) ∧ Lg [] h₀ hq [(fr, oL)] :=
    ⟨_, nsO_put (nsO_put nsO_empty'), Dq⟩
  clear D Dfr D1 Dq hf h3 h2
  refine ⟨rfl, enterE (fun env => EnvOK env fr [(Str.ofString "whole", .local), (Str.ofString "figure", .local)] []) ⟨rfl, rfl, rfl, rfl, rfl, rfl⟩ fun env V => ?_⟩
  refine WP.out (WP.noE fun EE => ?_)
  repeat tb_rel
  exact hQ _ _ _ D5.keeps

theorem lamcall1 (w : World) (A : Around) (S : Deep A) (h₀ : Heap) (KR : Old w h₀) (g d tk os) (f cd : Addr) (hf : ∀ o, lamObj w.params 1 (.ref cd) = some o → h₀.get? f = some o) (D0 : CD) (hcd : D0.c = cd) (hc : h₀.get? cd = some (lamCode 76 D0)) (a b : Int) (t u : Tok) (Q : Value → Shared → Prop) (E : Value → Shared → Prop)
   (hQ : ∀ h' t' tk', Keeps h₀ h' → Q (.int (a - b) t') ⟨h', g, d, tk', os⟩) :
   wpAny (model PG w) A (PySem.call (.ref f) [.int a t, .int b u]) Q E ⟨h₀, g, d, tk, os⟩ := by
  have D := Lg.start h₀
  have hdp : A.in1.depth < recursionLimit := S.lt
  have h2 := KR.fr 2 _ rfl rfl rfl
  have h3 := KR.fr 3 _ rfl rfl rfl
  replace hf := hf _ rfl
  try dsimp only at hf
  unfold lamCode oCode at hc
  refine wpAny_call (codeAny_of_tree ?_)
  show wpAny (model PG w) A.in1 (callAny (.ref f) ⟨[.int a t, .int b u], []⟩) _ _ _
  refine WP.out (WP.noE fun EE => ?_)
  repeat ktyn_q
  rename_i fr hfr Dfr h1 D1 hq Dq
  obtain ⟨oL, N0, D5⟩ : ∃ oL, NsO oL (upd (upd noNames (Str.ofString "one") (.int a t)) (Str.ofString "other") (.int b u)) ∧ Lg [] h₀ hq [(fr, oL)] :=
    ⟨_, nsO_put (nsO_put nsO_empty'), Dq⟩
  clear D Dfr D1 Dq hf h3 h2
  refine ⟨rfl, enterE (fun env => EnvOK env fr [(Str.ofString "one", .local), (Str.ofString "other", .local)] []) ⟨rfl, rfl, rfl, rfl, rfl, rfl⟩ fun env V => ?_⟩
  refine WP.out (WP.noE fun EE => ?_)
  repeat tb_rel
  exact hQ _ _ _ D5.keeps

theorem lamcall2 (w : World) (A : Around) (S : Deep A) (h₀ : Heap) (KR : Old w h₀) (g d tk os) (f cd : Addr) (hf : ∀ o, lamObj w.params 2 (.ref cd) = some o → h₀.get? f = some o) (D0 : CD) (hcd : D0.c = cd) (hc : h₀.get? cd = some (lamCode 78 D0)) (a b : Int) (t u : Tok) (Q : Value → Shared → Prop) (E : Value → Shared → Prop)
   (hQ : ∀ h' t' tk', Keeps h₀ h' → Q (.int (a - b) t') ⟨h', g, d, tk', os⟩) :
   wpAny (model PG w) A (PySem.call (.ref f) [.int a t, .int b u]) Q E ⟨h₀, g, d, tk, os⟩ := by
  have D := Lg.start h₀
  have hdp : A.in1.depth < recursionLimit := S.lt
  have h2 := KR.fr 2 _ rfl rfl rfl
  have h3 := KR.fr 3 _ rfl rfl rfl
  replace hf := hf _ rfl
  try dsimp only at hf
  unfold lamCode oCode at hc
  refine wpAny_call (codeAny_of_tree ?_)
  show wpAny (model PG w) A.in1 (callAny (.ref f) ⟨[.int a t, .int b u], []⟩) _ _ _
  refine WP.out (WP.noE fun EE => ?_)
  repeat ktyn_q
  rename_i fr hfr Dfr h1 D1 hq Dq
  obtain ⟨oL, N0, D5⟩ : ∃ oL, NsO oL (upd (upd noNames (Str.ofString "one") (.int a t)) (Str.ofString "other") (.int b u)) ∧ Lg [] h₀ hq [(fr, oL)] :=
    ⟨_, nsO_put (nsO_put nsO_empty'), Dq⟩
  clear D Dfr D1 Dq hf h3 h2
  refine ⟨rfl, enterE (fun env => EnvOK env fr [(Str.ofString "one", .local), (Str.ofString "other", .local)] []) ⟨rfl, rfl, rfl, rfl, rfl, rfl⟩ fun env V => ?_⟩
  refine WP.out (WP.noE fun EE => ?_)
  repeat tb_rel
  exact hQ _ _ _ D5.keeps

section
set_option maxHeartbeats 200000
set_option maxRecDepth 512
theorem small_log {n : Nat} (h : n < 10) : n.log2 < 1920 := by
  have key : ∀ n < 10, n.log2 < 1920 := by decide
  exact key n h
def dText (d : Int) : Str := Str.ofString (toString d)
theorem dText_cps {d : Int} (h0 : 0 ≤ d) (h9 : d < 10) : (dText d).cps.toList = [48 + d.toNat] := by
  obtain ⟨n, rfl⟩ := Int.eq_ofNat_of_zero_le h0
  have hn : n < 10 := by omega
  have key : ∀ n : Nat, n < 10 → (dText (n : Int)).cps.toList = [48 + ((n : Int)).toNat] := by decide +kernel
  exact key n hn
theorem glue_cps : ∀ (ds : List Int) (acc : Array Nat), (∀ d ∈ ds, 0 ≤ d ∧ d < 10) →
    ((ds.map dText).foldl (fun acc p => acc ++ (Str.ofString "").cps ++ p.cps) acc).toList = acc.toList ++ ds.map fun d => 48 + d.toNat
  | [], acc, _ => by simp
  | d :: r, acc, h => by
    have hd := h d (.head _)
    rw [List.map_cons, List.foldl_cons, glue_cps r _ (fun x hx => h x (.tail _ hx))]
    have e : (Str.ofString "").cps = #[] := by decide
    rw [Array.toList_append, Array.toList_append, dText_cps hd.1 hd.2, e]
    simp
theorem join_cps (ds : List Int) (h : ∀ d ∈ ds, 0 ≤ d ∧ d < 10) : (Txt.join (Str.ofString "") (ds.map dText)).cps.toList = ds.map fun d => 48 + d.toNat := by
  unfold Txt.join Builtin.Str.glued
  cases ds with
  | nil => rfl
  | cons d r =>
    have hd := h d (.head _)
    show (List.foldl (fun (acc : Array Nat) (p : Str) => acc ++ (Str.ofString "").cps ++ p.cps) (dText d).cps (((d :: r).map dText).drop 1)).toList = _
    rw [List.map_cons, List.drop_one, List.tail_cons]
    have := glue_cps r (dText d).cps (fun x hx => h x (.tail _ hx))
    rw [dText_cps hd.1 hd.2] at this
    exact this
theorem zero_cps (x : Str) : (Str.ofString "0" ++ x).cps.toList = 48 :: x.cps.toList := by
  show ((Str.ofString "0").cps ++ x.cps).toList = _
  have e : (Str.ofString "0").cps = #[48] := by decide
  rw [e]; simp
theorem digs_fold : ∀ (ds : List Int) (a : Nat), (∀ d ∈ ds, 0 ≤ d ∧ d < 10) →
    (((ds.map fun d => 48 + d.toNat).foldl (fun acc c => acc * 10 + (c - 48)) a : Nat) : Int) = ds.foldl (fun a b => 10 * a + b) (a : Int)
  | [], _, _ => rfl
  | d :: r, a, h => by
    have hd := h d (.head _)
    rw [List.map_cons, List.foldl_cons, digs_fold r _ (fun x hx => h x (.tail _ hx)), List.foldl_cons]
    congr 1
    omega
theorem text_reads (ds : List Int) (h : ∀ d ∈ ds, 0 ≤ d ∧ d < 10) (hl : ds.length < 64) :
    PySem.intText? (Str.ofString "0" ++ Txt.join (Str.ofString "") (ds.map dText)) = some (ds.foldl (fun a b => 10 * a + b) 0) ∧ (Str.ofString "0" ++ Txt.join (Str.ofString "") (ds.map dText)).length ≤ 640 := by
  have e : (Str.ofString "0" ++ Txt.join (Str.ofString "") (ds.map dText)).cps.toList = 48 :: ds.map fun d => 48 + d.toNat := by rw [zero_cps, join_cps ds h]
  have hlen : (Str.ofString "0" ++ Txt.join (Str.ofString "") (ds.map dText)).length = ds.length + 1 := by
    show Array.size _ = _
    rw [← Array.length_toList, e]; simp
  refine ⟨?_, by omega⟩
  rw [PySem.intText_digits (by
      rw [e]
      intro c hc
      rcases List.mem_cons.mp hc with rfl | hc
      · omega
      · obtain ⟨d, hd, rfl⟩ := List.mem_map.mp hc
        have := h d hd
        omega) (by rw [e]; simp) (by omega), e]
  congr 1
  exact digs_fold ds 0 h
theorem joinOk_digs (ds : List Int) (h : ∀ d ∈ ds, 0 ≤ d ∧ d < 10) (hl : ds.length < 64) : JoinOk (Str.ofString "") (ds.map dText) = true := by
  unfold JoinOk
  rw [StrLaws.joinFits (B := 1) ?_ ?_]
  · rfl
  · intro y hy
    obtain ⟨d, hd, rfl⟩ := List.mem_map.mp hy
    have := h d hd
    show Array.size _ ≤ 1
    rw [← Array.length_toList, dText_cps this.1 this.2]; simp
  · have e : (Str.ofString "").length = 0 := by decide
    rw [List.length_map, e]; omega
theorem paired_str : ∀ {vs : List (Int × Tok)} {ys : List Value}, Paired (fun v y => ∃ x t t', v = .int x t ∧ y = .str (dText x) t') (vs.map val) ys → ∃ l : List (Str × Tok), ys = strValues l ∧ l.map (·.1) = vs.map fun z => dText z.1
  | [], _, .nil => ⟨[], rfl, rfl⟩
  | z :: vs, _, .cons h t => by
    obtain ⟨x, u, u', e1, e2⟩ := h
    obtain ⟨zs, e3, e4⟩ := paired_str t
    cases e1
    exact ⟨(dText z.1, u') :: zs, by rw [e2, e3]; rfl, by rw [List.map_cons, e4, List.map_cons]⟩
section
variable {prog : Program} {w : World} {A : Around} {E : Value → Shared → Prop} {env : Env} {s : Shared} {L : Addr} {names : List (Str × NameKind)} {cells : List (Str × Addr)}
  {but : List Addr} {h₀ h : Heap} {news news' : List (Addr × Obj)} {g : Array GenState} {d : Drawn} {t : Nat} {os : OsState}
/-- [str(x) for x in xs] -/
theorem q_compS {elt iter : Expr} {x : Str} {px : Pos} {scope : Scope} {cl : List (Str × Addr)} {pos : Pos} {Q : Value → Shared → Prop} (hh : A.handled = none)
    (hclos : closureFor scope env = pure cl) (hcell : ∀ y ∈ scope.names, y.2 ≠ .cell) (hkind : scope.kind = .function)
    (hnames : ∀ y ∈ scope.names, y.2 = .local → scope.names.lookup y.1 = some .local) (hx : scope.names.lookup x = some .local)
    (hs : ∀ x, foldedSetIterable iter env x = pure x)
    (H : WP (model prog w) A (eval iter env) (fun xv s₁ => ∃ l vs c h₁ t₁, xv = .ref l ∧ s₁ = ⟨h₁, g, d, t₁, os⟩ ∧ h₁.get? l = some (seqObj "list" ((vs : List (Int × Tok)).map val).toArray c) ∧ vs.length ≤ sizeLine ∧
      (∀ C z h₂ g₂ d₂ t₂ os₂ o₂ m₂ E', z ∈ vs → Keeps h₁ h₂ → h₂.get? C = some o₂ → NsO o₂ m₂ → m₂ x = some (val z) →
        wpAny (model prog w) A (eval elt (compEnvC scope cl C env)) (fun v s₃ => (∃ t', v = .str (dText z.1) t') ∧ ∃ h₃ t₃, s₃ = ⟨h₃, g₂, d₂, t₃, os₂⟩ ∧ Keeps h₂ h₃) E' ⟨h₂, g₂, d₂, t₂, os₂⟩) ∧
      (∀ D h' tk (l : List (Str × Tok)), h'.IsList D (strValues l).toArray → l.map (·.1) = vs.map (fun z => dText z.1) → Keeps h₁ h' → Q (.ref D) ⟨h', g, d, tk, os⟩)) E ⟨h, g, d, t, os⟩) :
    WP (model prog w) A (eval (.ListComp elt [⟨.Name x px, iter, [], 0⟩] scope pos) env) Q E ⟨h, g, d, t, os⟩ := by
  rw [eval_ListComp]
  refine comp_list (fun _ => true) (fun v y => ∃ x t t', v = .int x t ∧ y = .str (dText x) t') hh hclos hcell hkind hnames hx hs (H.mono fun xv s₁ K => ?_)
  obtain ⟨l, vs, c, h₁, t₁, rfl, rfl, hl, hz, helt, hQ⟩ := K
  refine ⟨l, (vs.map val).toArray, c, rfl, hl, by simpa using hz, ?_, ?_, ?_⟩
  · intro C v s₂ m₂ E' hv hn hm hk
    obtain ⟨h₃, g₃, d₃, t₃, os₃⟩ := s₂
    exact wpAny_tests_nil ⟨rfl, h₃, t₃, rfl, fun _ _ e => e⟩
  · intro C v s₂ m₂ E' hv hp hn hm hk
    obtain ⟨z, hz', rfl⟩ : ∃ z ∈ vs, val z = v := by simpa using hv
    obtain ⟨h₃, g₃, d₃, t₃, os₃⟩ := s₂
    obtain ⟨o₂, e₂, N₂⟩ := ns_of hn
    refine wpAny_mono (helt C z h₃ g₃ d₃ t₃ os₃ o₂ m₂ E' hz' hk e₂ N₂ hm) (fun ok s₄ r => ?_) fun _ _ e => e
    obtain ⟨⟨t', e⟩, h₄, t₄, rfl, k₄⟩ := r
    exact ⟨⟨z.1, z.2, t', rfl, e⟩, h₄, t₄, rfl, k₄⟩
  · intro D h' tk ys c' hD e' hF hk
    rw [show (vs.map val).toArray.toList = vs.map val by simp, filterTrue] at hF
    obtain ⟨l', e3, e4⟩ := paired_str hF
    have e5 : ys = (strValues l').toArray := by rw [← e3]
    exact hQ D h' tk l' ⟨_, e', rfl, c', by rw [← e5]⟩ e4 hk
theorem q_join {sep : Str} {k : Nat} {p apos pos : Pos} {e : Expr} {Q : Value → Shared → Prop}
    (hbase : attributeBase (.Constant (.str sep) k p) (Str.ofString "join") env (eval (.Constant (.str sep) k p) env) = eval (.Constant (.str sep) k p) env)
    (hfew : ((backTo pos (starEach [e] env)).all (fun x => !x.1) && (backToKw pos (keywordEach [] env)).all (fun x => x.1.isSome) && decide ([e].length + ([] : List Keyword).length + (if ([] : List Keyword).isEmpty then 0 else 1) < 30)) = true)
    (hline : (apos.endLine == pos.line) = true) (he : backTo pos (starEach [e] env) = [(false, eval e env)])
    (x : WP (model prog w) A (eval e env) (fun v s₁ => ∃ D l, v = .ref D ∧ s₁.heap.IsList D (strValues l).toArray ∧ ∃ texts, l.map (·.1) = texts ∧ JoinOk sep texts = true ∧ ∀ t' k, Q (.str (Txt.join sep texts) t') { s₁ with toks := k }) E ⟨h, g, d, t + 1, os⟩) :
    WP (model prog w) A (eval (.Call (.Attribute (.Constant (.str sep) k p) (Str.ofString "join") apos) [e] [] pos) env) Q E ⟨h, g, d, t, os⟩ := by
  refine ⟨wpAny_Call_method_lateS hbase hfew hline (wpAny_Constant_str ?_)⟩
  rw [he]
  exact SB.join x.out
theorem q_addS {x y : Str} {u v : Tok} {Q : Value → Shared → Prop} (hz : x.length + y.length ≤ sizeLine) (k : ∀ t' tk, Q (.str (x ++ y) t') ⟨h, g, d, tk, os⟩) : WP (model prog w) A (binaryOp .Add (.str x u) (.str y v)) Q E ⟨h, g, d, t, os⟩ := ⟨PyProof.Rows.add_str k hz⟩
theorem q_intText {x : Str} {u : Tok} {n : Int} {Q : Value → Shared → Prop} (hn : PySem.intText? x = some n) (hl : x.length ≤ 640) (k : Q (.int n t) ⟨h, g, d, t + 1, os⟩) : WP (model prog w) A (PySem.call (.type "int") [.str x u]) Q E ⟨h, g, d, t, os⟩ := ⟨KIN.call_text hn hl k⟩
end
theorem fold_sub : ∀ (xs : List Int) (a : Int), xs.foldl (fun a b => a - b) a = a - xs.sum
  | [], a => by simp
  | x :: r, a => by rw [List.foldl_cons, fold_sub r, List.sum_cons]; omega
section
variable {prog : Program} {w : World} {A : Around} {E : Value → Shared → Prop} {env : Env} {s : Shared} {L : Addr} {names : List (Str × NameKind)} {cells : List (Str × Addr)}
  {but : List Addr} {h₀ h : Heap} {news news' : List (Addr × Obj)} {g : Array GenState} {d : Drawn} {t : Nat} {os : OsState}
theorem q_sum {l : Addr} {vs : List (Int × Tok)} {c : Nat} {Q : Value → Shared → Prop} (hh : A.handled = none) (hl : Heap.get? h l = some (seqObj "list" (vs.map val).toArray c)) (x : ∀ h' t' tk', Keeps h h' → Q (.int (vs.map (·.1)).sum t') ⟨h', g, d, tk', os⟩) :
    WP (model prog w) A (PySem.call (.builtin "sum") [.ref l]) Q E ⟨h, g, d, t, os⟩ := by
  refine ⟨PySem.sum_intListG (xs := vs.toArray) hh ⟨_, hl, rfl, c, by unfold intItems; simp [val]⟩ fun h' tk t' hk => ?_⟩
  have := x h' t' tk hk
  rw [preSum_eq, List.take_of_length_le (by simp)]
  exact this
theorem q_cwT0 {pos : Pos} {f : Addr} {Q : Value → Shared → Prop} (hf : TopFn w f) (KR : Old w h)
    (x : wpAny (model prog w) A (PySem.call (.ref f) []) Q E ⟨h, g, d, t, os⟩) :
    WP (model prog w) A (callWith pos (.ref f) [] (backTo pos (starEach [] env)) (backToKw pos (keywordEach [] env))) Q E ⟨h, g, d, t, os⟩ := by
  obtain ⟨o, fd, e1, e2, e3, e4⟩ := hf
  exact ⟨Calls.callWith_function (o := o) (fd := fd) (PyProof.Rows.evalArgs_none ⟨⟨KR.fr _ _ e1 e3 e4, e2⟩, x⟩)⟩
end
theorem oldK_end {w : World} {h₀ h h' : Heap} {n : List (Addr × Obj)} {fr : Addr} {oL : Obj} {m : Str → Option Value} {p16 p65 : Array Value} (KR : Old w h₀) (z16 : h₀.get? 16 = some tab0) (z65 : h₀.get? 65 = some tab0) (L : Lg [16, 65] h₀ h n) (hm : (fr, oL) ∈ n) (N : NsO oL m) (k : KB [fr] h h')
    (e16 : h.get? 16 = some { cls := .none, data := .fields p16 }) (e65 : h.get? 65 = some { cls := .none, data := .fields p65 }) : OldK h₀ h' := by
  obtain ⟨es, ep, hd, _⟩ := N
  have eL := L.hit hm
  have n16 : fr ≠ 16 := by
    rintro rfl
    rw [eL] at e16; cases e16; cases hd
  have n65 : fr ≠ 65 := by
    rintro rfl
    rw [eL] at e65; cases e65; cases hd
  have hfr : h₀.get? fr = none := by
    rcases (L.nw _ hm).2 with q | q
    · rcases List.mem_cons.mp q with q | q
      · exact absurd q n16
      · exact absurd (List.mem_singleton.mp q) n65
    · exact q
  have t16 : h₀.TableAt 20 16 #[] := table_at (KR.fr 20 _ rfl rfl rfl) rfl rfl z16 rfl
  have t65 : h₀.TableAt 67 65 #[] := table_at (KR.fr 67 _ rfl rfl rfl) rfl rfl z65 rfl
  have k16 : h'.get? 16 = some (tableObj p16) := k _ _ e16 (by simpa using Ne.symm n16)
  have k65 : h'.get? 65 = some (tableObj p65) := k _ _ e65 (by simpa using Ne.symm n65)
  have M : Mem h₀ h' [(16, tableObj p16), (65, tableObj p65)] [] := by
    refine ⟨fun b o e q => ?_, fun p hp => ?_, by simp, fun p hp => (nomatch hp), List.Pairwise.nil⟩
    · have hb : b ∉ [16, 65] := by
        intro hb
        rcases (Bool.or_eq_true _ _).mp q with q1 | q1
        · have ho : o = tableObj #[] := by
            rcases List.mem_cons.mp hb with z | z
            · rw [z] at e; exact Option.some.inj (e.symm.trans z16)
            · rw [List.mem_singleton.mp z] at e; exact Option.some.inj (e.symm.trans z65)
          rw [ho] at q1
          exact absurd q1 (by decide)
        · rcases List.mem_cons.mp hb with z | z
          · rw [z] at q1; simp [away] at q1
          · rw [List.mem_singleton.mp z] at q1; simp [away] at q1
      exact k _ _ (L.keep b o e hb) (by
        intro hm; rw [List.mem_singleton.mp hm, hfr] at e; cases e)
    · rcases List.mem_cons.mp hp with rfl | hp
      · exact ⟨k16, 20, #[], p16, t16, by simp⟩
      · rw [List.mem_singleton.mp hp]; exact ⟨k65, 67, #[], p65, t65, by simp⟩
  exact M.oldK
end
section
set_option maxHeartbeats 200000
set_option maxRecDepth 512
def tbO (L : Addr) (head : Value) (pl : List Value) : Obj := { cls := .type "traceback", dict := none, data := .fields ([head, .ref L, .none, rawInt L, .none] ++ (if pl.isEmpty then List.replicate 6 Value.none else pl)).toArray }
/-- an exception `e` that is on its way, with its traceback `T`, while the frames of `l` stand -/
structure Fly (base h : Heap) (l : List Env) (e : Addr) (oe : Obj) (vs : Array Value) : Prop where
  stays : base.StaysIn h
  ff : h.FunFrames base l
  he : h.get? e = some oe
  hd : oe.data = .fields vs
  ne : base.get? e = none
  tb : ∃ T oT ts, vs[1]? = some (.ref T) ∧ base.get? T = none ∧ T ≠ e ∧ h.get? T = some oT ∧ oT.data = .fields ts ∧ 3 < ts.size
theorem Fly.keep {base h h' : Heap} {l : List Env} {e : Addr} {oe : Obj} {vs : Array Value} (F : Fly base h l e oe vs) (k : Keeps h h') : Fly base h' l e oe vs := by
  obtain ⟨T, oT, ts, a1, a2, a3, a4, a5⟩ := F.tb
  exact ⟨fun b o q => k b o (F.stays b o q), F.ff.of_keeps fun b o q _ => ⟨o, k b o q, rfl⟩, k _ _ F.he, F.hd, F.ne, T, oT, ts, a1, a2, a3, k _ _ a4, a5⟩
section
variable {M : Model} {A : Around} {E : Value → Shared → Prop} {s : Shared}
theorem note1 {base : Heap} {env : Env} {outer : List Env} {L e : Addr} {oe : Obj} {vs : Array Value} {Q : Unit → Shared → Prop}
    (hfr : A.frames = some (env :: outer)) (hl : s.heap.FunFrames base (env :: outer)) (hf : env.frame = some L) (he : s.heap.get? e = some oe) (hkb : base.StaysIn s.heap) (hen : base.get? e = none) (hd : oe.data = .fields vs) (h1 : vs[1]? = some .none)
    (h : ∀ h' T, Fly base h' (env :: outer) e (oe.mapFields (·.setIfInBounds 1 (.ref T))) (vs.setIfInBounds 1 (.ref T)) → Q () { s with heap := h' }) :
    wpAny M A (noteFrame (.ref e) env) Q E s := by
  have hsz : 1 < vs.size := (Array.getElem?_eq_some_iff.mp h1).1
  have fields : ∀ b o, s.heap.get? b = some o → (∀ ws, o.data ≠ .fields ws) → b ≠ e := fun b o hb hnf q => by
    rw [q, he] at hb; injection hb with hb; subst hb; exact hnf vs hd
  unfold noteFrame
  simp only [hf]
  refine wpAny_bind (wpAny_field he hd h1 ?_)
  rw [if_neg (by decide)]
  refine wpAny_bind (wpAny_frameOf_fun hfr hl hf fun h₁ S₁ => wpAny_bind (wpAny_entryPlaceOf fun pl hpl => ?_))
  have e1 : h₁.get? e = some oe := (S₁.2.1 e fun hm => let ⟨_, o, ho, hn⟩ := hl.mem hm; fields e o ho hn rfl).trans he
  unfold EntryCells.newEntry newFields
  refine wpAny_bind (wpAny_newObj_type ?_ (hpl.sizeOk5 _ _ _ _ _))
  have e2 := Heap.get?_push_of_some (tbO L .none pl) e1
  have eT := Heap.get?_push_size h₁ (o := tbO L .none pl) rfl
  have hTe : h₁.objs.size ≠ e := Nat.ne_of_gt (Heap.lt_size e1)
  refine wpAny_setField e2 hd hsz (h _ h₁.objs.size ?_)
  have d3 := Obj.data_mapFields hd (·.setIfInBounds 1 (Value.ref h₁.objs.size))
  have old : ∀ b o, b ≠ e → h₁.get? b = some o → ((h₁.push (tbO L .none pl)).update e (Obj.mapFields (·.setIfInBounds 1 (.ref h₁.objs.size)))).get? b = some o :=
    fun b o hb ho => (Heap.get?_update_other _ _ (Ne.symm hb)).trans (Heap.get?_push_of_some _ ho)
  have st : base.StaysIn h₁ := fun b o hb => (S₁.2.1 b fun hm => by rw [(hl.mem hm).1] at hb; cases hb).trans (hkb b o hb)
  refine ⟨fun b o hb => old b o (fun q => by rw [q, hen] at hb; cases hb) (st b o hb), hl.of_keeps fun b o hb hn => ?_, Heap.get?_update_self _ e2 (Obj.isFreed_of_fields d3), d3, hen,
    h₁.objs.size, _, _, by simp [hsz], st.fresh, hTe, (Heap.get?_update_other _ _ (Ne.symm hTe)).trans eT, rfl, by simp only [List.size_toArray, List.length_append, List.length_cons, List.length_nil]; omega⟩
  obtain ⟨sl, q⟩ := S₁.2.2 b o hb
  exact ⟨_, old b _ (fields b o hb hn) q, rfl⟩
theorem Fly.land {base : Heap} {l : List Env} {e : Addr} {oe : Obj} {vs : Array Value} {Q : Unit → Shared → Prop} (F : Fly base s.heap l e oe vs)
    (h : ∀ h', Fly base h' l e oe vs → Q () { s with heap := h' }) : wpAny M A (setFlight (.ref e) none) Q E s := by
  obtain ⟨T, oT, ts, a1, a2, a3, a4, a5, a6⟩ := F.tb
  refine wpAny_setFlight_none F.he F.hd a1 a4 a5 a6 (h _ ?_)
  have other : ∀ b, b ≠ T → (s.heap.update T (Obj.mapFields (·.setIfInBounds 3 .none))).get? b = s.heap.get? b := fun b hb => Heap.get?_update_other _ _ (Ne.symm hb)
  refine ⟨fun b o hb => (other b fun q => by rw [q, a2] at hb; cases hb).trans (F.stays b o hb), F.ff.of_keeps fun b o hb hn => ⟨o, (other b fun q => ?_).trans hb, rfl⟩, (other e (Ne.symm a3)).trans F.he, F.hd, F.ne,
    T, _, _, a1, a2, a3, Heap.get?_update_self _ a4 (Obj.isFreed_of_fields (Obj.data_mapFields a5 _)), Obj.data_mapFields a5 _, by simp [a6]⟩
  rw [q, a4] at hb; injection hb with hb; subst hb; exact hn _ a5
end
theorem stop_excSub : isSubtype (.type "StopIteration") (.type "BaseException") = pure true := isSubtype_of_subB (by decide +kernel)
theorem stop_tup : isSubtype (.type ((Manifest.find? "StopIteration").elim "type" fun x => x.metatype)) (.type "tuple") = pure false := isSubtype_of_subB (by decide +kernel)
theorem te_excSub : isSubtype (.type "TypeError") (.type "BaseException") = pure true := isSubtype_of_subB (by decide +kernel)
theorem te_tup : isSubtype (.type ((Manifest.find? "TypeError").elim "type" fun x => x.metatype)) (.type "tuple") = pure false := isSubtype_of_subB (by decide +kernel)
theorem te_te : isSubtype (.type "TypeError") (.type "TypeError") = pure true := isSubtype_of_subB (by decide +kernel)
section
variable {prog : Program} {w : World} {A : Around} {E : Value → Shared → Prop} {env : Env} {L : Addr} {names : List (Str × NameKind)} {cells : List (Str × Addr)} {g : Array GenState} {d : Drawn} {os : OsState}
theorem unchained {e₁ e₂ : Addr} {o₁ : Obj} {vs₁ : Array Value} {s : Shared} {Q : Value → Shared → Prop} (he : s.heap.get? e₁ = some o₁) (hd : o₁.data = .fields vs₁) (h2 : vs₁[2]? = some .none) (h : Q .none s) :
    wpAny (model prog w) A (runValue (.builtin "proto.unchain" ⟨[.ref e₂, .ref e₁, .ref e₁, .bool false], []⟩)) Q E s := by
  refine wpAny_runValue (codeAny_builtin (show entryFor table "proto.unchain" = some Builtin.«proto.unchain» from entryFor_of_tree (by kernel_rfl)) ?_)
  unfold Builtin.«proto.unchain»
  dsimp only
  refine wpAny_bind (wpAny_field he hd h2 ?_)
  rw [if_pos (by decide)]
  first
    | (refine wpAny_bind ?_; refine wpAny_pure ?_; refine wpAny_pure ?_; exact h)
    | (refine wpAny_bind ?_; refine wpAny_pure ?_; exact h)
    | (refine wpAny_pure ?_; exact h)
theorem isType_rec {M : Model} {a : Addr} {o : Obj} {vs : Array Value} {s : Shared} {Q : Bool → Shared → Prop} (ho : s.heap.get? a = some o) (hd : o.data = .fields vs) (h : Q false s) : wpAny M A (isType (.ref a)) Q E s := by
  unfold isType
  refine wpAny_bind (wpAny_loadPart ho ?_)
  rw [hd]
  exact wpAny_pure h
theorem raise_from {nm : Str} {msg : Str} {k k2 : Nat} {p1 p2 p3 p4 p5 : Pos} {e₁ : Addr} {o₁ : Obj} {vs₁ : Array Value} {h : Heap} {t : Nat} (hA : A.handled = some (.ref e₁)) (V : EnvOK env L names cells) (KR : Old w h)
    (hl : names.lookup nm = some .globalImplicit) (e3 : nsIn (topO w.params) 3 nm = some none) (e0 : biN nm = some (some (.type "TypeError"))) (hdb : (nm == ("__debug__" : Str)) = false)
    (he : h.get? e₁ = some o₁) (hd : o₁.data = .fields vs₁) (h2 : vs₁[2]? = some .none) {Q : Flow → Shared → Prop}
    (hE : ∀ h' e₂ o₂ vs₂ t', Keeps h h' → h.get? e₂ = none → h'.get? e₂ = some o₂ → o₂.cls = .type "TypeError" → o₂.data = .fields vs₂ → vs₂[1]? = some .none → (∃ a, vs₂[0]? = some a) → E (.ref e₂) ⟨h', g, d, t', os⟩) :
    wpAny (model prog w) A (exec (.Raise (some (.Call (.Name nm p1) [.Constant (.str msg) k p2] [] p3)) (some (.Constant .none k2 p4)) p5) env) Q E ⟨h, g, d, t, os⟩ := by
  rw [arm_exec_Raise]
  refine wpAny_bind (wpAny_standAt ?_)
  show wpAny _ _ (raiseStmt env (some (do let v ← eval (.Call (.Name nm p1) [.Constant (.str msg) k p2] [] p3) env; standAt p5; pure v)) (some (do let v ← eval (.Constant .none k2 p4) env; standAt p5; pure v))) _ _ _
  unfold raiseStmt
  refine wpAny_bind (wpAny_bind (wpAny_Call_ofName (q_bi V hl KR e3 e0 hdb (callWith_excType rfl ?_)).out))
  refine Calls.evalArgs_plain (Calls.spliced_cons ?_)
  show wpAny _ _ (eval (.Constant (.str msg) k p2) env) _ _ _
  refine Calls.Constant_str (Calls.spliced_nil ?_)
  refine wpAny_call_exc PySem.F.excCall_TypeError fun h1 e₂ hm => ?_
  obtain ⟨tp, g2, g3, g4⟩ := hm.there
  refine wpAny_bind (wpAny_standAt (wpAny_pure ?_))
  dsimp only
  refine wpAny_bind (wpAny_holding (wpAny_bind (wpAny_Constant_none (wpAny_bind (wpAny_standAt (wpAny_pure ?_))))))
  refine wpAny_bind (wpAny_pure ?_)
  refine wpAny_bind (wpAny_holding ?_)
  unfold excFromValue isExcClass
  refine wpAny_bind (wpAny_bind (isType_rec g2 rfl ?_))
  rw [if_neg (by decide)]
  refine wpAny_pure ?_
  rw [if_neg (by decide)]
  refine wpAny_bind (wpAny_isInstance (T := "TypeError") ⟨_, g2, rfl⟩ te_excSub ?_)
  rw [if_pos rfl]
  refine wpAny_pure ?_
  dsimp only
  rw [if_pos (by decide)]
  refine wpAny_bind (wpAny_pure ?_)
  refine wpAny_bind (wpAny_setField g2 rfl (by show 3 < 6; decide) ?_)
  have q1 := Heap.get?_update_self (Obj.mapFields (·.setIfInBounds 3 Value.none)) g2 rfl
  have k1 : ∀ b, b ≠ e₂ → (h1.update e₂ (Obj.mapFields (·.setIfInBounds 3 Value.none))).get? b = h1.get? b := fun b hb => Heap.get?_update_other _ _ (Ne.symm hb)
  generalize h1.update e₂ (Obj.mapFields (·.setIfInBounds 3 Value.none)) = h2' at q1 k1 ⊢
  refine wpAny_bind (wpAny_setField q1 rfl (by show 4 < 6; decide) ?_)
  have q2 := Heap.get?_update_self (Obj.mapFields (·.setIfInBounds 4 (Value.bool true))) q1 rfl
  have k2' : ∀ b, b ≠ e₂ → (h2'.update e₂ (Obj.mapFields (·.setIfInBounds 4 (Value.bool true)))).get? b = h2'.get? b := fun b hb => Heap.get?_update_other _ _ (Ne.symm hb)
  generalize h2'.update e₂ (Obj.mapFields (·.setIfInBounds 4 (Value.bool true))) = h3 at q2 k2' ⊢
  refine wpAny_bind (isType_rec q2 rfl ?_)
  rw [if_neg (by decide)]
  unfold raisedInstance
  refine wpAny_bind (wpAny_bind (wpAny_typeOf (T := "TypeError") ⟨_, q2, rfl⟩ ?_))
  refine wpAny_bind (wpAny_pure ?_)
  rw [if_pos PySem.F.excRaise_TypeError.plainMeta]
  refine wpAny_pure ?_
  have hne : e₁ ≠ e₂ := fun q => by have := hm.new; rw [← q] at this; rw [he] at this; cases this
  have he3 : h3.get? e₁ = some o₁ := (k2' _ hne).trans ((k1 _ hne).trans (hm.keeps _ _ he))
  unfold setFlight raiseNew
  refine wpAny_bind (wpAny_bind (wpAny_field (i := 1) (x := Value.none) q2 rfl rfl ?_))
  rw [if_neg (by decide)]
  refine wpAny_pure (wpAny_bind (wpAny_handled ?_))
  rw [hA]
  dsimp only
  rw [if_pos (by simp [hne])]
  refine wpAny_bind (wpAny_holding (unchained he3 hd h2 ?_))
  refine wpAny_bind ?_
  show wpAny _ _ (setField (.ref e₂) 2 (.ref e₁)) _ _ _
  refine wpAny_setField q2 rfl (by show 2 < 6; decide) (wpAny_throw ?_)
  have q3 := Heap.get?_update_self (Obj.mapFields (·.setIfInBounds 2 (Value.ref e₁))) q2 rfl
  refine hE _ e₂ _ _ _ (fun b o hb => ?_) hm.new q3 rfl rfl rfl ⟨_, rfl⟩
  have hb2 : b ≠ e₂ := fun q => by have := hm.new; rw [← q] at this; rw [hb] at this; cases this
  rw [Heap.get?_update_other _ _ (Ne.symm hb2), k2' _ hb2, k1 _ hb2]
  exact hm.keeps _ _ hb
theorem caught_from {outer : List Env} {L₂ e : Addr} {base h₀ : Heap} {s1 te : Str} {msg : Str} {k k2 : Nat} {p0 p1 p2 p3 p4 p5 p6 : Pos} {h : Heap} {t : Nat} (hfr : A.frames = some (env :: outer)) (hf : env.frame = some L₂) (V : EnvOK env L names cells)
    (hn1 : names.lookup s1 = some .globalImplicit) (s3 : nsIn (topO w.params) 3 s1 = some none) (s0 : biN s1 = some (some (.type "StopIteration"))) (sd : (s1 == ("__debug__" : Str)) = false)
    (hn2 : names.lookup te = some .globalImplicit) (e3 : nsIn (topO w.params) 3 te = some none) (e0 : biN te = some (some (.type "TypeError"))) (ed : (te == ("__debug__" : Str)) = false)
    (OB : Old w base) (hl : h₀.FunFrames base (env :: outer)) (hkb : base.StaysIn h₀) (hx : Heap.NewExc h₀ h e "StopIteration") {Q : Flow → Shared → Prop}
    (hE : ∀ h' e₂ a0 t', Heap.HeldW base (env :: outer) e₂ (.type "TypeError") a0 L₂ h' → E (.ref e₂) ⟨h', g, d, t', os⟩) :
    wpAny (model prog w) A (noteFrame (.ref e) env) (fun _ s₂ => wpAny (model prog w) A (setFlight (.ref e) none) (fun _ s₃ => wpAny (model prog w) A
      (handleBy (.ref e) env [.ExceptHandler (some (.Name s1 p0)) none [.Raise (some (.Call (.Name te p1) [.Constant (.str msg) k p2] [] p3)) (some (.Constant .none k2 p4)) p5] p6]) Q E s₃) E s₂) E ⟨h, g, d, t, os⟩ := by
  obtain ⟨ob, tp, he, hcls, hd⟩ := hx.there
  have hen : base.get? e = none := by
    cases hq : base.get? e with
    | none => rfl
    | some o' => have := hkb e o' hq; rw [hx.new] at this; cases this
  refine note1 hfr (hl.of_keeps fun b o hb _ => ⟨o, hx.keeps b o hb, rfl⟩) hf he (fun b o hb => hx.keeps b o (hkb b o hb)) hen hd rfl fun h2 T F => ?_
  refine F.land fun h3 F => ?_
  refine wpAny_handleBy_builtin (X := "StopIteration") (T := "StopIteration") (b := true) stop_excSub stop_tup isSubtype_stop ?_
  refine (q_bi V hn1 (OB.keeps F.stays) s3 s0 sd ⟨rfl, ⟨_, F.he, (Obj.cls_mapFields ..).trans hcls⟩, ?_⟩).out
  rw [if_pos rfl]
  refine F.land fun h4 F => ?_
  refine wpAny_execs_cons (raise_from rfl V (OB.keeps F.stays) hn2 e3 e0 ed F.he F.hd rfl fun h5 e₂ o₂ vs₂ t5 k5 n2 g2 c2 d2 v1 v0 => ?_)
  have F5 := F.keep k5
  obtain ⟨a0, v0⟩ := v0
  have hen2 : base.get? e₂ = none := by
    cases hq : base.get? e₂ with
    | none => rfl
    | some o' => have := F.stays e₂ o' hq; rw [n2] at this; cases this
  show wpAny _ (A.mark (some (.ref e))) (noteFrame (.ref e₂) env) _ _ _
  unfold noteFrame
  simp only [hf]
  refine wpAny_bind (wpAny_field g2 d2 v1 ?_)
  rw [if_neg (by decide)]
  refine wpAny_entryW (a0 := a0) hfr F5.ff hf g2 F5.stays hen2 d2 (Array.getElem?_eq_some_iff.mp v1).1 v0 fun h6 N => ?_
  obtain ⟨k1, k2, ⟨oe, vs, T2, oT, ts, b1, ⟨b2, b3⟩, b4, b5, b6, b7, b8, b9, b10⟩, _⟩ := N
  show wpAny _ A _ _ _ _
  refine wpAny_bind (wpAny_field b1 b4 b5 ?_)
  rw [if_neg (by simp)]
  rw [hf]
  unfold setFlight
  refine wpAny_bind (wpAny_field b1 b4 b5 ?_)
  rw [if_pos (show (Value.ref T2 != Value.none) = true from by simp)]
  have hsz : 3 < ts.size := (Array.getElem?_eq_some_iff.mp b10).1
  refine wpAny_setField b8 b9 hsz (hE _ e₂ a0 _ ?_)
  have other : ∀ b, b ≠ T2 → (h6.update T2 (Obj.mapFields (·.setIfInBounds 3 ((some L₂).elim Value.none fun f => rawInt f)))).get? b = h6.get? b := fun b hb => Heap.get?_update_other _ _ (Ne.symm hb)
  refine ⟨fun b o hb => (other b fun q => by rw [q, b6] at hb; cases hb).trans (k1 b o hb), hen2, k2.of_keeps fun b o hb hn => ⟨o, (other b fun q => ?_).trans hb, rfl⟩,
    oe, vs, T2, _, _, (other e₂ (Ne.symm b7)).trans b1, ⟨b2.trans c2, b3⟩, b4, b5, b6, b7, Heap.get?_update_self _ b8 (Obj.isFreed_of_fields (Obj.data_mapFields b9 _)), Obj.data_mapFields b9 _, by simp [hsz]⟩
  rw [q, b8] at hb; injection hb with hb; subst hb; exact hn _ b9
theorem caught_ret {outer : List Env} {L₂ e : Addr} {base : Heap} {a0 : Value} {te : Str} {k : Nat} {p0 p1 p2 p3 : Pos} {h : Heap} {t : Nat} (hfr : A.frames = some (env :: outer)) (hf : env.frame = some L₂) (V : EnvOK env L names cells)
    (hn2 : names.lookup te = some .globalImplicit) (e3 : nsIn (topO w.params) 3 te = some none) (e0 : biN te = some (some (.type "TypeError"))) (ed : (te == ("__debug__" : Str)) = false)
    (OB : Old w base) (hF : Heap.FlyingW base (env :: outer) e (.type "TypeError") a0 h) {Q : Flow → Shared → Prop}
    (hQ : ∀ h', base.StaysIn h' → Q (.ret (.bool true)) ⟨h', g, d, t, os⟩) :
    wpAny (model prog w) A (noteFrame (.ref e) env) (fun _ s₂ => wpAny (model prog w) A (setFlight (.ref e) none) (fun _ s₃ => wpAny (model prog w) A
      (handleBy (.ref e) env [.ExceptHandler (some (.Name te p0)) none [.Return (some (.Constant (.bool true) k p1)) p2] p3]) Q E s₃) E s₂) E ⟨h, g, d, t, os⟩ := by
  refine wpAny_looks_onW hfr hf hF fun h1 H1 _ => ?_
  refine wpAny_landsW H1 fun h2 F2 _ => ?_
  refine wpAny_handleBy_builtin (X := "TypeError") (T := "TypeError") (b := true) te_excSub te_tup te_te ?_
  refine (q_bi V hn2 (OB.keeps F2.1) e3 e0 ed ⟨rfl, F2.there, ?_⟩).out
  rw [if_pos rfl]
  refine wpAny_setFlight_noneW F2.1 F2.2.2.1 F2.2.2.2.at fun h3 k3 _ _ _ => ?_
  exact (q_return (q_bool (hQ h3 k3))).out
theorem q_nextEnd {it l : Addr} {i : Nat} {vs : List Value} {c : Nat} {oi : Obj} {h : Heap} {t : Nat} {Q : Value → Shared → Prop} (hh : A.handled = none) (hi : Heap.get? h it = some oi) (hc : oi.cls = .type "list_iterator") (hd : oi.data = .fields #[.ref l, .int i 0])
    (hl : Heap.get? h l = some (seqObj "list" vs.toArray c)) (hx : vs[i]? = none)
    (x : ∀ h1 o1 h' e, Heap.SameBut it h h1 → h1.get? it = some o1 → Heap.NewExc h1 h' e "StopIteration" → E (.ref e) ⟨h', g, d, t, os⟩) :
    WP (model prog w) A (PySem.call (.builtin "next") [.ref it]) Q E ⟨h, g, d, t, os⟩ := by
  have hit : Heap.IsListIter h it l i := ⟨oi, hi, hc, hd⟩
  refine ⟨Calls.call_function_entry (by decide +kernel) (by decide +kernel) kdk_entry_next (kdk_args_next _) ?_⟩
  unfold Builtin.«next»
  refine wpAny_bind (m := someArgs "next" 1 2 _) (wpAny_of_eq (a := [Value.ref it]) (by first | rfl | kernel_rfl!) ?_)
  dsimp only
  refine wpAny_bind (wpAny_specialOf (name := Str.ofString "__next__") hit.typeIs slot_listiter_next.lookup ?_)
  refine wpAny_ite_split (fun hab => absurd hab (by decide)) (fun _ => ?_)
  refine wpAny_bind (wpAny_callSpecial?_slot (name := Str.ofString "__next__") hit.typeIs slot_listiter_next
    (wpAny_call_entry slot_listiter_next hit.typeIs entry_listiter_next ?_ (args_listiter_next _)))
  show wpAny _ _ (field (.ref it) 0 >>= _) _ _ _
  refine wpAny_bind (wpAny_field hi hd (x := .ref l) rfl ?_)
  show wpAny _ _ (if (Value.ref l == Value.none) = true then _ else _) _ _ _
  rw [if_neg (show ¬ ((Value.ref l == Value.none) = true) from Bool.false_ne_true)]
  show wpAny _ _ (field (.ref it) 1 >>= _) _ _ _
  refine wpAny_bind (wpAny_field hi hd (x := .int i 0) rfl ?_)
  show wpAny _ _ (seqItems? (.ref l) >>= _) _ _ _
  refine wpAny_bind (wpAny_seqItems hl rfl ?_)
  have hx' : vs.toArray[i]? = none := by simpa using hx
  simp only [Int.toNat_natCast, hx']
  refine wpAny_bind (wpAny_rule (wpAny_bind (wpAny_setField hi hd (by simp) ?_)))
  have q1 := Heap.get?_update_self (Obj.mapFields (·.setIfInBounds 0 Value.none)) hi (Obj.isFreed_of_fields (Obj.data_mapFields hd _))
  have q2 : Heap.SameBut it h (h.update it (Obj.mapFields (·.setIfInBounds 0 Value.none))) := Heap.SameBut.update ..
  generalize h.update it (Obj.mapFields (·.setIfInBounds 0 Value.none)) = h1 at q1 q2 ⊢
  show wpAny _ _ (newExc (.type "StopIteration") [] >>= _) _ _ _
  refine wpAny_bind ?_
  simp only [newExc, newTuple]
  refine wpAny_bind (wpAny_newObj_type ?_ (by size_fits))
  refine wpAny_bind (m := firstArgMember _ _) (wpAny_of_eq (a := Value.none) (by first | rfl | (simp only [firstArgMember]; rfl)) ?_)
  refine wpAny_newObj_type ?_ (by size_fits)
  simp only [raiseNew]
  refine wpAny_bind (wpAny_handled ?_)
  rw [show A.handled = none from hh]
  refine wpAny_bind (wpAny_pure (wpAny_throw ?_))
  refine x h1 _ _ _ q2 q1 ⟨fun b o hb => Heap.get?_push_of_some _ (Heap.get?_push_of_some _ hb), Heap.get?_none_of_le (by simp), _, .ref h1.objs.size, Heap.get?_push_size _ rfl, rfl, ?_⟩
  rfl
end
end

theorem reduce_empty (w : World) (A : Around) (S : Deep2 A) (outer : List Env) (hF : A.frames = some outer) (h₀ : Heap) (KR : Old w h₀) (g d tk os) (f l : Addr) (e : Nat)
   (hl : h₀.get? l = some (seqObj "list" ([] : List Value).toArray e)) (base : Heap) (hbs : base.StaysIn h₀) (hff : h₀.FunFrames base outer) (OB : Unit → Old w base) (Q : Value → Shared → Prop) (E : Value → Shared → Prop)
   (hE : ∀ h' e2 a0 t', Heap.FlyingW base outer e2 (.type "TypeError") a0 h' → E (.ref e2) ⟨h', g, d, t', os⟩) :
   wpAny (model PG w) A (PySem.call (.ref 30) [.ref f, .ref l]) Q E ⟨h₀, g, d, tk, os⟩ := by
  have D := Lg.start h₀
  have h2 := KR.fr 2 _ rfl rfl rfl
  have h30 := KR.fr 30 _ rfl rfl rfl
  have h3 := KR.fr 3 _ rfl rfl rfl

  refine wpAny_call (codeAny_of_tree ?_)
  show wpAny (model PG w) A.in1 (callAny (.ref 30) ⟨[.ref f, .ref l], []⟩) _ _ _
  refine WP.out ?_
  repeat ktyn_q

  rename_i fr hfr Dfr hp Dp hp2 Dp2 hq Dq
  obtain ⟨oL, N0, D5⟩ : ∃ oL, NsO oL (upd (upd (upd noNames (Str.ofString "function") (.ref f)) (Str.ofString "sequence") (.ref l)) (Str.ofString "initial") (.ref 22)) ∧ Lg [] h₀ hq [(fr, oL)] :=
    ⟨_, nsO_put (nsO_put (nsO_put nsO_empty')), Dq⟩
  clear D Dfr Dp Dp2 Dq h30 h3 h2
  refine ⟨rfl, enter (fun env => EnvOK env fr [(Str.ofString "function", .local), (Str.ofString "sequence", .local), (Str.ofString "initial", .local), (Str.ofString "it", .local), (Str.ofString "value", .local), (Str.ofString "element", .local), (Str.ofString "iter", .globalImplicit), (Str.ofString "_initial_missing", .globalImplicit), (Str.ofString "next", .globalImplicit), (Str.ofString "StopIteration", .globalImplicit), (Str.ofString "TypeError", .globalImplicit)] [] ∧ env.frame = some fr) ⟨⟨rfl, rfl, rfl, rfl, rfl, rfl⟩, rfl⟩ fun env V => ?_⟩
  obtain ⟨V, hVf⟩ := V
  refine WP.out ?_
  generalize hA : A.deeper env = A1
  have S1 : Deep A1 := hA ▸ Deep2.deeper S _
  have hF1 : A1.frames = some (env :: outer) := hA ▸ Around.frames_deeper hF
  clear hA
  repeat tb_rel
  refine WP.id' ?_
  dsimp only [cond]
  repeat tb_rel
  rename_i it hi Di ha oa Na Da
  refine q_nextEnd (i := 0) (vs := []) S1.handled (Lg.hit Da (.head _)) rfl rfl (Da.keeps _ _ hl) rfl ?_
  intro h7 o7 h8 e8 hs7 e7 hx8
  have D7 := Da.same (.here rfl) hs7 e7
  clear Da Di
  have e1 := D7.hit (a := fr) (.tail _ (.head _))
  obtain ⟨es, ep, hdd, _⟩ := id Na
  refine caught_from hF1 hVf V rfl rfl bi_StopIteration rfl rfl rfl bi_TypeError rfl (OB ()) (h₀ := h7) ⟨by rw [V.kind]; decide, ⟨fr, _, hVf, ?_, e1, fun vs q => by rw [hdd] at q; cases q⟩, hff.of_keeps fun b o hb _ => ⟨o, D7.keeps _ _ hb, rfl⟩⟩ (fun b o hb => D7.keeps _ _ (hbs b o hb)) hx8 fun h9 e9 a9 t9 H9 => ?_
  · have h4 := D7.fresh0 (a := fr) (.tail _ (.head _))
    cases hq : base.get? fr with
    | none => rfl
    | some o => have := hbs fr o hq; rw [h4] at this; cases this
  · exact wpAny_leaves_heldW hVf H9 fun h10 F10 => hE h10 _ _ _ F10
theorem refusedW (w : World) (A : Around) (S : Deep3 A) (env0 : Env) (fr : Addr) (hF : A.frames = some [env0]) (hk : env0.scope.kind = .function) (hf0 : env0.frame = some fr) (h : Heap) (g d tk os) (KR : Old w h) (oL : Obj) (m : Str → Option Value) (hL : h.get? fr = some oL) (N : NsO oL m)
   (hap : Apart w [fr])
   (Q : Value → Shared → Prop) (E : Value → Shared → Prop) (hQ : ∀ h' tk', KB [fr] h h' → Q (.bool true) ⟨h', g, d, tk', os⟩) : wpAny (model PG w) A (PySem.call (.ref 63) []) Q E ⟨h, g, d, tk, os⟩ := by
  have S0 := S.deep2
  have D := Lg.start h
  have h2 := KR.fr 2 _ rfl rfl rfl
  have h63 := KR.fr 63 _ rfl rfl rfl
  have h3 := KR.fr 3 _ rfl rfl rfl
  refine wpAny_call (codeAny_of_tree ?_)
  show wpAny (model PG w) A.in1 (callAny (.ref 63) ⟨[], []⟩) _ _ _
  refine WP.out ?_
  repeat ktyn_q
  rename_i f1 hf1 Df1
  obtain ⟨o1, N1, D1⟩ : ∃ o1, NsO o1 noNames ∧ Lg [] h hf1 [(f1, o1)] := ⟨_, nsO_empty', Df1⟩
  clear D Df1 h63 h3 h2
  refine ⟨rfl, enter (fun env => EnvOK env f1 [(Str.ofString "reduce", .globalImplicit), (Str.ofString "_law_turned", .globalImplicit), (Str.ofString "TypeError", .globalImplicit)] [] ∧ env.frame = some f1) ⟨⟨rfl, rfl, rfl, rfl, rfl, rfl⟩, rfl⟩ fun env1 V1 => ?_⟩
  obtain ⟨V1, hf1⟩ := V1
  refine WP.out ?_
  generalize hA : A.deeper env1 = A1
  have S1 : Deep2 A1 := hA ▸ Deep3.deeper S _
  have hF1 : A1.frames = some [env1, env0] := hA ▸ Around.frames_deeper hF
  clear hA S0
  repeat tb_rel
  refine q_cwT (f := 30) ⟨_, _, rfl, rfl, rfl, rfl⟩ rfl ?_
  repeat tb_rel
  rename_i l2 h2 D2
  have hn : ∀ {a : Addr} {o : Obj}, (a, o) ∈ [(l2, seqObj "list" #[] 0), (f1, o1)] → (TI.gone h [fr]).get? a = none := fun hm => by
    cases hq : (TI.gone h [fr]).get? _ with
    | none => rfl
    | some o => have h5 := (TI.gone_some hq).2; rw [D2.fresh0 hm] at h5; cases h5
  have hst : (TI.gone h [fr]).StaysIn h2 := fun b o hb => D2.keeps _ _ (TI.gone_some hb).2
  have OB : Old w (TI.gone h [fr]) := KR.kb (fun b o hb hn => (TI.gone_get hn).trans hb) hap
  obtain ⟨es1, ep1, hd1, _⟩ := id N1
  obtain ⟨es0, ep0, hd0, _⟩ := id N
  refine ⟨KR.keeps D2.keeps, reduce_empty w A1 S1 _ hF1 h2 (KR.keeps D2.keeps) g d tk os 44 l2 0 (D2.hit (.head _)) _ hst ⟨by rw [V1.kind]; decide, ⟨f1, o1, hf1, hn (.tail _ (.head _)), D2.hit (.tail _ (.head _)), fun vs q => by rw [hd1] at q; cases q⟩,
    by rw [hk]; decide, ⟨fr, oL, hf0, TI.gone_none (.head _), D2.keeps _ _ hL, fun vs q => by rw [hd0] at q; cases q⟩, trivial⟩ (fun _ => OB) _ _ fun h3 e3 a3 t3 F3 => ?_⟩
  refine caught_ret hF1 hf1 V1 rfl rfl bi_TypeError rfl OB F3 fun h4 k4 => ?_
  exact hQ h4 _ fun b o hb hn => k4 b o ((TI.gone_get hn).trans hb)

theorem law_walk (w : World) (A : Around) (S : Deep4 A) (hA0 : A.frames = some []) (h₀ : Heap) (KR : Old w h₀) (z16 : h₀.get? 16 = some tab0) (z65 : h₀.get? 65 = some tab0) (g d tk os) (sc : Addr) (ws : List (Int × Tok))
   (hl : h₀.IsList sc (ws.map val).toArray) (h64 : ws.length < 64) (Q : Value → Shared → Prop) (E : Value → Shared → Prop) (hQ : ∀ h' tk', OldK h₀ h' → Q (.bool true) ⟨h', g, d, tk', os⟩) :
   wpAny (model PG w) A (PySem.call (.ref 68) [.ref sc]) Q E ⟨h₀, g, d, tk, os⟩ := by
  have D := Lg.start2 z16 z65 rfl
  obtain ⟨sl4, z4⟩ := KR.m4
  have hsc : sc ∉ [16, 65] := by
    obtain ⟨o, ho, hc, _⟩ := hl
    intro hm
    rcases List.mem_cons.mp hm with hm | hm
    · rw [hm] at ho; rw [z16] at ho; cases ho; cases hc
    · rw [List.mem_singleton.mp hm] at ho; rw [z65] at ho; cases ho; cases hc
  have S0 := S.deep3.deep2
  have h2 := KR.fr 2 _ rfl rfl rfl
  have h68 := KR.fr 68 _ rfl rfl rfl
  have h3 := KR.fr 3 _ rfl rfl rfl
  refine wpAny_call (codeAny_of_tree ?_)
  show wpAny (model PG w) A.in1 (callAny (.ref 68) ⟨[.ref sc], []⟩) _ _ _
  refine WP.out (WP.noE fun EE => ?_)
  repeat ktyn_q
  rename_i fr hfr Dfr c1 hc1 Dc1 c2 hc2 Dc2 hp Dp
  obtain ⟨oL, N0, oc1, C1, oc2, C2, D5⟩ : ∃ oL, NsO oL (upd noNames (Str.ofString "script") (.ref sc)) ∧ ∃ oc1, CellO oc1 none ∧ ∃ oc2, CellO oc2 none ∧ Lg [16, 65] h₀ hp [(c2, oc2), (c1, oc1), (fr, oL), (65, tab0), (16, tab0)] :=
    ⟨_, nsO_put nsO_empty', _, cellO, _, cellO, Dp⟩
  clear D Dfr Dc1 Dc2 Dp h68 h3 h2
  refine ⟨rfl, enter (fun env => EnvOK env fr lawNames [(Str.ofString "laid", c2), (Str.ofString "way", c1)] ∧ env.frame = some fr ∧ env.code = .ref 67 ∧ env.qual = (Str.ofString "law" ++ Str.ofString ".<locals>.")) ⟨⟨rfl, rfl, rfl, rfl, rfl, rfl⟩, rfl, rfl, rfl⟩ fun env V => ?_⟩
  obtain ⟨V, hVf, hVc, hVq⟩ := V
  refine WP.out (WP.noE fun EE => ?_)
  generalize hA : A.deeper env = A1
  have S1 : Deep3 A1 := hA ▸ Deep4.deeper S _
  have hF : A1.frames = some [env] := hA ▸ Around.frames_deeper hA0
  clear hA S0
  have hl2 : hp.IsList sc (ws.map val).toArray := let ⟨o, ho, r⟩ := hl; ⟨o, D5.base ho hsc, r⟩
  repeat tb_rel
  refine slice40 D5 hl2 (by simp [sizeLine_eq]; omega) fun row h1 D1 => ?_
  have hvl : (ws.take 40).length < 64 := by simp; omega
  generalize ws.take 40 = vs at *
  repeat tb_rel
  rename_i hr oL1 N1 Dr ways hw Dw it hi Di
  clear D1 D5 Dr Dw hl2 N0
  have Di : Lg [16, 65] h₀ hi [(it, { cls := Value.type "list_iterator", data := Data.fields #[Value.ref ways, Value.int 0 0] }), (ways, seqObj "list" #[Value.ref 37, .ref 44, .ref 51] 0), (row, seqObj "list" (List.map val vs).toArray 0), (c2, oc2), (c1, oc1), (fr, oL1), (65, tab0), (16, tab0)] := Di
  refine codeAny_forLoop (fun n s' => ∃ (i : Nat) (h' : Heap) (tk' : Nat) (oL oc1 oc2 oit o16 : Obj) (m : Str → Option Value) (v1 v2 : Option Value), s' = ⟨h', g, d, tk', os⟩ ∧ n = 4 - i ∧ i ≤ 3 ∧
     NsO oL m ∧ m (Str.ofString "row") = some (.ref row) ∧ CellO oc1 v1 ∧ CellO oc2 v2 ∧
     Lg [16, 65] h₀ h' [(it, oit), (ways, seqObj "list" #[Value.ref 37, .ref 44, .ref 51] 0), (row, seqObj "list" (List.map val vs).toArray 0), (c2, oc2), (c1, oc1), (fr, oL), (65, tab0), (16, o16)] ∧
     oit.cls = .type "list_iterator" ∧ oit.data = .fields #[.ref ways, .int i 0] ∧ (o16 = tab0 ∨ ∃ T, TabOK w h' T ∧ ∀ a ∈ T.as, a ∉ [it, ways, row, c2, c1, fr, 65, 16])) ?turn 4
     ⟨0, _, _, _, _, _, _, _, _, _, _, rfl, rfl, Nat.zero_le _, N1, by tb_start, C1, C2, Di, rfl, rfl, .inl rfl⟩
  case turn =>
    clear Di N1 C1 C2
    rintro n s' ⟨i, h', tk', oL, oc1, oc2, oit, o16, m, v1, v2, rfl, rfl, hile, N1, hmr, C1, C2, L1, hit1, hit2, hT⟩
    have hOC := apart_top KR L1
    have HO : Old w h' := KR.lg L1
    have LB := L1.rebase
    simp only [List.map_cons, List.map_nil] at hOC LB
    by_cases hn : i < 3
    · refine wpAny_pyNext_list_item (l := ways) (i := i) (items := #[Value.ref 37, .ref 44, .ref 51]) (x := .ref (wayA i)) ⟨_, LB.hit (.head _), hit1, hit2⟩ ⟨_, LB.hit (.tail _ (.head _)), rfl, 0, rfl⟩ (ways_at hn) fun h2 he hs => ?_
      obtain ⟨oit', ho', hc', hd'⟩ := he
      have L2 := LB.same (.here rfl) hs ho'
      clear LB ho' hs
      show wpAny _ _ (assign _ _ _) _ _ _
      refine WP.out (WP.noE fun EE => ?_)
      repeat tb_rel
      refine WP.out (WP.noE fun EE => WP.hide fun QQ hQQ => ?_)
      repeat tb_rel
      refine q_cwT (f := 21) ⟨_, _, rfl, rfl, rfl, rfl⟩ rfl ?_
      repeat tb_rel
      rename_i h3 oc1' C1' L3
      have e16 := L3.hit (a := 16) (by kxf_signs)
      refine ⟨Old.kb HO L3.kb hOC, ck_any w _ S1 h3 (Old.kb HO L3.kb hOC) g d _ os _ [it, ways, row, c2, c1, fr, 65, 16] L3.present o16 e16 (L3.hit (a := 65) (by kxf_signs)) ?hT _ _ fun h4 T K tk4 kT kn tn ht hk => ?_⟩
      case hT =>
        rcases hT with q | ⟨T, HT, hTC⟩
        · exact .inl q
        · exact .inr ⟨T, HT.kb2 L3.kb (L1.hit (by kxf_signs)) e16 hTC, hTC⟩
      have L4 := L3.turn16 (by simp) kT (by kfm_signs) ht.t16
      have LL := Lg.comp L1 L4 (fun a ha => ha) (List.nil_sublist _) (fun p hp => by cases hp)
      rw [List.append_nil] at LL
      have HO4 : Old w h4 := KR.lg LL
      have L4' := L4.rebase
      simp only [List.map_cons, List.map_nil] at L4'
      have e16' := ht.t16
      clear L1 L2 L3 L4 hT HO kT e16
      repeat tb_rel
      refine q_cwT (f := 56) ⟨_, _, rfl, rfl, rfl, rfl⟩ rfl ?_
      repeat tb_rel
      rename_i h5 oL5 N5 L5
      clear L4'
      refine ⟨Old.kb HO4 L5.kb hOC, laid_walk w _ S1.deep2 i hn h5 (Old.kb HO4 L5.kb hOC) g d _ os row vs 0 (L5.hit (by kxf_signs)) hvl _ _ fun h6 D6 tk6 out6 c6 LL6 ho6 => ?_⟩
      have L6 := L5.trans LL6
      simp only [List.cons_append, List.nil_append] at L6
      clear L5 LL6
      repeat tb_rel
      rename_i h7 oc2' C2' L7
      have hcl : (A1.mark none).units + 64 < cLine := S1.cl
      show wpAny _ _ (PySem.call (.builtin "sorted") [.ref row] [(Str.ofString "key", .ref K.C)]) _ _ _
      refine sortedW w (A1.mark none) S1.sh2 i hn h7 g d _ os (Old.kb HO4 L7.kb hOC) T (ht.kb2 L7.kb e16' (L7.hit (by kxf_signs)) tn) K (hk.kb L7.kb kn) row vs 0 (L7.hit (by kxf_signs)) hvl _ _ fun h8 D8 tk8 out8 c8 LL8 ho8 => ?_
      have L8 := L7.trans LL8
      simp only [List.cons_append, List.nil_append] at L8
      clear LL8
      repeat tb_rel
      refine ⟨by rw [ho8, ho6]; simp, ?_⟩
      have L9 := L8.sub (List.Sublist.cons _ (List.Sublist.refl _))
      clear L7 L8
      refine q_ifFI (fun s₁ => ∃ h tk, s₁ = ⟨h, g, d, tk, os⟩ ∧ Lg [it, ways, row, c2, c1, fr, 65, 16] h4 h [(D6, seqObj "list" (List.map val out6).toArray c6), (it, oit'), (ways, seqObj "list" #[Value.ref 37, Value.ref 44, Value.ref 51] 0), (row, seqObj "list" (List.map val vs).toArray 0), (c2, oc2'), (c1, oc1'), (fr, oL5), (65, tab0), (16, { cls := Value.none, data := Data.fields #[Value.int 4 0, Value.int 4 0, Value.ref T.k.c] })]) ?theIf ?theGo
      case theIf =>
        cases vs with
        | nil =>
          refine q_andF ?_
          repeat tb_rel
          rename_i eA hA DA
          refine ⟨by simp, rfl, _, _, rfl, DA.sub (List.Sublist.cons _ (List.Sublist.refl _))⟩
        | cons v vs =>
          refine q_andT ?_
          repeat tb_rel
          rename_i eA hA DA
          have L10 := DA.sub (List.Sublist.cons _ (List.Sublist.refl _))
          clear DA L9
          refine ⟨by simp, ?_⟩
          refine q_andF ?_
          refine q_orF ?_
          repeat tb_rel
          show wpAny _ _ (PySem.call (.builtin "min") [.ref row] [(Str.ofString "key", .ref K.C)]) _ _ _
          refine minW w (A1.mark none) S1.sh1 i hn hA g d _ os (Old.kb HO4 L10.kb hOC) T (ht.kb2 L10.kb e16' (L10.hit (by kxf_signs)) tn) K (hk.kb L10.kb kn) row v vs 0 (L10.hit (by kxf_signs)) hvl _ _ fun h11 tk11 t11 k11 => ?_
          have L11 := L10.grow k11
          clear L10 k11
          repeat tb_rel
          have hlen6 : out6.length = vs.length + 1 := by
            have := congrArg List.length ho6
            obtain ⟨Lp, _, hp, e⟩ := laid_pairs i (List.map (fun x => x.fst) (v :: vs))
            rw [e, List.length_map, List.length_map, hp.length_eq] at this
            have := congrArg List.length (en_map 0 (List.map (fun x => x.fst) (v :: vs)))
            simp at this
            simp_all
          have h64' : vs.length + 1 < 64 := by simpa using hvl
          have hmin := min_laid i v.1 (vs.map (·.1))
          rw [show v.1 :: List.map (fun x => x.fst) vs = List.map (fun x => x.fst) (v :: vs) from rfl, ← ho6] at hmin
          obtain ⟨z0, hz0, ez0⟩ : ∃ z0, out6[0]? = some z0 ∧ z0.1 = bestF (fun x b => decide (wayF i x b < 0)) v.1 (vs.map (·.1)) := by simpa using hmin
          refine q_item (v := z0) (L11.hit (.head _)) (by decide) (by decide) hz0 rfl ?_
          dsimp only [val]
          repeat tb_rel
          refine ⟨by simp [ez0], ?_⟩
          refine q_orF ?_
          repeat tb_rel
          show wpAny _ _ (PySem.call (.builtin "max") [.ref row] [(Str.ofString "key", .ref K.C)]) _ _ _
          refine maxW w (A1.mark none) S1.sh1 i hn h11 g d _ os (Old.kb HO4 L11.kb hOC) T (ht.kb2 L11.kb e16' (L11.hit (by kxf_signs)) tn) K (hk.kb L11.kb kn) row v vs 0 (L11.hit (by kxf_signs)) hvl _ _ fun h12 tk12 t12 k12 => ?_
          have L12 := L11.grow k12
          clear L11 k12
          repeat tb_rel
          obtain ⟨zl, hzl⟩ : ∃ zl, out6[out6.length - 1]? = some zl := ⟨_, List.getElem?_eq_getElem (by omega)⟩
          have hmax := max_laid i v.1 (vs.map (·.1)) zl.1
          rw [show v.1 :: List.map (fun x => x.fst) vs = List.map (fun x => x.fst) (v :: vs) from rfl, ← ho6] at hmax
          have hmax := hmax (by simp [hzl])
          refine q_compF (cl := [(Str.ofString "way", c1), (Str.ofString "laid", c2)]) (fun x => decide (wayF i x zl.1 = 0)) S1.handled ?clos2 (by decide +kernel) rfl (by decide +kernel) (by kernel_rfl!) (fun _ => rfl) (by kernel_rfl!) ?_
          case clos2 => unfold closureFor cellOf; rw [V.cls]; rfl
          repeat tb_rel
          refine ⟨D6, out6, c6, h12, _, rfl, rfl, L12.hit (.head _), by simp [sizeLine_eq]; omega, ?test2, ?_⟩
          case test2 =>
            intro C z h₂ g₂ d₂ t₂ os₂ o₂ m₂ E' hz k₂ eC N₂ hmx
            have KR2 := (Old.kb HO4 L12.kb hOC).keeps k₂
            have e1 := k₂ _ _ (L12.hit (a := c1) (by kxf_signs))
            have e2 := k₂ _ _ (L12.hit (a := c2) (by kxf_signs))
            have e6 := k₂ _ _ (L12.hit (a := D6) (by kxf_signs))
            have V2 := EnvOK.comp (C := C) (cl := [(Str.ofString "way", c1), (Str.ofString "laid", c2)]) (scope := { kind := .function, names := [(Str.ofString ".0", .local), (Str.ofString "one", .local), (Str.ofString "len", .globalImplicit), (Str.ofString "laid", .free), (Str.ofString "way", .free)], isGenerator := false, isCoroutine := false }) (nms' := [(Str.ofString ".0", .local), (Str.ofString "one", .local), (Str.ofString "len", .globalImplicit), (Str.ofString "laid", .cell), (Str.ofString "way", .cell)]) V rfl (by kernel_rfl!)
            refine wpAny_tests_one ?_
            clear V L12 LL
            refine WP.out (WP.noE fun EE => ?_)
            repeat tb_rel
            refine q_cwT (topWay w hn) rfl ?_
            repeat tb_rel
            refine q_item (v := zl) e6 (by omega) (by omega) (by rw [← hzl]; congr 1; omega) rfl ?_
            repeat tb_rel
            refine ⟨KR2, wayW w _ S1.sh0 i hn h₂ g₂ d₂ _ os₂ KR2 z.1 zl.1 z.2 zl.2 _ _ fun h3 t3 t' k3 => ?_⟩
            repeat tb_rel
            exact ⟨rfl, h3, _, rfl, k3⟩
          intro Dm h13 t13 c13 hDm eDm k13
          have L13 := Lg.add L12 k13 hDm eDm
          clear L12 k13 hDm eDm
          obtain ⟨zm, hzm, ezm⟩ : ∃ zm, (out6.filter fun z => decide (wayF i z.1 zl.1 = 0))[0]? = some zm ∧ zm.1 = bestF (fun x b => decide (0 < wayF i x b)) v.1 (vs.map (·.1)) := by
            rw [List.filter_map] at hmax
            simpa [Function.comp_def] using hmax
          repeat tb_rel
          refine q_item (v := zm) (L13.hit (.head _)) (by decide) (by decide) hzm rfl ?_
          dsimp only [val]
          repeat tb_rel
          refine ⟨by simp [ezm], q_orN ⟨rfl, rfl, _, _, rfl, L13.sub (List.Sublist.cons _ (List.Sublist.refl _))⟩⟩
      case theGo =>
        rintro s₁ ⟨hx, tkx, rfl, Lx⟩
        have hmk : m (Str.ofString "row") = some (.ref row) := hmr
        clear L9
        repeat tb_rel
        refine q_range Lx fun r hr Lr ir => ?_
        refine q_iterR Lr ir (small_one (by decide) (by decide) (by omega) (by omega)) fun itk hik Lk => ?_
        clear Lr Lx ir
        obtain ⟨sz, hsz⟩ : ∃ sz, sz = Builtin.Range.rangeSize 1 (↑vs.length) 1 := ⟨_, rfl⟩
        rw [← hsz] at Lk
        rw [rangeSize_one] at hsz
        have hsz0 : 0 ≤ sz := by rw [hsz]; split <;> omega
        have hszN : 0 < sz → sz = vs.length - 1 := by rw [hsz]; split <;> omega
        refine codeAny_forLoop (fun n s' => ∃ (kk : Nat) (h : Heap) (tk : Nat) (oL : Obj) (m : Str → Option Value), s' = ⟨h, g, d, tk, os⟩ ∧ n = sz.toNat + 1 - kk ∧ (kk : Int) ≤ sz ∧ NsO oL m ∧ m (Str.ofString "row") = some (.ref row) ∧ m (Str.ofString "key") = some (.ref K.C) ∧
          Lg [it, ways, row, c2, c1, fr, 65, 16] h4 h [(itk, rgObj (1 + kk) (sz - kk)), (D6, seqObj "list" (List.map val out6).toArray c6), (it, oit'), (ways, seqObj "list" #[Value.ref 37, Value.ref 44, Value.ref 51] 0), (row, seqObj "list" (List.map val vs).toArray 0), (c2, oc2'), (c1, oc1'), (fr, oL), (65, tab0), (16, { cls := Value.none, data := Data.fields #[Value.int 4 0, Value.int 4 0, Value.ref T.k.c] })]) ?turnk (sz.toNat + 1)
          ⟨0, hik, _, oL5, _, rfl, rfl, hsz0, N5, by tb_start, upd_eq, by rw [show (1 + ((0 : Nat) : Int)) = 1 from rfl, show sz - ((0 : Nat) : Int) = sz from Int.sub_zero sz]; exact Lk⟩
        case turnk =>
          clear Lk N5
          rintro n s' ⟨kk, h, tk, oLk, mk, rfl, rfl, hkle, Nk, hmrk, hmkk, Lk⟩
          by_cases hkk : (kk : Int) < sz
          · have hkN : kk + 1 < vs.length := by have := hszN (by omega); omega
            refine wpAny_pyNext_range_item (x := 1 + kk) (left := sz - kk) (step := 1) (Lk.hit (.head _)) (by omega) fun h' hit' hs' => ?_
            have hit2 : h'.get? itk = some (rgObj (1 + ((kk + 1 : Nat) : Int)) (sz - ((kk + 1 : Nat) : Int))) := by
              rw [show 1 + ((kk + 1 : Nat) : Int) = 1 + (kk : Int) + 1 by omega, show sz - ((kk + 1 : Nat) : Int) = sz - kk - 1 by omega]; exact hit'
            have Lk2 := Lk.same (.here rfl) hs' hit2
            clear Lk hs' hit' hit2
            show wpAny _ _ (assign _ _ _) _ _ _
            refine WP.out (WP.noE fun EE => ?_)
            repeat tb_rel
            refine WP.out (WP.noE fun EE => WP.hide fun QQk hQk => ?_)
            refine q_assignSw (nms := [Str.ofString "one", Str.ofString "other", Str.ofString "told"]) rfl ?sw ?_
            case sw =>
              obtain ⟨⟨k0, nm0, ig, ic, mr⟩, lo, gl, ce, qu, fn, cd, fra, bu⟩ := env
              obtain ⟨v1, v2, v3, v4, v5, v6⟩ := V
              dsimp only at v1 v2 v3 v4 v5 v6
              subst v2 v3
              rfl
            repeat tb_rel
            refine q_cwC (C := K.C) (ns := K.ns) (ba := K.ba) (tn := K.tn) (v1 := K.v1) rfl ?_
            repeat tb_rel
            rename_i h9 oL9 N9 L9
            refine q_item (v := vs[kk + 1]) (L9.hit (by kxf_signs)) (by omega) (by omega) (by rw [show ((1 : Int) + kk).toNat = kk + 1 by omega]; exact List.getElem?_eq_getElem hkN) rfl ?_
            refine ⟨(hk.kb L9.kb kn).hC, newW w _ S1.sh0 i h9 g d os (Old.kb HO4 L9.kb hOC) T (ht.kb2 L9.kb e16' (L9.hit (by kxf_signs)) tn) K (hk.kb L9.kb kn) h9 (Keeps.refl _) _ _ _ _ _ fun h10 a10 d10 tk10 k10 n10 e10 => ?_⟩
            have L10 := Lg.add L9 k10 n10 e10
            clear L9 Lk2 k10 n10 e10
            repeat tb_rel
            refine q_cwC (C := K.C) (ns := K.ns) (ba := K.ba) (tn := K.tn) (v1 := K.v1) rfl ?_
            repeat tb_rel
            refine q_item (v := vs[kk]) (L10.hit (by kxf_signs)) (by omega) (by omega) (by rw [show ((1 : Int) + kk - 1).toNat = kk by omega]; exact List.getElem?_eq_getElem (by omega)) rfl ?_
            refine ⟨(hk.kb L10.kb kn).hC, newW w _ S1.sh0 i h10 g d os (Old.kb HO4 L10.kb hOC) T (ht.kb2 L10.kb e16' (L10.hit (by kxf_signs)) tn) K (hk.kb L10.kb kn) h10 (Keeps.refl _) _ _ _ _ _ fun h11 a11 d11 tk11 k11 n11 e11 => ?_⟩
            have L11 := Lg.add L10 k11 n11 e11
            clear L10 k11 n11 e11
            repeat tb_rel
            refine q_cwT (topWay w hn) rfl ?_
            repeat tb_rel
            refine q_item (v := vs[kk + 1]) (L11.hit (by kxf_signs)) (by omega) (by omega) (by rw [show ((1 : Int) + kk).toNat = kk + 1 by omega]; exact List.getElem?_eq_getElem hkN) rfl ?_
            repeat tb_rel
            refine q_item (v := vs[kk]) (L11.hit (by kxf_signs)) (by omega) (by omega) (by rw [show ((1 : Int) + kk - 1).toNat = kk by omega]; exact List.getElem?_eq_getElem (by omega)) rfl ?_
            repeat tb_rel
            refine ⟨Old.kb HO4 L11.kb hOC, wayW w _ S1.sh0 i hn h11 g d _ os (Old.kb HO4 L11.kb hOC) _ _ _ _ _ _ fun h12 tk12 t12 k12 => ?_⟩
            have L12 := L11.grow k12
            clear L11 k12
            repeat tb_rel
            rename_i tu hu Lu
            show WP _ _ (unpackItems _ 3 none) _ _ _
            refine q_unpack3 S1.handled Lu (Lu.hit (.head _)) fun hu2 Lu2 => ?_
            clear Lu L12
            show WP _ _ (assignInOrder (List.map (fun n => bindName env n) [Str.ofString "told", Str.ofString "other", Str.ofString "one"]) [_, _, _]) _ _ _
            refine q_icons ?_
            repeat tb_rel
            refine q_icons ?_
            repeat tb_rel
            refine q_icons ?_
            repeat tb_rel
            refine q_inil ?_
            repeat tb_rel
            rename_i hs1 os1 Ns1 Ls1 hs2 os2 Ns2 Ls2 hs3 os3 Ns3 Ls3
            clear Ls1 Ls2 Lu2 Ns1 Ns2 N9
            have La0 := Ls3
            refine WP.mk (richW1 w _ S1.sh0 i hn hs3 g d _ os (Old.kb HO4 La0.kb hOC) T (ht.kb2 La0.kb e16' (La0.hit (by kxf_signs)) tn) K (hk.kb La0.kb kn) a10 a11 d10 d11 _ _ _ _ (La0.hit (by kxf_signs)) (La0.hit (by kxf_signs)) _ _ fun ha1 tka1 ka1 => ?_)
            have La1 := La0.grow ka1
            clear ka1 Ls3 La0
            repeat tb_rel
            refine WP.mk (richW4 w _ S1.sh0 i hn ha1 g d tka1 os (Old.kb HO4 La1.kb hOC) T (ht.kb2 La1.kb e16' (La1.hit (by kxf_signs)) tn) K (hk.kb La1.kb kn) a10 a11 d10 d11 _ _ _ _ (La1.hit (by kxf_signs)) (La1.hit (by kxf_signs)) _ _ fun ha2 tka2 ka2 => ?_)
            have La2 := La1.grow ka2
            clear ka2 La1
            repeat tb_rel
            refine WP.mk (richW3 w _ S1.sh0 i hn ha2 g d tka2 os (Old.kb HO4 La2.kb hOC) T (ht.kb2 La2.kb e16' (La2.hit (by kxf_signs)) tn) K (hk.kb La2.kb kn) a10 a11 d10 d11 _ _ _ _ (La2.hit (by kxf_signs)) (La2.hit (by kxf_signs)) _ _ fun ha3 tka3 ka3 => ?_)
            have La3 := La2.grow ka3
            clear ka3 La2
            repeat tb_rel
            refine WP.mk (richW5 w _ S1.sh0 i hn ha3 g d tka3 os (Old.kb HO4 La3.kb hOC) T (ht.kb2 La3.kb e16' (La3.hit (by kxf_signs)) tn) K (hk.kb La3.kb kn) a10 a11 d10 d11 _ _ _ _ (La3.hit (by kxf_signs)) (La3.hit (by kxf_signs)) _ _ fun ha4 tka4 ka4 => ?_)
            have La4 := La3.grow ka4
            clear ka4 La3
            repeat tb_rel
            refine WP.mk (richW2 w _ S1.sh0 i hn ha4 g d tka4 os (Old.kb HO4 La4.kb hOC) T (ht.kb2 La4.kb e16' (La4.hit (by kxf_signs)) tn) K (hk.kb La4.kb kn) a10 a11 d10 d11 _ _ _ _ (La4.hit (by kxf_signs)) (La4.hit (by kxf_signs)) _ _ fun ha5 tka5 ka5 => ?_)
            have La5 := La4.grow ka5
            clear ka5 La4
            repeat tb_rel
            rename_i la hla Dla hlb olb Nlb Dlb lb hlc Dlc
            refine q_neB (xs := [decide (wayF i vs[kk + 1].fst vs[kk].fst < 0), decide (wayF i vs[kk + 1].fst vs[kk].fst ≤ 0), decide (wayF i vs[kk + 1].fst vs[kk].fst = 0), decide (0 ≤ wayF i vs[kk + 1].fst vs[kk].fst), decide (0 < wayF i vs[kk + 1].fst vs[kk].fst)]) hcl (Dlc.hit (.tail _ (.head _))) (Dlc.hit (.head _)) ?_
            repeat tb_rel
            refine ⟨rfl, q_nil ?_⟩
            refine hQk _ _ ?_
            refine ⟨sz.toNat + 1 - (kk + 1), by omega, kk + 1, hlc, _, olb, _, rfl, rfl, by omega, Nlb, by tb_start, by tb_start, Dlc.sub ?slk⟩
            case slk => repeat (first | exact List.Sublist.refl _ | with_reducible apply List.Sublist.cons_cons | with_reducible apply List.Sublist.cons)
          · refine wpAny_pyNext_range_end (x := 1 + kk) (left := sz - kk) (step := 1) S1.handled (Lk.hit (.head _)) (by omega) fun h' hs' => ?_
            have Lz := Lk.drop' hs'
            clear Lk
            refine wpAny_execs_nil ?_
            show wpAny _ _ (execs [] env) _ _ _
            refine wpAny_execs_nil ?_
            have Lf := Lg.comp LL Lz (fun a ha => ha) (List.nil_sublist _) (fun p hp => by cases hp)
            rw [List.append_nil] at Lf
            refine hQQ _ _ ?_
            refine ⟨4 - (i + 1), by omega, i + 1, h', _, oLk, oc1', oc2', oit', _, mk, _, _, rfl, rfl, hn, Nk, hmrk, C1', C2', Lf.sub (List.Sublist.cons _ (List.Sublist.refl _)), hc', hd', .inr ⟨T, ht.kb2 Lz.kb e16' (Lz.hit (by kxf_signs)) tn, tn⟩⟩
    · have hi : i = 3 := by omega
      refine wpAny_pyNext_list_end (l := ways) (i := i) (items := #[Value.ref 37, Value.ref 44, Value.ref 51]) S1.handled ⟨_, LB.hit (.head _), hit1, hit2⟩ ⟨_, LB.hit (.tail _ (.head _)), rfl, 0, rfl⟩ (by rw [hi]; rfl) fun h2 hs => ?_
      have ho16 : ∃ p, o16 = { cls := .none, data := .fields p } := by
        rcases hT with q | ⟨T, HT, _⟩
        · exact ⟨_, q⟩
        · exact ⟨_, Option.some.inj ((L1.hit (a := 16) (by kxf_signs)).symm.trans HT.t16)⟩
      have L2 := L1.drop' hs
      clear L1 LB
      refine wpAny_execs_nil ?_
      show wpAny _ _ (execs _ env) _ _ _
      refine WP.out (WP.noE fun EE => ?_)
      clear HO hOC
      have hclos0 : ∀ sc : Scope, (∀ y ∈ sc.names, y.2 ≠ .free) → closureFor sc env = pure [] := fun sc h => closureFor_none h
      refine q_assignMap (cl := []) (fun x => x.fmod 10) S1.handled V ?hsw (hclos0 _ (by decide +kernel)) (by decide +kernel) rfl (by decide +kernel) (by kernel_rfl!) (by kernel_rfl!) (fun _ => rfl) L2 (by kxf_signs) N1 ?_
      case hsw =>
        obtain ⟨⟨k0, nm0, ig, ic, mr⟩, lo, gl, ce, qu, fn, cd, fra, bu⟩ := env
        obtain ⟨v1, v2, v3, v4, v5, v6⟩ := V
        dsimp only at v1 v2 v3 v4 v5 v6
        subst v2 v3
        rfl
      repeat tb_rel
      refine ⟨row, vs, 0, _, rfl, rfl, L2.hit (.tail _ (.head _)), by simp [sizeLine_eq]; omega, ?elt, ?_⟩
      case elt =>
        intro C z h₂ g₂ d₂ t₂ os₂ o₂ m₂ E' hz k₂ eC N₂ hmx
        have KR2 := (KR.lg L2).keeps k₂
        have V2 := EnvOK.comp (C := C) (cl := []) (scope := { kind := .function, names := [(Str.ofString ".0", .local), (Str.ofString "number", .local)], isGenerator := false, isCoroutine := false }) (nms' := [(Str.ofString ".0", .local), (Str.ofString "number", .local)]) V rfl (by kernel_rfl!)
        clear V L2
        refine WP.out (WP.noE fun EE => ?_)
        repeat tb_rel
        exact ⟨mod_int' (by decide) ⟨⟨_, rfl⟩, _, _, rfl, fun _ _ e => e⟩⟩
      intro Df h3 oL3 tk3 c3 figs hDf eDf hfigs kf eL3 N3
      have L3 := L2.stepAdd (by kfm_signs) kf eL3 hDf eDf
      clear kf eL3 hDf eDf
      repeat tb_rel
      refine q_cwT (f := 30) ⟨_, _, rfl, rfl, rfl, rfl⟩ rfl ?_
      repeat tb_rel
      refine q_opaque (fun QQ => ∀ (f : Addr) (h' : Heap) (tk' : Nat) (D0 : CD) (of : Obj), Lg [16, 65] h₀ h' [(f, of), (D0.c, lamCode 74 D0), (Df, seqObj "list" (List.map val figs).toArray c3), (ways, seqObj "list" #[Value.ref 37, Value.ref 44, Value.ref 51] 0), (row, seqObj "list" (List.map val vs).toArray 0), (c2, oc2), (c1, oc1), (fr, oL3), (65, { cls := .none, data := .fields #[.int 74 0, .int 14 0, .ref D0.c] }), (16, o16)] → (∀ o, lamObj w.params 0 (.ref D0.c) = some o → of = o) → QQ (.ref f) ⟨h', g, d, tk', os⟩) ?lam0 ?_
      case lam0 =>
        intro QQ hQQ
        clear hclos0 hs hl hT hF
        obtain ⟨⟨k0, nm0, ig, ic, mr⟩, lo, gl, ce, qu, fn, cd, fra, bu⟩ := env
        obtain ⟨v1, v2, v3, v4, v5, v6⟩ := V
        dsimp only at v1 v2 v3 v4 v5 v6 hVc hVq hVf
        subst v2 v3 v4 v5 v6 hVc hVq hVf
        repeat ktyn_q
        rename_i a6 g6 d6 a5 g5 d5 a4 g4 d4 a3 g3 d3 a2 g2 d2 a1 g1 d1 gu du aF gF dF
        exact hQQ aF gF _ ⟨a1, a6, a5, a4, a3, a2, _, _, _, _, _⟩ _ (dF.sub (.cons_cons _ (.cons_cons _ (.cons _ (.cons _ (.cons _ (.cons _ (.cons _ (.refl _))))))))) (fun o e => Option.some.inj ((show some _ = lamObj w.params 0 (.ref a1) from rfl).trans e))
      intro f1 h4 tk4 D1 of1 L4 hof1
      have e1 := hof1 _ rfl
      subst e1
      clear hof1 L3
      have hfb : ∀ z ∈ figs, 0 ≤ z.1 ∧ z.1 < 10 := by
        intro z hz
        have h1 : z.1 ∈ figs.map (fun x => x.1) := List.mem_map_of_mem hz
        rw [hfigs] at h1
        obtain ⟨y, _, e⟩ := List.mem_map.mp h1
        rw [← e]
        exact ⟨Int.fmod_nonneg_of_pos _ (by decide), Int.fmod_lt_of_pos _ (by decide)⟩
      have hfl : figs.length < 64 := by
        have := congrArg List.length hfigs
        simp only [List.length_map] at this
        omega
      repeat tb_rel
      refine ⟨KR.lg L4, reduce_init w A1 S1.deep2 h4 (KR.lg L4) g d _ os f1 Df figs c3 0 _ (fun a b => 10 * a + b) _ _ (L4.hit (.head _)) rfl (L4.hit (by kxf_signs)) _ _ ?hf1 ?_⟩
      case hf1 =>
        intro pre b rest e A' E' Q' h' t' tk' S' k' q'
        exact lamcall0 w A' S' h' ((KR.lg L4).keeps k') g d tk' os f1 D1.c (fun o e => (k' _ _ (L4.hit (.head _))).trans ((show some _ = lamObj w.params 0 (.ref D1.c) from rfl).trans e)) D1 rfl (k' _ _ (L4.hit (.tail _ (.head _)))) _ b.1 t' b.2 Q' E' q'
      intro h5 t5 tk5 k5
      have L5 := (L4.grow k5).sub (.cons _ (.refl _))
      clear L4 k5
      repeat tb_rel
      refine q_join rfl rfl rfl rfl ?_
      refine q_compS (cl := []) S1.handled (hclos0 _ (by decide +kernel)) (by decide +kernel) rfl (by decide +kernel) (by kernel_rfl!) (fun _ => rfl) ?_
      repeat tb_rel
      refine ⟨Df, figs, c3, _, _, rfl, rfl, L5.hit (by kxf_signs), by simp [sizeLine_eq]; omega, ?elt2, ?_⟩
      case elt2 =>
        intro C z h₂ g₂ d₂ t₂ os₂ o₂ m₂ E' hz k₂ eC N₂ hmx
        have KR2 := (KR.lg L5).keeps k₂
        have V2 := EnvOK.comp (C := C) (cl := []) (scope := { kind := .function, names := [(Str.ofString ".0", .local), (Str.ofString "figure", .local), (Str.ofString "str", .globalImplicit)], isGenerator := false, isCoroutine := false }) (nms' := [(Str.ofString ".0", .local), (Str.ofString "figure", .local), (Str.ofString "str", .globalImplicit)]) V rfl (by kernel_rfl!)
        clear V L5 KR
        refine WP.out (WP.noE fun EE => ?_)
        repeat tb_rel
        have hzb := hfb z hz
        exact ⟨P.str_of_int (small_log (by omega)) ⟨⟨_, rfl⟩, _, _, rfl, fun _ _ e => e⟩⟩
      intro Ds h6 tk6 l6 hl6 hm6 k6
      have L6 := L5.grow k6
      clear L5 k6
      have hds : ∀ x ∈ figs.map (fun z => z.1), 0 ≤ x ∧ x < 10 := by
        intro x hx
        obtain ⟨z, hz, rfl⟩ := List.mem_map.mp hx
        exact hfb z hz
      have htr := text_reads (figs.map fun z => z.1) hds (by simpa using hfl)
      refine ⟨Ds, l6, rfl, hl6, (figs.map fun z => z.1).map dText, by rw [hm6, List.map_map]; rfl, joinOk_digs _ hds (by simpa using hfl), fun t7 tk7 => ?_⟩
      refine q_addS (by have := htr.2; rw [Str.length_append] at this; rw [sizeLine_eq]; omega) fun t8 tk8 => ?_
      repeat tb_rel
      refine q_intText htr.1 htr.2 ?_
      repeat tb_rel
      refine ⟨by simp, ?_⟩
      have L7 : Lg [16, 65] h₀ h6 [(ways, seqObj "list" #[Value.ref 37, Value.ref 44, Value.ref 51] 0), (row, seqObj "list" (List.map val vs).toArray 0), (c2, oc2), (c1, oc1), (fr, oL3), (65, { cls := .none, data := .fields #[.int 74 0, .int 14 0, .ref D1.c] }), (16, o16)] := L6.sub (.cons _ (.cons _ (.refl _)))
      clear L6
      have hcl : A1.units + 64 < cLine := S1.cl
      refine q_ifFI (fun s₁ => ∃ h tk t65, s₁ = ⟨h, g, d, tk, os⟩ ∧ Lg [16, 65] h₀ h [(ways, seqObj "list" #[Value.ref 37, Value.ref 44, Value.ref 51] 0), (row, seqObj "list" (List.map val vs).toArray 0), (c2, oc2), (c1, oc1), (fr, oL3), (65, t65), (16, o16)] ∧ (t65 = { cls := .none, data := .fields #[.int 74 0, .int 14 0, .ref D1.c] } ∨ ∃ y, t65 = { cls := .none, data := .fields #[.int 74 0, .int 14 0, .ref D1.c, .int 76 0, .int 28 0, .ref y] })) ?theIf4 ?theGo4
      case theIf4 =>
        cases vs with
        | nil =>
          refine q_andF ?_
          repeat tb_rel
          rename_i eA hA DA
          refine ⟨by simp, rfl, _, _, _, rfl, DA.sub (.cons _ (.refl _)), .inl rfl⟩
        | cons v vs =>
          refine q_andT ?_
          repeat tb_rel
          rename_i eA hA DA
          have L8 := DA.sub (.cons _ (.refl _))
          clear DA L7
          refine ⟨by simp, ?_⟩
          refine q_andF ?_
          repeat tb_rel
          refine q_cwT (f := 30) ⟨_, _, rfl, rfl, rfl, rfl⟩ rfl ?_
          repeat tb_rel
          refine q_opaque (fun QQ => ∀ (f : Addr) (h' : Heap) (tk' : Nat) (D0 : CD) (of : Obj), Lg [16, 65] h₀ h' [(f, of), (D0.c, lamCode 76 D0), (ways, seqObj "list" #[Value.ref 37, Value.ref 44, Value.ref 51] 0), (row, seqObj "list" (List.map val (v :: vs)).toArray 0), (c2, oc2), (c1, oc1), (fr, oL3), (65, { cls := .none, data := .fields #[.int 74 0, .int 14 0, .ref D1.c, .int 76 0, .int 28 0, .ref D0.c] }), (16, o16)] → (∀ o, lamObj w.params 1 (.ref D0.c) = some o → of = o) → QQ (.ref f) ⟨h', g, d, tk', os⟩) ?lam1 ?_
          case lam1 =>
            intro QQ hQQ
            clear hclos0 hs hl hT hF
            obtain ⟨⟨k0, nm0, ig, ic, mr⟩, lo, gl, ce, qu, fn, cd, fra, bu⟩ := env
            obtain ⟨v1, v2, v3, v4, v5, v6⟩ := V
            dsimp only at v1 v2 v3 v4 v5 v6 hVc hVq hVf
            subst v2 v3 v4 v5 v6 hVc hVq hVf
            repeat ktyn_q
            rename_i a6 g6 d6 a5 g5 d5 a4 g4 d4 a3 g3 d3 a2 g2 d2 a1 g1 d1 gu du aF gF dF
            exact hQQ aF gF _ ⟨a1, a6, a5, a4, a3, a2, _, _, _, _, _⟩ _ (dF.sub (.cons_cons _ (.cons_cons _ (.cons _ (.cons _ (.cons _ (.cons _ (.cons _ (.refl _))))))))) (fun o e => Option.some.inj ((show some _ = lamObj w.params 1 (.ref a1) from rfl).trans e))

          intro f2 h9 tk9 D2 of2 L9 hof2
          have e2 := hof2 _ rfl
          subst e2
          clear hof2 L8
          repeat tb_rel
          refine ⟨KR.lg L9, reduce_bare w A1 S1.deep2 h9 (KR.lg L9) g d _ os f2 row vs 0 v (fun a b => a - b) _ _ (L9.hit (.head _)) rfl (L9.hit (by kxf_signs)) _ _ ?hf2 ?_⟩
          case hf2 =>
            intro pre b rest e A' E' Q' h' t' tk' S' k' q'
            exact lamcall1 w A' S' h' ((KR.lg L9).keeps k') g d tk' os f2 D2.c (fun o e => (k' _ _ (L9.hit (.head _))).trans ((show some _ = lamObj w.params 1 (.ref D2.c) from rfl).trans e)) D2 rfl (k' _ _ (L9.hit (.tail _ (.head _)))) _ b.1 t' b.2 Q' E' q'
          intro h10 t10 tk10 k10
          have L10 := (L9.grow k10).sub (.cons _ (.cons _ (.refl _)))
          clear L9 k10
          repeat tb_rel
          refine q_item (v := v) (L10.hit (by kxf_signs)) (by decide) (by decide) rfl rfl ?_
          dsimp only [val]
          repeat tb_rel
          refine sliceFrom (b := 1) (vs := List.map val (v :: vs)) L10 (L10.hit (by kxf_signs)) (by simp [sizeLine_eq]; simp at hvl; omega) (by simp) fun sl h11 L11 => ?_
          repeat tb_rel
          refine q_sum (vs := vs) S1.handled (L11.hit (.head _)) fun h12 t12 tk12 k12 => ?_
          have L12 := (L11.grow k12).sub (.cons _ (.refl _))
          clear L10 L11 k12
          repeat tb_rel
          refine ⟨by rw [fold_sub]; simp, rfl, _, _, _, rfl, L12, .inr ⟨_, rfl⟩⟩
      case theGo4 =>
        rintro s₁ ⟨hx, tkx, t65, rfl, Lx, ht65⟩
        clear L7
        repeat tb_rel
        refine q_boolAnd ?_
        repeat tb_rel
        refine q_cwT (f := 30) ⟨_, _, rfl, rfl, rfl, rfl⟩ rfl ?_
        repeat tb_rel
        refine q_opaque (fun QQ => ∀ (f : Addr) (h' : Heap) (tk' : Nat) (D0 : CD) (of : Obj) (ps : Array Value), Lg [16, 65] h₀ h' [(f, of), (D0.c, lamCode 78 D0), (ways, seqObj "list" #[Value.ref 37, Value.ref 44, Value.ref 51] 0), (row, seqObj "list" (List.map val vs).toArray 0), (c2, oc2), (c1, oc1), (fr, oL3), (65, { cls := .none, data := .fields ps }), (16, o16)] → (∀ o, lamObj w.params 2 (.ref D0.c) = some o → of = o) → QQ (.ref f) ⟨h', g, d, tk', os⟩) ?lam2 ?_
        case lam2 =>
          intro QQ hQQ
          clear hclos0 hs hl hT hF
          obtain ⟨⟨k0, nm0, ig, ic, mr⟩, lo, gl, ce, qu, fn, cd, fra, bu⟩ := env
          obtain ⟨v1, v2, v3, v4, v5, v6⟩ := V
          dsimp only at v1 v2 v3 v4 v5 v6 hVc hVq hVf
          subst v2 v3 v4 v5 v6 hVc hVq hVf
          rcases ht65 with ht65 | ⟨y, ht65⟩
          all_goals (
            subst ht65
            repeat ktyn_q
            rename_i a6 g6 d6 a5 g5 d5 a4 g4 d4 a3 g3 d3 a2 g2 d2 a1 g1 d1 gu du aF gF dF
            exact hQQ aF gF _ ⟨a1, a6, a5, a4, a3, a2, _, _, _, _, _⟩ _ _ (dF.sub (.cons_cons _ (.cons_cons _ (.cons _ (.cons _ (.cons _ (.cons _ (.cons _ (.refl _))))))))) (fun o e => Option.some.inj ((show some _ = lamObj w.params 2 (.ref a1) from rfl).trans e)))
        intro f3 h13 tk13 D3 of3 ps L13 hof3
        have e3 := hof3 _ rfl
        subst e3
        clear hof3 Lx ht65
        repeat tb_rel
        refine ⟨KR.lg L13, reduce_init w A1 S1.deep2 h13 (KR.lg L13) g d _ os f3 row vs 0 5 _ (fun a b => a - b) _ _ (L13.hit (.head _)) rfl (L13.hit (by kxf_signs)) _ _ ?hf3 ?_⟩
        case hf3 =>
          intro pre b rest e A' E' Q' h' t' tk' S' k' q'
          exact lamcall2 w A' S' h' ((KR.lg L13).keeps k') g d tk' os f3 D3.c (fun o e => (k' _ _ (L13.hit (.head _))).trans ((show some _ = lamObj w.params 2 (.ref D3.c) from rfl).trans e)) D3 rfl (k' _ _ (L13.hit (.tail _ (.head _)))) _ b.1 t' b.2 Q' E' q'
        intro h14 t14 tk14 k14
        have L14 := (L13.grow k14).sub (.cons _ (.cons _ (.refl _)))
        clear L13 k14
        repeat tb_rel
        refine q_sum (vs := vs) S1.handled (L14.hit (by kxf_signs)) fun h15 t15 tk15 k15 => ?_
        have L15 := L14.grow k15
        clear L14 k15
        repeat tb_rel
        refine ⟨by rw [fold_sub]; simp, ?_⟩
        refine q_bool1 ?_
        repeat tb_rel
        refine q_cwT0 (f := 63) ⟨_, _, rfl, rfl, rfl, rfl⟩ (KR.lg L15) ?_
        refine refusedW w A1 S1 env fr hF V.kind hVf h15 g d _ os (KR.lg L15) oL3 _ (L15.hit (by kxf_signs)) N3 ((apart_top KR L15).sub fun b hb => by rw [List.mem_singleton.mp hb]; exact List.mem_map.mpr ⟨(fr, oL3), by kxf_signs, rfl⟩) _ _ fun h16 tk16 k16 => ?_
        obtain ⟨p16, rfl⟩ := ho16
        exact hQ h16 tk16 (oldK_end KR z16 z65 L15 (by kxf_signs) N3 k16 (L15.hit (by kxf_signs)) (L15.hit (by kxf_signs)))
end
end Mine

namespace Mine
theorem vals_of {vs : List Value} {ns : List Int} (h : IntsAre vs ns) : ∃ ws : List (Int × Tok), vs = ws.map val ∧ ws.length = ns.length := by
  induction h with
  | nil => exact ⟨[], rfl, rfl⟩
  | cons n t _ ih =>
    obtain ⟨ws, rfl, e⟩ := ih
    exact ⟨(n, t) :: ws, rfl, by simp [e]⟩
theorem old_of {w : World} {h : Heap} {p : Program} {loose : List Str} {mean : ExcName → Option Value} {mg mb : Str → Option Value} (KX : (topK w.params).In h) (T : Top p loose mean mg mb h) : Old w h := by
  refine ⟨fun a o e _ _ => KX a o e, ⟨mb, T.b, T.builtins⟩, ?_⟩
  obtain ⟨bm, ob, e1, e2, e3, e4, e5, e6⟩ := T.bmain
  have e := mg_of KX T.g (n := Str.ofString "__builtins__") (v := .ref 4) (by kernel_rfl)
  have e7 : some (Value.ref bm) = some (.ref 4) := e1.symm.trans e
  cases e7
  obtain ⟨c, d, dt, sl⟩ := ob
  cases e4; cases e5; cases e6
  exact ⟨sl, e3⟩
end Mine
set_option maxRecDepth 100000
set_option maxHeartbeats 8000000
theorem PySem.Challenge.cw_xc0001_01_holds : PySem.Challenge.rw_xc0001_01.Holds := by
  refine Mine.hd ?_
  k_fill
  intro w s₀ s₁ mg mb G Y fa o pm cd doc dV kV ho hd hcd hD hmg hg args vals as hpre hlay hrd hwl hlo
  have KX := km_in_of Y
  have YT := km_tabs_of Y
  have X := (Ground.X G).1
  have V := (Ground.X G).2
  refine Ground.open G ?_
  intro T B D TE TW
  wrow_args hpre hlay hrd hwl hlo
  all_goals (x_fa T KX hmg; (try all_lens))
  rename_i ns c1 c2 c3 c4 c5 w4 w3 l vs w0 hL c6 c7 c8 c9 hlen c10 hi c11
  obtain ⟨ws, rfl, hws⟩ := Mine.vals_of hi
  obtain ⟨hp, g, dr, tk, os⟩ := s₁
  refine Mine.law_walk w callerA Mine.callerDeep rfl hp (Mine.old_of KX T) (YT 16 (.head _)) (YT 65 (.tail _ (.head _))) g dr tk os l ws hL (by omega) _ _ fun h' tk' k => ?_
  exact ⟨.inl ⟨_, _, [], rfl, fun _ => rfl, ReadsW.bool true, by first | rfl | wrow_post, fun _ => ⟨List.nodup_nil, fun _ hm => (nomatch hm)⟩⟩, k, rfl, .of_eq hg⟩
