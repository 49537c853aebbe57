import PyProof.Rows.All
import Wide.All
import OpenK.AllK
import Wide.FinOn
import PySem.Challenge.RW_pk0103_01
set_option Elab.async false
set_option maxRecDepth 100000
set_option autoImplicit false
/-! ## Fw -/
section
open PySem PySem.W PyProof.Rows PySem.Calls
namespace Mine
abbrev pr : Program := PySem.Challenge.pw_pk0103_01

/-! the heap without some places -/
def gone : Obj := { cls := .none, data := .freed }
def minus (h : Heap) (D : List Addr) : Heap := ⟨h.objs.mapIdx fun i o => if i ∈ D then gone else o, h.life⟩
theorem get_minus (h : Heap) (D : List Addr) (b : Addr) : (minus h D).get? b = if b ∈ D then none else h.get? b := by
  unfold minus Heap.get?
  simp only [Array.getElem?_mapIdx]
  cases e : h.objs[b]? with
  | none => simp
  | some o =>
    by_cases hb : b ∈ D
    · simp [hb, gone]
    · simp [hb]
def Sub (g h : Heap) : Prop := ∀ b o, g.get? b = some o → h.get? b = some o
theorem Sub.refl (h : Heap) : Sub h h := fun _ _ e => e
theorem Sub.trans {a b c : Heap} (x : Sub a b) (y : Sub b c) : Sub a c := fun k o e => y k o (x k o e)
theorem sub_push (h : Heap) (o : Obj) : Sub h (h.push o) := fun _ _ e => Heap.get?_push_of_some o e
theorem minus_sub (h : Heap) (D : List Addr) : Sub (minus h D) h := fun b o e => by
  rw [get_minus] at e
  split at e
  · cases e
  · exact e
theorem get_minus_of {h : Heap} {D : List Addr} {b : Addr} {o : Obj} (e : h.get? b = some o) (hb : b ∉ D) : (minus h D).get? b = some o := by rw [get_minus, if_neg hb]; exact e
theorem get_minus_in {h : Heap} {D : List Addr} {b : Addr} (hb : b ∈ D) : (minus h D).get? b = none := by rw [get_minus, if_pos hb]

/-- what of g is not of h -/
def cut (g : Heap) (p : Addr → Bool) : Heap := ⟨g.objs.mapIdx fun i o => if p i then gone else o, g.life⟩
theorem get_cut (g : Heap) (p : Addr → Bool) (b : Addr) : (cut g p).get? b = if p b then none else g.get? b := by
  unfold cut Heap.get?
  simp only [Array.getElem?_mapIdx]
  cases e : g.objs[b]? with
  | none => simp
  | some o =>
    cases q : p b with
    | true => simp [gone]
    | false => simp
def less (g h : Heap) : Heap := cut g fun i => (h.get? i).isSome
theorem get_less (g h : Heap) (b : Addr) : (less g h).get? b = if (h.get? b).isSome then none else g.get? b := get_cut ..
theorem less_sub (g h : Heap) : Sub (less g h) g := fun b o e => by
  rw [get_less] at e
  split at e
  · cases e
  · exact e
theorem less_off {g h : Heap} {b : Addr} {o : Obj} (e : h.get? b = some o) : (less g h).get? b = none := by rw [get_less, e]; rfl
theorem get_less_of {g h : Heap} {b : Addr} {o : Obj} (e : g.get? b = some o) (n : h.get? b = none) : (less g h).get? b = some o := by rw [get_less, n]; exact e
theorem Sub.lessM {g g' : Heap} (k : Sub g g') (h : Heap) : Sub (less g h) (less g' h) := fun b o e => by
  rw [get_less] at e ⊢
  split at e
  · cases e
  · rename_i q; rw [if_neg q]; exact k b o e
/-- what is of r and not of h is of g less h -/
theorem Sub.toLess {r g h : Heap} (k : Sub r g) (hd : ∀ b o, h.get? b = some o → r.get? b = none) : Sub r (less g h) := fun b o e => by
  refine get_less_of (k b o e) ?_
  cases q : h.get? b with
  | none => rfl
  | some o' => rw [hd b o' q] at e; cases e

/-! the locals as a list -/
def lk (l : List (Str × Value)) : Str → Option Value := fun x => l.lookup x
theorem lk_cons (l : List (Str × Value)) (x : Str) (v : Value) : (fun y => if y = x then some v else lk l y) = lk ((x, v) :: l) := by
  funext y
  unfold lk
  rw [List.lookup_cons]
  by_cases e : y = x
  · subst e; simp
  · have : (y == x) = false := by simpa using e
    rw [this, if_neg e]

abbrev Pd := Obj → Prop
/-! what a call stands on: g, what nobody turns; L, l: its names; M: what it may turn -/
def Nm (h : Heap) (L : Addr) (l : List (Str × Value)) : Prop := ∃ m, h.Ns L m ∧ ∀ x v, lk l x = some v → m x = some v
theorem Nm.keeps {h h' : Heap} {L : Addr} {l : List (Str × Value)} (x : Nm h L l) (k : Sub h h') : Nm h' L l := let ⟨m, a, b⟩ := x; ⟨m, a.keeps k, b⟩
theorem Nm.extBut {h h' : Heap} {L a : Addr} {l : List (Str × Value)} (x : Nm h L l) (k : Heap.ExtBut a h h') (ne : L ≠ a) : Nm h' L l := let ⟨m, p, b⟩ := x; ⟨m, p.extBut k ne, b⟩
theorem Nm.only {h : Heap} {L : Addr} {l l' : List (Str × Value)} (x : Nm h L l) (k : ∀ p ∈ l', lk l p.1 = some p.2) : Nm h L l' := let ⟨m, a, b⟩ := x; ⟨m, a, fun y v e => b y v (k (y, v) (mem_of_lookup e))⟩
theorem Nm.there {h : Heap} {L : Addr} {l : List (Str × Value)} (x : Nm h L l) : ∃ o, h.get? L = some o := let ⟨_, ⟨o, _, _, e, _⟩, _⟩ := x; ⟨o, e⟩
structure Fm (g : Heap) (L : Addr) (l : List (Str × Value)) (M : List (Addr × Pd)) (h : Heap) : Prop where
  ns : Nm h L l
  sub : Sub g h
  off : g.get? L = none
  led : ∀ p ∈ M, ∃ o, h.get? p.1 = some o ∧ p.2 o
  nL : ∀ p ∈ M, p.1 ≠ L
  ng : ∀ p ∈ M, g.get? p.1 = none
  nd : (M.map (·.1)).Nodup

section
variable {g h h' : Heap} {L a b : Addr} {l : List (Str × Value)} {M : List (Addr × Pd)} {P P' R R' S S' T : Pd}
theorem Fm.set {l' : List (Str × Value)} (F : Fm g L l M h) (hn : Nm h' L l') (hs : Heap.SameBut L h h') : Fm g L l' M h' :=
  ⟨hn, fun b o e => (hs.2 b fun q => by subst q; rw [F.off] at e; cases e).trans (F.sub b o e), F.off,
    fun p hp => let ⟨o, e, q⟩ := F.led p hp; ⟨o, (hs.2 _ (F.nL p hp)).trans e, q⟩, F.nL, F.ng, F.nd⟩
theorem Fm.keeps (F : Fm g L l M h) (hk : Sub h h') : Fm g L l M h' :=
  ⟨F.ns.keeps hk, F.sub.trans hk, F.off, fun p hp => let ⟨o, e, q⟩ := F.led p hp; ⟨o, hk _ _ e, q⟩, F.nL, F.ng, F.nd⟩
theorem fresh_none (h : Heap) : h.get? h.objs.size = none := by
  cases e : h.get? h.objs.size with
  | none => rfl
  | some o => exact absurd (Heap.lt_size e) (Nat.lt_irrefl _)
theorem Sub.none (x : Sub g h) (e : h.get? a = none) : g.get? a = none := by
  cases q : g.get? a with
  | none => rfl
  | some o => rw [x _ _ q] at e; cases e
theorem Fm.new (F : Fm g L l M h) (hk : Sub h h') {o : Obj} (ha : h.get? a = none) (e : h'.get? a = some o) (hp : P o) : Fm g L l ((a, P) :: M) h' := by
  have F' := F.keeps hk
  refine ⟨F'.ns, F'.sub, F'.off, fun p hp' => ?_, fun p hp' => ?_, fun p hp' => ?_, ?_⟩
  · rcases List.mem_cons.mp hp' with rfl | q
    · exact ⟨o, e, hp⟩
    · exact F'.led p q
  · rcases List.mem_cons.mp hp' with rfl | q
    · rintro rfl; obtain ⟨oL, e'⟩ := F.ns.there; exact absurd e' (by rw [ha]; intro z; cases z)
    · exact F.nL p q
  · rcases List.mem_cons.mp hp' with rfl | q
    · exact F.sub.none ha
    · exact F.ng p q
  · rw [List.map_cons, List.nodup_cons]
    refine ⟨fun hm => ?_, F.nd⟩
    obtain ⟨p, hp', rfl⟩ := List.mem_map.mp hm
    obtain ⟨o', e', _⟩ := F.led p hp'
    rw [ha] at e'; cases e'
theorem Fm.push (F : Fm g L l M h) (o : Obj) (hf : o.isFreed = false) (hp : P o) : Fm g L l ((h.objs.size, P) :: M) (h.push o) :=
  F.new (sub_push h o) (fresh_none h) (Heap.get?_push_size h hf) hp
theorem Fm.weak {M' : List (Addr × Pd)} (F : Fm g L l M h) (hs : List.Sublist M' M) : Fm g L l M' h :=
  ⟨F.ns, F.sub, F.off, fun p hp => F.led p (hs.subset hp), fun p hp => F.nL p (hs.subset hp), fun p hp => F.ng p (hs.subset hp), (hs.map (·.1)).nodup F.nd⟩
theorem Fm.perm {M' : List (Addr × Pd)} (F : Fm g L l M h) (hs : List.Perm M' M) : Fm g L l M' h :=
  ⟨F.ns, F.sub, F.off, fun p hp => F.led p (hs.subset hp), fun p hp => F.nL p (hs.subset hp), fun p hp => F.ng p (hs.subset hp), (hs.map (·.1)).nodup_iff.mpr F.nd⟩
theorem Fm.tl {x : Addr × Pd} (F : Fm g L l (x :: M) h) : Fm g L l M h := F.weak (List.sublist_cons_self ..)
theorem Fm.tl2 {x y : Addr × Pd} (F : Fm g L l (x :: y :: M) h) : Fm g L l (x :: M) h := F.weak (.cons_cons _ (List.sublist_cons_self ..))
theorem Fm.tl3 {x y z : Addr × Pd} (F : Fm g L l (x :: y :: z :: M) h) : Fm g L l (x :: y :: M) h := F.weak (.cons_cons _ (.cons_cons _ (List.sublist_cons_self ..)))
theorem Fm.swap {x y : Addr × Pd} (F : Fm g L l (x :: y :: M) h) : Fm g L l (y :: x :: M) h := F.perm (List.Perm.swap ..)
theorem Fm.upd (F : Fm g L l ((a, P) :: M) h) {o : Obj} (e : h'.get? a = some o) (hp : P' o) (hs : Heap.ExtBut a h h') : Fm g L l ((a, P') :: M) h' := by
  have hnd := F.nd
  rw [List.map_cons, List.nodup_cons] at hnd
  have hng : g.get? a = none := F.ng (a, P) (.head _)
  have hnL : a ≠ L := F.nL (a, P) (.head _)
  refine ⟨F.ns.extBut hs (Ne.symm hnL), fun b o e => hs b o (fun q => ?_) (F.sub b o e), F.off, fun p hp' => ?_, fun p hp' => ?_, fun p hp' => ?_, by rw [List.map_cons, List.nodup_cons]; exact hnd⟩
  · rw [q, hng] at e; cases e
  · rcases List.mem_cons.mp hp' with rfl | q
    · exact ⟨o, e, hp⟩
    · obtain ⟨o', e', r⟩ := F.led p (.tail _ q)
      refine ⟨o', hs _ _ (fun z => hnd.1 ?_) e', r⟩
      show a ∈ _
      rw [← z]; exact List.mem_map_of_mem (f := (·.1)) q
  · rcases List.mem_cons.mp hp' with rfl | q
    · exact hnL
    · exact F.nL p (.tail _ q)
  · rcases List.mem_cons.mp hp' with rfl | q
    · exact hng
    · exact F.ng p (.tail _ q)
theorem Fm.upd1 {x : Addr × Pd} (F : Fm g L l (x :: (a, P) :: M) h) {o : Obj} (e : h'.get? a = some o) (hp : P' o) (hs : Heap.ExtBut a h h') : Fm g L l (x :: (a, P') :: M) h' := (F.swap.upd e hp hs).swap
theorem Fm.rot3 {x y z : Addr × Pd} (F : Fm g L l (x :: y :: z :: M) h) : Fm g L l (z :: x :: y :: M) h := F.perm ((List.perm_middle (l₁ := [x, y]) (l₂ := M) (a := z)).symm)
theorem Fm.unrot3 {x y z : Addr × Pd} (F : Fm g L l (z :: x :: y :: M) h) : Fm g L l (x :: y :: z :: M) h := F.perm (List.perm_middle (l₁ := [x, y]) (l₂ := M) (a := z))
theorem Fm.upd2 {x y : Addr × Pd} (F : Fm g L l (x :: y :: (a, P) :: M) h) {o : Obj} (e : h'.get? a = some o) (hp : P' o) (hs : Heap.ExtBut a h h') : Fm g L l (x :: y :: (a, P') :: M) h' := (F.rot3.upd e hp hs).unrot3
theorem Fm.rot4 {x y z u : Addr × Pd} (F : Fm g L l (x :: y :: z :: u :: M) h) : Fm g L l (u :: x :: y :: z :: M) h := F.perm ((List.perm_middle (l₁ := [x, y, z]) (l₂ := M) (a := u)).symm)
theorem Fm.unrot4 {x y z u : Addr × Pd} (F : Fm g L l (u :: x :: y :: z :: M) h) : Fm g L l (x :: y :: z :: u :: M) h := F.perm (List.perm_middle (l₁ := [x, y, z]) (l₂ := M) (a := u))
theorem Fm.upd3 {x y z : Addr × Pd} (F : Fm g L l (x :: y :: z :: (a, P) :: M) h) {o : Obj} (e : h'.get? a = some o) (hp : P' o) (hs : Heap.ExtBut a h h') : Fm g L l (x :: y :: z :: (a, P') :: M) h' := (F.rot4.upd e hp hs).unrot4
theorem Fm.hd (F : Fm g L l ((a, P) :: M) h) : ∃ o, h.get? a = some o ∧ P o := F.led _ (.head _)
theorem Fm.hd1 {x : Addr × Pd} (F : Fm g L l (x :: (a, P) :: M) h) : ∃ o, h.get? a = some o ∧ P o := F.led _ (.tail _ (.head _))
theorem Fm.hd2 {x y : Addr × Pd} (F : Fm g L l (x :: y :: (a, P) :: M) h) : ∃ o, h.get? a = some o ∧ P o := F.led _ (.tail _ (.tail _ (.head _)))
theorem Fm.hd3 {x y z : Addr × Pd} (F : Fm g L l (x :: y :: z :: (a, P) :: M) h) : ∃ o, h.get? a = some o ∧ P o := F.led _ (.tail _ (.tail _ (.tail _ (.head _))))
theorem Fm.only (F : Fm g L l M h) (l' : List (Str × Value)) (k : ∀ p ∈ l', lk l p.1 = some p.2) : Fm g L l' M h := ⟨F.ns.only k, F.sub, F.off, F.led, F.nL, F.ng, F.nd⟩
theorem kn0 : ∀ p ∈ ([] : List (Str × Value)), lk l p.1 = some p.2 := fun _ h => nomatch h
theorem kn1 {x : Str} {v : Value} {r : List (Str × Value)} (e : lk l x = some v) (k : ∀ p ∈ r, lk l p.1 = some p.2) : ∀ p ∈ (x, v) :: r, lk l p.1 = some p.2 := fun p hp => by
  rcases List.mem_cons.mp hp with rfl | h
  · exact e
  · exact k p h
theorem Fm.on (F : Fm g L l M h) (l' : List (Str × Value)) (e : l'.map (fun p => lk l p.1) = l'.map (fun p => some p.2)) : Fm g L l' M h := F.only l' fun p hp => by
  induction l' with
  | nil => cases hp
  | cons q r ih =>
    simp only [List.map_cons, List.cons.injEq] at e
    rcases List.mem_cons.mp hp with rfl | hp
    · exact e.1
    · exact ih e.2 hp
/-- what is not in the ledger any more lies still -/
theorem Fm.freeze {M' : List (Addr × Pd)} (F : Fm g L l M h) (hs : List.Sublist M' M) : ∃ g', Sub g g' ∧ Fm g' L l M' h ∧ ∀ b o, h.get? b = some o → b ≠ L → (∀ p ∈ M', p.1 ≠ b) → g'.get? b = some o := by
  refine ⟨minus h (L :: M'.map (·.1)), fun b o e => get_minus_of (F.sub b o e) fun hm => ?_, ⟨F.ns, minus_sub _ _, get_minus_in (.head _), fun p hp => F.led p (hs.subset hp), fun p hp => F.nL p (hs.subset hp),
    fun p hp => get_minus_in (.tail _ (List.mem_map_of_mem hp)), (hs.map (·.1)).nodup F.nd⟩, fun b o e h1 h2 => get_minus_of e fun hm => ?_⟩
  · rcases List.mem_cons.mp hm with rfl | q
    · rw [F.off] at e; cases e
    · obtain ⟨p, hp, rfl⟩ := List.mem_map.mp q
      rw [F.ng p (hs.subset hp)] at e; cases e
  · rcases List.mem_cons.mp hm with rfl | q
    · exact h1 rfl
    · obtain ⟨p, hp, rfl⟩ := List.mem_map.mp q
      exact h2 p hp rfl
/-- behind a call that keeps all: what it made lies still -/
theorem Fm.absorb (F : Fm g L l M h) (hk : Sub h h') : ∃ g', Sub g g' ∧ Fm g' L l M h' ∧ ∀ b o, h.get? b = none → h'.get? b = some o → g'.get? b = some o := by
  obtain ⟨g', s, F', q⟩ := (F.keeps hk).freeze (.refl M)
  refine ⟨g', s, F', fun b o e e' => q b o e' ?_ fun p hp => ?_⟩
  · rintro rfl; obtain ⟨oL, z⟩ := F.ns.there; rw [e] at z; cases z
  · rintro rfl; obtain ⟨o', z, _⟩ := F.led p hp; rw [e] at z; cases z
theorem Fm.take (F : Fm g L l M h) (hk : Sub h h') {r : Heap} (hr : Sub r h') (hd : ∀ b o, h.get? b = some o → r.get? b = none) : ∃ g', Sub g g' ∧ Sub r g' ∧ Fm g' L l M h' := by
  obtain ⟨g', a, b, c⟩ := F.absorb hk
  refine ⟨g', a, fun x o e => c x o ?_ (hr x o e), b⟩
  cases q : h.get? x with
  | none => rfl
  | some o' => rw [hd x o' q] at e; cases e
/-- a call begins -/
theorem Fm.start {m : Str → Option Value} (F : Fr g L h m) (hm : m = lk l) : Fm g L l [] h :=
  ⟨⟨m, F.ns, fun x v e => by rw [hm]; exact e⟩, F.keep, by
    cases e : g.get? L with
    | none => rfl
    | some o => exact absurd (Heap.lt_size e) (Nat.not_lt.mpr F.above), fun _ hp => (nomatch hp), fun _ hp => (nomatch hp), fun _ hp => (nomatch hp), List.nodup_nil⟩
end

/-! objects -/
def PL (vs : List Value) : Pd := fun o => ∃ n, o = { cls := .type "list", data := .seq vs.toArray n }
def TU (vs : List Value) : Pd := fun o => ∃ n, o = { cls := .type "tuple", data := .seq vs.toArray n }
def LI (l : Addr) (i : Nat) : Pd := fun o => o.cls = .type "list_iterator" ∧ o.data = .fields #[.ref l, .int i 0]
def AnyO : Pd := fun _ => True
def At (h : Heap) (a : Addr) (P : Pd) : Prop := ∃ o, h.get? a = some o ∧ P o
theorem At.sub {g h : Heap} {a : Addr} {P : Pd} (x : At g a P) (k : Sub g h) : At h a P := let ⟨o, e, q⟩ := x; ⟨o, k _ _ e, q⟩
theorem At.list {h : Heap} {a : Addr} {vs : List Value} (x : At h a (PL vs)) : h.PlainList a vs.toArray := by
  obtain ⟨o, e, n, rfl⟩ := x; exact ⟨n, e⟩
theorem At.isList {h : Heap} {a : Addr} {vs : List Value} (x : At h a (PL vs)) : h.IsList a vs.toArray := x.list.isList
theorem At.ofList {h : Heap} {a : Addr} {vs : List Value} (x : h.PlainList a vs.toArray) : At h a (PL vs) := let ⟨n, e⟩ := x; ⟨_, e, n, rfl⟩
theorem At.isTuple {h : Heap} {a : Addr} {vs : List Value} (x : At h a (TU vs)) : h.IsTuple a vs.toArray := by
  obtain ⟨o, e, n, rfl⟩ := x; exact ⟨_, e, rfl, n, rfl⟩
theorem At.isIter {h : Heap} {a l : Addr} {i : Nat} (x : At h a (LI l i)) : h.IsListIter a l i := by
  obtain ⟨o, e, c, d⟩ := x; exact ⟨o, e, c, d⟩
theorem At.ofIter {h : Heap} {a l : Addr} {i : Nat} (x : h.IsListIter a l i) : At h a (LI l i) := let ⟨o, e, c, d⟩ := x; ⟨o, e, c, d⟩
theorem At.lessM {g h : Heap} {a : Addr} {P : Pd} (x : At g a P) (n : h.get? a = none) : At (less g h) a P := let ⟨o, e, q⟩ := x; ⟨o, get_less_of e n, q⟩
theorem Fm.newA {g h h' : Heap} {L a : Addr} {l : List (Str × Value)} {M : List (Addr × Pd)} {P : Pd} (F : Fm g L l M h) (hk : Sub h h') (ha : h.get? a = none) (hat : At h' a P) : Fm g L l ((a, P) :: M) h' :=
  let ⟨_, e, q⟩ := hat; F.new hk ha e q
theorem Fm.updA {g h h' : Heap} {L a : Addr} {l : List (Str × Value)} {M : List (Addr × Pd)} {P P' : Pd} (F : Fm g L l ((a, P) :: M) h) (hat : At h' a P') (hs : Heap.SameBut a h h') : Fm g L l ((a, P') :: M) h' :=
  let ⟨_, e, q⟩ := hat; F.upd e q hs.extBut
theorem Fm.updA1 {g h h' : Heap} {L a : Addr} {l : List (Str × Value)} {M : List (Addr × Pd)} {P P' : Pd} {x : Addr × Pd} (F : Fm g L l (x :: (a, P) :: M) h) (hat : At h' a P') (hs : Heap.SameBut a h h') : Fm g L l (x :: (a, P') :: M) h' :=
  let ⟨_, e, q⟩ := hat; F.upd1 e q hs.extBut
theorem Fm.updA2 {g h h' : Heap} {L a : Addr} {l : List (Str × Value)} {M : List (Addr × Pd)} {P P' : Pd} {x y : Addr × Pd} (F : Fm g L l (x :: y :: (a, P) :: M) h) (hat : At h' a P') (hs : Heap.SameBut a h h') : Fm g L l (x :: y :: (a, P') :: M) h' :=
  let ⟨_, e, q⟩ := hat; F.upd2 e q hs.extBut
theorem Fm.updA3 {g h h' : Heap} {L a : Addr} {l : List (Str × Value)} {M : List (Addr × Pd)} {P P' : Pd} {x y z : Addr × Pd} (F : Fm g L l (x :: y :: z :: (a, P) :: M) h) (hat : At h' a P') (hs : Heap.SameBut a h h') : Fm g L l (x :: y :: z :: (a, P') :: M) h' :=
  let ⟨_, e, q⟩ := hat; F.upd3 e q hs.extBut
/-- the head of the ledger is let lie -/
theorem Fm.shut {g h : Heap} {L a : Addr} {l : List (Str × Value)} {M : List (Addr × Pd)} {P : Pd} (F : Fm g L l ((a, P) :: M) h) : ∃ g', Sub g g' ∧ Fm g' L l M h ∧ At g' a P := by
  obtain ⟨g', s, F', q⟩ := F.freeze (List.sublist_cons_self (a, P) M)
  obtain ⟨o, e, hp⟩ := F.hd
  refine ⟨g', s, F', o, q a o e (F.nL _ (.head _)) fun p hp' z => ?_, hp⟩
  have := F.nd
  rw [List.map_cons, List.nodup_cons] at this
  exact this.1 (by show a ∈ _; rw [← z]; exact List.mem_map_of_mem (f := (·.1)) hp')
end Mine
end
/-! ## Ru -/
section
open PySem PySem.W PyProof.Rows PySem.Calls
namespace Mine
/-- the logic's own word, shut -/
@[irreducible] def Wp (w : World) {α : Type} (A : Around) (t : Sem α) (Q : α → Shared → Prop) (E : Value → Shared → Prop) (s : Shared) : Prop := wpAny (model pr w) A t Q E s
theorem Wp_eq {w : World} {α : Type} : @Wp w α = @wpAny α (model pr w) := by
  funext A t Q E s; unfold Wp; rfl
theorem Wp.mono {w : World} {α : Type} {A : Around} {t : Sem α} {Q Q' : α → Shared → Prop} {E E' : Value → Shared → Prop} {s : Shared} (h : Wp w A t Q E s) (hq : ∀ a s', Q a s' → Q' a s') (he : ∀ e s', E e s' → E' e s') : Wp w A t Q' E' s := by
  rw [Wp_eq] at *; exact wpAny_mono h hq he
theorem Wp.mono1 {w : World} {α : Type} {A : Around} {t : Sem α} {Q Q' : α → Shared → Prop} {E : Value → Shared → Prop} {s : Shared} (h : Wp w A t Q E s) (hq : ∀ a s', Q a s' → Q' a s') : Wp w A t Q' E s := h.mono hq fun _ _ e => e
/-! the top -/
structure Tf (mg mb : Str → Option Value) (g : Heap) : Prop where
  gl : g.Ns mainGlobals mg
  bl : g.Ns builtinsNs mb
  nl : g.NoLimit
theorem Tf.sub {mg mb : Str → Option Value} {g h : Heap} (T : Tf mg mb g) (k : Sub g h) : Tf mg mb h := ⟨T.gl.keeps k, T.bl.keeps k, T.nl.keeps k⟩
def retOf : Flow → Value
  | .ret v => v
  | _ => .none
def noArgs : Arguments := ⟨[], [], none, [], [], none, []⟩
def fnOf (x : Option Stmt) : Arguments × List Stmt × Scope := match x with
  | some (.FunctionDef _ a b _ _ _ sc _ _ _) => (a, b, sc)
  | _ => (noArgs, [], { kind := .function, names := [], isGenerator := false, isCoroutine := false, more := [] })
def fnAt (i : Nat) : Arguments × List Stmt × Scope := fnOf pr.main.body[i]?
/-- a def of the top -/
structure Fn (g : Heap) (mg : Str → Option Value) (i : Nat) (x : Str) (f : Addr) : Prop where
  nm : mg x = some (.ref f)
  ex : ∃ o pm c doc, g.get? f = some o ∧ o.data = .func (docDef x (fnAt i).1 (fnAt i).2.1 (fnAt i).2.2 pm (.ref c) doc) ∧ g.CodeRec (.ref c) x
theorem Fn.sub {g h : Heap} {mg : Str → Option Value} {i : Nat} {x : Str} {f : Addr} (H : Fn g mg i x f) (k : Sub g h) : Fn h mg i x f :=
  let ⟨o, pm, c, doc, a, b, d⟩ := H.ex; ⟨H.nm, o, pm, c, doc, k _ _ a, b, d.keeps k⟩

section
variable {w : World} {A : Around} {E : Value → Shared → Prop} {s : Shared} {env : Env}
/-! statements -/
theorem wNil {Q : Flow → Shared → Prop} (k : Q .next s) : Wp w A (execs [] env) Q E s := by rw [Wp_eq]; exact wpAny_execs_nil k
/-- what comes behind a statement -/
def nx (w : World) (A : Around) (rest : List Stmt) (env : Env) (Q : Flow → Shared → Prop) (E : Value → Shared → Prop) : Flow → Shared → Prop := fun f s' => match f with
  | .next => Wp w A (execs rest env) Q E s'
  | f => Q f s'
theorem nx_next {rest : List Stmt} {Q : Flow → Shared → Prop} (k : Wp w A (execs rest env) Q E s) : nx w A rest env Q E .next s := k
theorem nx_ret {rest : List Stmt} {Q : Flow → Shared → Prop} {v : Value} (k : Q (.ret v) s) : nx w A rest env Q E (.ret v) s := k
theorem nx_cont {rest : List Stmt} {Q : Flow → Shared → Prop} (k : Q .cont s) : nx w A rest env Q E .cont s := k
theorem wCons {st : Stmt} {rest : List Stmt} {Q : Flow → Shared → Prop} (k : Wp w A (exec st env) (nx w A rest env Q E) E s) : Wp w A (execs (st :: rest) env) Q E s := by
  rw [Wp_eq] at *
  refine wpAny_execs_cons (wpAny_mono k (fun f s' q => ?_) fun _ _ e => e)
  unfold nx at q
  rw [Wp_eq] at q
  exact q
theorem wRet {e : Expr} {pos : Pos} {Q : Flow → Shared → Prop} (k : Wp w A (eval e env) (fun v => Q (.ret v)) E s) : Wp w A (exec (.Return (some e) pos) env) Q E s := by
  rw [Wp_eq] at *; exact wpAny_Return_some k
theorem wCont {pos : Pos} {Q : Flow → Shared → Prop} (k : Q .cont s) : Wp w A (exec (.Continue pos) env) Q E s := by rw [Wp_eq]; exact wpAny_Continue k
theorem wAsg {x : Str} {pos' : Pos} {value : Expr} {pos : Pos} {Q : Flow → Shared → Prop} (k : Wp w A (eval value env) (fun v s₁ => Wp w A (storeName env x v) (fun _ => Q .next) E s₁) E s)
    (hs : swapsWith value (some (.Name x pos')) pos.line env = pure false := by rfl) : Wp w A (exec (.Assign [.Name x pos'] value pos) env) Q E s := by
  simp only [Wp_eq] at *; exact wpAny_Assign_Name k hs
theorem wAug {x : Str} {pos' pos : Pos} {op : Operator} {value : Expr} {Q : Flow → Shared → Prop}
    (k : Wp w A (loadName env x) (fun old s₁ => Wp w A (eval value env) (fun v s₂ => Wp w A (inplaceOp op old v) (fun r s₃ => Wp w A (storeName env x r) (fun _ => Q .next) E s₃) E s₂) E s₁) E s) :
    Wp w A (exec (.AugAssign (.Name x pos') op value pos) env) Q E s := by
  simp only [Wp_eq] at *; exact wpAny_AugAssign_Name k
theorem wIf {test : Expr} {body orelse : List Stmt} {pos : Pos} {Q : Flow → Shared → Prop} (k : Wp w A (isTrue test env (eval test env)) (fun b s₂ => if b then Wp w A (execs body env) Q E s₂ else Wp w A (execs orelse env) Q E s₂) E s) :
    Wp w A (exec (.If test body orelse pos) env) Q E s := by
  simp only [Wp_eq] at *; exact wpAny_If k
/-! expressions -/
theorem wBin {l r : Expr} {op : Operator} {pos : Pos} {Q : Value → Shared → Prop} (k : Wp w A (eval l env) (fun a s₁ => Wp w A (eval r env) (fun b s₂ => Wp w A (binaryOp op a b) Q E s₂) E s₁) E s) : Wp w A (eval (.BinOp l op r pos) env) Q E s := by
  simp only [Wp_eq] at *; exact wpAny_BinOp k
theorem wCmp {l r : Expr} {op : CmpOp} {pos : Pos} {Q : Value → Shared → Prop} (k : Wp w A (eval l env) (fun a s₁ => Wp w A (eval r env) (fun b s₂ => Wp w A (compareOp op a b) Q E s₂) E s₁) E s)
    (hm : behindInMarks op r = false := by rfl) : Wp w A (eval (.Compare l [op] [r] pos) env) Q E s := by
  simp only [Wp_eq] at *; exact wpAny_Compare1 k hm
/-- a comparison gives a bool -/
theorem wTst {l r : Expr} {op : CmpOp} {pos : Pos} {whole : Sem Value} {Q : Bool → Shared → Prop} (k : Wp w A (eval l env) (fun a s₁ => Wp w A (eval r env) (fun b s₂ => Wp w A (compareOp op a b) (fun v s₃ => ∃ b, v = .bool b ∧ Q b s₃) E s₂) E s₁) E s)
    (hm : behindInMarks op r = false := by rfl) : Wp w A (isTrue (.Compare l [op] [r] pos) env whole) Q E s := by
  simp only [Wp_eq] at *
  refine wpAny_isTrue_Compare1 (wpAny_mono k (fun a s₁ k₁ => wpAny_mono k₁ (fun b s₂ k₂ => wpAny_mono k₂ (fun v s₃ q => ?_) fun _ _ e => e) fun _ _ e => e) fun _ _ e => e) hm
  obtain ⟨c, rfl, q⟩ := q
  exact wpAny_truthy_bool q
theorem wTV {e : Expr} {whole : Sem Value} {Q : Bool → Shared → Prop} (k : Wp w A whole (fun v s₁ => Wp w A (truthy v) Q E s₁) E s)
    (he : isTrue e env whole = (do let v ← whole; standAt e.pos; holding [v] (truthy v)) := by rfl) : Wp w A (isTrue e env whole) Q E s := by
  simp only [Wp_eq] at *; exact wpAny_isTrue_value k he
theorem wTNot {x : Expr} {pos : Pos} {whole : Sem Value} {Q : Bool → Shared → Prop} (k : Wp w A (isTrue x env (eval x env)) (fun b s₁ => Q (!b) s₁) E s) : Wp w A (isTrue (.UnaryOp .Not x pos) env whole) Q E s := by
  simp only [Wp_eq] at *; exact wpAny_isTrue_Not k
theorem wTBo {op : BoolOp} {values : List Expr} {pos : Pos} {whole : Sem Value} {Q : Bool → Shared → Prop} (k : Wp w A (allTrue op values env) Q E s) : Wp w A (isTrue (.BoolOp op values pos) env whole) Q E s := by
  simp only [Wp_eq] at *; exact wpAny_isTrue_BoolOp k
theorem wAnd0 {Q : Bool → Shared → Prop} (k : Q true s) : Wp w A (allTrue .And [] env) Q E s := by rw [Wp_eq]; exact wpAny_allTrue_And_nil k
theorem wOr0 {Q : Bool → Shared → Prop} (k : Q false s) : Wp w A (allTrue .Or [] env) Q E s := by rw [Wp_eq]; exact wpAny_allTrue_Or_nil k
theorem wAnd1 {x : Expr} {rest : List Expr} {Q : Bool → Shared → Prop} (k : Wp w A (isTrue x env (eval x env)) (fun b s₁ => if b then Wp w A (allTrue .And rest env) Q E s₁ else Q false s₁) E s) : Wp w A (allTrue .And (x :: rest) env) Q E s := by
  simp only [Wp_eq] at *; exact wpAny_allTrue_And_cons k
theorem wOr1 {x : Expr} {rest : List Expr} {Q : Bool → Shared → Prop} (k : Wp w A (isTrue x env (eval x env)) (fun b s₁ => if b then Q true s₁ else Wp w A (allTrue .Or rest env) Q E s₁) E s) : Wp w A (allTrue .Or (x :: rest) env) Q E s := by
  simp only [Wp_eq] at *; exact wpAny_allTrue_Or_cons k
theorem wOr2 {x y : Expr} {pos : Pos} {Q : Value → Shared → Prop} (k : Wp w A (eval x env) (fun v s₁ => ∃ b, v = .bool b ∧ if b then Q v s₁ else Wp w A (eval y env) Q E s₁) E s) : Wp w A (eval (.BoolOp .Or [x, y] pos) env) Q E s := by
  simp only [Wp_eq] at *
  refine wpAny_Or2 (wpAny_mono k (fun v s₁ q => ?_) fun _ _ e => e)
  obtain ⟨b, rfl, q⟩ := q
  exact wpAny_truthy_bool q
theorem wAnd2 {x y : Expr} {pos : Pos} {Q : Value → Shared → Prop} (k : Wp w A (eval x env) (fun v s₁ => ∃ b, v = .bool b ∧ if b then Wp w A (eval y env) Q E s₁ else Q v s₁) E s) : Wp w A (eval (.BoolOp .And [x, y] pos) env) Q E s := by
  simp only [Wp_eq] at *
  refine wpAny_And2 (wpAny_mono k (fun v s₁ q => ?_) fun _ _ e => e)
  obtain ⟨b, rfl, q⟩ := q
  exact wpAny_truthy_bool q
theorem wIfE {test body orelse : Expr} {pos : Pos} {Q : Value → Shared → Prop} (k : Wp w A (isTrue test env (eval test env)) (fun b s₁ => if b then Wp w A (eval body env) Q E s₁ else Wp w A (eval orelse env) Q E s₁) E s) : Wp w A (eval (.IfExp test body orelse pos) env) Q E s := by
  simp only [Wp_eq] at *; exact wpAny_IfExp k
theorem wSub {value slice : Expr} {pos : Pos} {Q : Value → Shared → Prop} (k : Wp w A (eval value env) (fun o s₁ => Wp w A (eval slice env) (fun i s₂ => Wp w A (subscriptTail value slice o i) Q E s₂) E s₁) E s) : Wp w A (eval (.Subscript value slice pos) env) Q E s := by
  simp only [Wp_eq] at *; exact Subscript_ k
theorem ifNo {test : Expr} {body rest : List Stmt} {pos : Pos} {Q : Flow → Shared → Prop}
    (k : Wp w A (isTrue test env (eval test env)) (fun b s₁ => b = false ∧ Wp w A (execs rest env) Q E s₁) E s) : Wp w A (execs (.If test body [] pos :: rest) env) Q E s := by
  refine wCons (wIf (k.mono1 fun b s₁ q => ?_))
  rw [q.1, if_neg (by decide)]
  exact wNil q.2
theorem ifYes {test : Expr} {body orelse rest : List Stmt} {pos : Pos} {Q : Flow → Shared → Prop}
    (k : Wp w A (isTrue test env (eval test env)) (fun b s₁ => b = true ∧ Wp w A (execs body env) (nx w A rest env Q E) E s₁) E s) : Wp w A (execs (.If test body orelse pos :: rest) env) Q E s := by
  refine wCons (wIf (k.mono1 fun b s₁ q => ?_))
  rw [q.1, if_pos rfl]
  exact q.2
theorem ifElse {test : Expr} {body orelse rest : List Stmt} {pos : Pos} {Q : Flow → Shared → Prop}
    (k : Wp w A (isTrue test env (eval test env)) (fun b s₁ => b = false ∧ Wp w A (execs orelse env) (nx w A rest env Q E) E s₁) E s) : Wp w A (execs (.If test body orelse pos :: rest) env) Q E s := by
  refine wCons (wIf (k.mono1 fun b s₁ q => ?_))
  rw [q.1, if_neg (by decide)]
  exact q.2
end

section
variable {w : World} {A : Around} {E : Value → Shared → Prop} {h : Heap} {G : Array GenState} {D : Drawn} {tk : Nat} {O : OsState} {env : Env} {g : Heap} {l : List (Str × Value)} {M : List (Addr × Pd)} {mg mb : Str → Option Value}
theorem nmL {x : Str} {pos : Pos} {v : Value} {Q : Value → Shared → Prop} (F : Fm g env.locals l M h) (hv : lk l x = some v) (k : Q v ⟨h, G, D, tk, O⟩)
    (hk : env.scope.kind = .function := by rfl) (hl : env.kindOf x = some .local := by rfl) (hd : (x == ("__debug__" : Str)) = false := by decide) :
    Wp w A (eval (.Name x pos) env) Q E ⟨h, G, D, tk, O⟩ := by rw [Wp_eq]; exact wpAny_Name ((let ⟨_, a, b⟩ := F.ns; wpAny_loadName_local hk hl a (b _ _ hv) k)) hd
theorem ldL {x : Str} {v : Value} {Q : Value → Shared → Prop} (F : Fm g env.locals l M h) (hv : lk l x = some v) (k : Q v ⟨h, G, D, tk, O⟩)
    (hk : env.scope.kind = .function := by rfl) (hl : env.kindOf x = some .local := by rfl) :
    Wp w A (loadName env x) Q E ⟨h, G, D, tk, O⟩ := by rw [Wp_eq]; exact (let ⟨_, a, b⟩ := F.ns; wpAny_loadName_local hk hl a (b _ _ hv) k)
theorem stL {x : Str} {v : Value} {Q : Unit → Shared → Prop} (F : Fm g env.locals l M h)
    (k : ∀ h' tk', Fm g env.locals ((x, v) :: l) M h' → Q () ⟨h', G, D, tk', O⟩)
    (hl : env.kindOf x = some .local := by rfl) (hp : (env.scope.kind == .class || (env.scope.kind == .module && env.locals != env.globals)) = false := by rfl) :
    Wp w A (storeName env x v) Q E ⟨h, G, D, tk, O⟩ := by
  obtain ⟨m, ha, hb⟩ := F.ns
  rw [Wp_eq]
  refine wpAny_storeName_local hl ha (fun h' hn hs => k h' _ (F.set ⟨_, hn, fun y u e => ?_⟩ hs)) hp
  rw [← lk_cons] at e
  dsimp only at e ⊢
  split
  · rename_i q; rw [if_pos q] at e; exact e
  · rename_i q; rw [if_neg q] at e; exact hb y u e
theorem nmG {x : Str} {pos : Pos} {v : Value} {Q : Value → Shared → Prop} (T : Tf mg mb h) (hv : mg x = some v) (k : Q v ⟨h, G, D, tk, O⟩)
    (hg : env.globals = mainGlobals := by rfl) (hk : env.scope.kind = .function := by rfl) (hl : env.kindOf x = some .globalImplicit := by rfl) (hd : (x == ("__debug__" : Str)) = false := by decide) :
    Wp w A (eval (.Name x pos) env) Q E ⟨h, G, D, tk, O⟩ := by rw [Wp_eq]; exact Name_function_global hk hl (loadGlobal_global (hg ▸ T.gl) hv k) hd
theorem nmB {x : Str} {pos : Pos} {v : Value} {Q : Value → Shared → Prop} (T : Tf mg mb h) (hm : mg x = none) (hv : mb x = some v) (k : Q v ⟨h, G, D, tk, O⟩)
    (hg : env.globals = mainGlobals := by rfl) (hb : env.builtins = builtinsNs := by rfl) (hk : env.scope.kind = .function := by rfl) (hl : env.kindOf x = some .globalImplicit := by rfl) (hd : (x == ("__debug__" : Str)) = false := by decide) :
    Wp w A (eval (.Name x pos) env) Q E ⟨h, G, D, tk, O⟩ := by rw [Wp_eq]; exact Name_function_global hk hl (loadGlobal_builtin (hg ▸ T.gl) hm (hb ▸ T.bl) hv k) hd

/-! arguments -/
theorem ar0 {pos : Pos} {Q : List Value → Shared → Prop} {s : Shared} (k : Q [] s) : Wp w A (spliced (backTo pos (starEach [] env))) Q E s := by rw [Wp_eq]; exact wpAny_pure k
theorem ar1 {pos : Pos} {e : Expr} {rest : List Expr} {Q : List Value → Shared → Prop} {s : Shared}
    (k : Wp w A (eval e env) (fun v s₁ => Wp w A (spliced (backTo pos (starEach rest env))) (fun vs s₂ => Q (v :: vs) s₂) E s₁) E s)
    (hs : starEach (e :: rest) env = (false, eval e env) :: starEach rest env := by rfl) :
    Wp w A (spliced (backTo pos (starEach (e :: rest) env))) Q E s := by
  simp only [Wp_eq] at *
  rw [hs]
  exact spliced_cons k
theorem cwB {pos : Pos} {id : String} {first : List Value} {e : Expr} {args : List Expr} {Q : Value → Shared → Prop} {s : Shared}
    (k : Wp w A (spliced (backTo pos (starEach (e :: args) env))) (fun vs s₁ => Wp w A (call (.builtin id) (first ++ vs)) Q E s₁) E s)
    (hp : (backTo pos (starEach (e :: args) env)).any (·.1) = false := by rfl) (hs : starEach (e :: args) env = (false, eval e env) :: starEach args env := by rfl) :
    Wp w A (callWith pos (.builtin id) first (backTo pos (starEach (e :: args) env)) []) Q E s := by
  simp only [Wp_eq] at *
  refine callWith_builtin hp ?_
  rw [hs] at k ⊢
  exact evalArgs_plain (wpAny_mono k (fun vs s' q => q) fun _ _ q => q)
/-- a built-in function of the table of names is called -/
theorem clB {x : Str} {p pos : Pos} {id : String} {e : Expr} {args : List Expr} {Q : Value → Shared → Prop} (T : Tf mg mb h) (hm : mg x = none) (hv : mb x = some (.builtin id))
    (k : Wp w A (spliced (backTo pos (starEach (e :: args) env))) (fun vs s₁ => Wp w A (call (.builtin id) vs) Q E s₁) E ⟨h, G, D, tk, O⟩)
    (hp : (backTo pos (starEach (e :: args) env)).any (·.1) = false := by rfl) (hs : starEach (e :: args) env = (false, eval e env) :: starEach args env := by rfl)
    (hg : env.globals = mainGlobals := by rfl) (hb : env.builtins = builtinsNs := by rfl) (hk : env.scope.kind = .function := by rfl) (hl : env.kindOf x = some .globalImplicit := by rfl) (hd : (x == ("__debug__" : Str)) = false := by decide) :
    Wp w A (eval (.Call (.Name x p) (e :: args) [] pos) env) Q E ⟨h, G, D, tk, O⟩ := by
  have z := nmB (w := w) (A := A) (E := E) (G := G) (D := D) (tk := tk) (O := O) (pos := p) (Q := fun f s₁ => Wp w A (callWith pos f [] (backTo pos (starEach (e :: args) env)) []) Q E s₁) T hm hv (cwB (first := []) k hp hs) hg hb hk hl hd
  simp only [Wp_eq] at *
  exact wpAny_Call_NameR z
/-- a def of the top is called -/
theorem clU {x : Str} {p pos : Pos} {i : Nat} {f : Addr} {e : Expr} {args : List Expr} {Q : Value → Shared → Prop} (T : Tf mg mb h) (H : Fn g mg i x f)
    (k : Wp w A (spliced (backTo pos (starEach (e :: args) env))) (fun vs s₁ => Sub g s₁.heap ∧ Wp w A (call (.ref f) vs) Q E s₁) E ⟨h, G, D, tk, O⟩)
    (hs : starEach (e :: args) env = (false, eval e env) :: starEach args env := by rfl)
    (hg : env.globals = mainGlobals := by rfl) (hk : env.scope.kind = .function := by rfl) (hl : env.kindOf x = some .globalImplicit := by rfl) (hd : (x == ("__debug__" : Str)) = false := by decide) :
    Wp w A (eval (.Call (.Name x p) (e :: args) [] pos) env) Q E ⟨h, G, D, tk, O⟩ := by
  obtain ⟨o, pm, c, doc, ho, hdat, _⟩ := H.ex
  rw [Wp_eq]
  refine wpAny_Call_NameR (Name_function_global hk hl (loadGlobal_global (hg ▸ T.gl) H.nm ?_) hd)
  simp only [Wp_eq] at k
  refine callWith_function (o := o) (fd := docDef x (fnAt i).1 (fnAt i).2.1 (fnAt i).2.2 pm (.ref c) doc) ?_
  rw [hs] at k ⊢
  exact evalArgs_plain (wpAny_mono k (fun vs s' q => ⟨⟨q.1 _ _ ho, hdat⟩, q.2⟩) fun _ _ q => q)
theorem enter {i : Nat} {x : Str} {f : Addr} {vals : List Value} {Q : Value → Shared → Prop} (binds : List (Str × Value)) (T : Tf mg mb g) (H : Fn g mg i x f) (k : Sub g h) (hroom : A.depth < recursionLimit)
    (kk : ∀ h₁ c tk', Fm h h.objs.size binds [] h₁ → Wp w (A.deeper (envOf x (fnAt i).2.2 h.objs.size f (.ref c))) (execs (fnAt i).2.1 (envOf x (fnAt i).2.2 h.objs.size f (.ref c)))
      (fun fl s' => Q (retOf fl) s') (fun _ _ => False) ⟨h₁, G, D, tk', O⟩)
    (hbind : ∀ pm c doc, bindArgs (docDef x (fnAt i).1 (fnAt i).2.1 (fnAt i).2.2 pm (.ref c) doc) ⟨vals, []⟩ = pure binds.reverse := by intro _ _ _; rfl)
    (hloc : (binds.all fun y => decide ((fnAt i).2.2.names.lookup y.1 = some .local)) = true := by rfl)
    (hco : (fnAt i).2.2.isCoroutine = false := by rfl) (hgen : (fnAt i).2.2.isGenerator = false := by rfl) (hk : (fnAt i).2.2.kind = .function := by rfl)
    (hcell : ((fnAt i).2.2.names.all fun y => decide (y.2 ≠ .cell)) = true := by rfl) : Wp w A (call (.ref f) vals) Q E ⟨h, G, D, tk, O⟩ := by
  obtain ⟨o, pm, c, doc, ho, hdat, hc⟩ := H.ex
  rw [Wp_eq]
  refine wpAny_call (call_plain_ret hroom (k _ _ ho) hdat (T.nl.keeps k) (hc.keeps k) (hbind pm c doc) (fun y hy => locs hloc y (List.mem_reverse.mp hy)) (fun h₁ F₁ => ?_) hco hgen hk
    (fun y hy => of_decide_eq_true (List.all_eq_true.mp hcell y hy)))
  have z := kk h₁ c (tk + binds.reverse.length) (Fm.start F₁ (by rw [List.reverse_reverse]; rfl))
  rw [Wp_eq] at z
  refine wpAny_mono z (fun fl s' q => ?_) fun _ _ q => q
  cases fl <;> exact q

/-! constants, arithmetic -/
variable {a b : Int} {t u : Tok} {Q : Value → Shared → Prop}
theorem cI {i : Int} {kd : Nat} {pos : Pos} (k : ∀ u tk', Q (.int i u) ⟨h, G, D, tk', O⟩) : Wp w A (eval (.Constant (.int i) kd pos) env) Q E ⟨h, G, D, tk, O⟩ := by rw [Wp_eq]; exact wpAny_Constant_int (k _ _)
theorem addI (k : ∀ u tk', Q (.int (a + b) u) ⟨h, G, D, tk', O⟩) : Wp w A (binaryOp .Add (.int a t) (.int b u)) Q E ⟨h, G, D, tk, O⟩ := by rw [Wp_eq]; exact add_int (k _ _)
theorem subI (k : ∀ u tk', Q (.int (a - b) u) ⟨h, G, D, tk', O⟩) : Wp w A (binaryOp .Sub (.int a t) (.int b u)) Q E ⟨h, G, D, tk, O⟩ := by rw [Wp_eq]; exact sub_int (k _ _)
theorem iaddI (k : ∀ u tk', Q (.int (a + b) u) ⟨h, G, D, tk', O⟩) : Wp w A (inplaceOp .Add (.int a t) (.int b u)) Q E ⟨h, G, D, tk, O⟩ := by rw [Wp_eq]; exact P.iadd_int (k _ _)
theorem modI (hb : b ≠ 0) (k : ∀ u tk', Q (.int (a.fmod b) u) ⟨h, G, D, tk', O⟩) : Wp w A (binaryOp .Mod (.int a t) (.int b u)) Q E ⟨h, G, D, tk, O⟩ := by rw [Wp_eq]; exact mod_int' hb (k _ _)
theorem divI (hb : b ≠ 0) (hp : Builtin.divisionGoesByPylong a b = false) (k : ∀ u tk', Q (.int (a.fdiv b) u) ⟨h, G, D, tk', O⟩) : Wp w A (binaryOp .FloorDiv (.int a t) (.int b u)) Q E ⟨h, G, D, tk, O⟩ := by rw [Wp_eq]; exact floordiv_int hb (k _ _) (.inl hp)
theorem mulI (hm : IntMulOk a b) (k : ∀ u tk', Q (.int (a * b) u) ⟨h, G, D, tk', O⟩) : Wp w A (binaryOp .Mult (.int a t) (.int b u)) Q E ⟨h, G, D, tk, O⟩ := by rw [Wp_eq]; exact PyProof.Rows.mul_int (k _ _) hm
theorem chrI (h0 : 0 ≤ a) (h1 : a ≤ 1114111) (k : ∀ u tk', Q (.str ⟨#[a.toNat]⟩ u) ⟨h, G, D, tk', O⟩) : Wp w A (call (.builtin "chr") [.int a t]) Q E ⟨h, G, D, tk, O⟩ := by rw [Wp_eq]; exact chr_of_range h0 h1 (k _ _)
theorem ordI {c : Nat} (k : ∀ u tk', Q (.int c u) ⟨h, G, D, tk', O⟩) : Wp w A (call (.builtin "ord") [.str ⟨#[c]⟩ t]) Q E ⟨h, G, D, tk, O⟩ := by rw [Wp_eq]; exact P.ord_of_char (k _ _)
theorem cN {kd : Nat} {pos : Pos} {s : Shared} (k : Q .none s) : Wp w A (eval (.Constant .none kd pos) env) Q E s := by rw [Wp_eq]; exact wpAny_Constant_none k
variable {s : Shared}
theorem eqI (k : Q (.bool (a == b)) s) : Wp w A (compareOp .Eq (.int a t) (.int b u)) Q E s := by rw [Wp_eq]; exact eq_int k
theorem neI (k : Q (.bool (a != b)) s) : Wp w A (compareOp .NotEq (.int a t) (.int b u)) Q E s := by rw [Wp_eq]; exact ne_int k
theorem ltI (k : Q (.bool (decide (a < b))) s) : Wp w A (compareOp .Lt (.int a t) (.int b u)) Q E s := by rw [Wp_eq]; exact lt_int k
theorem tEq {x : Str} {p p' pos : Pos} {kd : Nat} {a b : Int} {t : Tok} {whole : Sem Value} {Q : Bool → Shared → Prop} (X : Fm g env.locals l M h) (hv : lk l x = some (.int a t)) (k : ∀ tk', Q (a == b) ⟨h, G, D, tk', O⟩)
    (hk : env.scope.kind = .function := by rfl) (hl : env.kindOf x = some .local := by rfl) (hd : (x == ("__debug__" : Str)) = false := by decide) :
    Wp w A (isTrue (.Compare (.Name x p) [.Eq] [.Constant (.int b) kd p'] pos) env whole) Q E ⟨h, G, D, tk, O⟩ :=
  wTst (nmL X hv (cI fun _ _ => eqI ⟨_, rfl, k _⟩) hk hl hd)
end
end Mine
end
/-! ## Sl -/
section
open PySem PySem.W PyProof.Rows PySem.Calls
namespace Mine
/-! texts as lists of numbers -/
@[reducible] def ST (l : List Nat) : Str := ⟨l.toArray⟩
theorem ST_inj {a b : List Nat} (h : ST a = ST b) : a = b := by
  have := congrArg (fun s : Str => s.cps.toList) h
  simpa using this
theorem ST_len (l : List Nat) : (ST l).length = l.length := by simp [Str.length]
theorem ST_add (a b : List Nat) : ST a ++ ST b = ST (a ++ b) := by
  show Str.append (ST a) (ST b) = _
  simp [Str.append, ST]
theorem ST_beq (a b : List Nat) : (ST a == ST b) = (a == b) := by
  rw [Bool.eq_iff_iff]
  simp only [beq_iff_eq]
  exact ⟨ST_inj, fun h => h ▸ rfl⟩
theorem ST_bne (a b : List Nat) : (ST a != ST b) = (a != b) := by unfold bne; rw [ST_beq]
theorem ST_of (x : Str) : ∃ l, x = ST l := ⟨x.cps.toList, by cases x; simp [ST]⟩
theorem cast_min (x n : Nat) : ((min x n : Nat) : Int) = min (x : Int) (n : Int) := by
  rcases Nat.le_total x n with h | h
  · rw [Nat.min_eq_left h, Int.min_eq_left (Int.ofNat_le.mpr h)]
  · rw [Nat.min_eq_right h, Int.min_eq_right (Int.ofNat_le.mpr h)]
open StrLaws Builtin Builtin.Str in
theorem slice_ss (l : List Nat) {a b : Nat} (hab : a ≤ b) : Txt.slice (ST l) (some (a : Int)) (some (b : Int)) = ST ((l.drop a).take (b - a)) := by
  have hl : (ST l).cps.toList = l := rfl
  have key : ∀ a' b' : Nat, a' = min a l.length → b' = min b l.length → strSliceIndices (some (a : Int)) (some (b : Int)) 1 (ST l).length = strSliceIndices (some (a' : Int)) (some (b' : Int)) 1 (ST l).length := by
    intro a' b' ha hb
    have e : (ST l).length = l.length := ST_len l
    have nn : ∀ n : Nat, ¬ ((n : Int) < 0) := fun n => Int.not_lt.mpr (Int.natCast_nonneg n)
    have a1 := nn a
    have a2 := nn b
    have a3 := nn a'
    have a4 := nn b'
    have ee : ∀ x x' : Nat, x' = min x l.length → max (0 : Int) (min (x : Int) ((ST l).length : Int)) = max (0 : Int) (min (x' : Int) ((ST l).length : Int)) := fun x x' hx => by
      rw [e, hx, ← cast_min, ← cast_min, Nat.min_assoc, Nat.min_self]
    have e1 := ee a a' ha
    have e2 := ee b b' hb
    simp only [strSliceIndices, a1, a2, a3, a4, if_false, e1, e2, show ((1 : Int) > 0) = True from by simp, if_true]
  show sliceText _ _ _ = _
  unfold sliceText
  rw [key (min a l.length) (min b l.length) rfl rfl]
  show sliceText (ST l) (some ((min a l.length : Nat) : Int)) (some ((min b l.length : Nat) : Int)) = _
  rw [sliceText_nat (ST l) (by omega) (by rw [ST_len]; omega), hl]
  congr 1
  apply Array.toList_inj.mp
  apply List.ext_getElem?
  intro i
  simp only [List.getElem?_take, List.getElem?_drop]
  by_cases h1 : i < b - a
  · rw [if_pos h1]
    by_cases h2 : a ≤ l.length
    · rw [Nat.min_eq_left h2]
      by_cases h3 : i < min b l.length - a
      · rw [if_pos h3]
      · rw [if_neg h3, List.getElem?_eq_none (by omega)]
    · rw [if_neg (by omega), List.getElem?_eq_none (by omega)]
  · rw [if_neg h1, if_neg (by omega)]
open StrLaws in
theorem slice_ns (l : List Nat) (b : Nat) : Txt.slice (ST l) none (some (b : Int)) = ST (l.take b) := by
  have e : Txt.slice (ST l) none (some (b : Int)) = Txt.slice (ST l) (some ((0 : Nat) : Int)) (some (b : Int)) := by
    show sliceText _ _ _ = sliceText _ _ _
    unfold sliceText
    rw [sliceIdx_none_lo]; rfl
  rw [e, slice_ss l (Nat.zero_le b)]; simp
open StrLaws in
theorem slice_sn (l : List Nat) (a : Nat) : Txt.slice (ST l) (some (a : Int)) none = ST (l.drop a) := by
  have e : Txt.slice (ST l) (some (a : Int)) none = Txt.slice (ST l) (some (a : Int)) (some ((max a l.length : Nat) : Int)) := by
    show sliceText _ _ _ = sliceText _ _ _
    unfold sliceText
    rw [sliceIdx_none_hi]
    have : Builtin.Str.strSliceIndices (some (a : Int)) (some ((ST l).length : Int)) 1 (ST l).length = Builtin.Str.strSliceIndices (some (a : Int)) (some ((max a l.length : Nat) : Int)) 1 (ST l).length := by
      have e : (ST l).length = l.length := ST_len l
      have a2 : ¬ (((ST l).length : Int) < 0) := by omega
      have a4 : ¬ (((max a l.length : Nat) : Int) < 0) := by omega
      have e2 : max (0 : Int) (min ((ST l).length : Int) ((ST l).length : Int)) = max (0 : Int) (min ((max a l.length : Nat) : Int) ((ST l).length : Int)) := by omega
      simp only [Builtin.Str.strSliceIndices, a2, a4, if_false, e2, show ((1 : Int) > 0) = True from by simp, if_true]
    rw [this]
  rw [e, slice_ss l (Nat.le_max_left ..)]
  rw [List.take_of_length_le (by rw [List.length_drop]; omega)]

section
variable {w : World} {A : Around} {E : Value → Shared → Prop} {h : Heap} {G : Array GenState} {D : Drawn} {tk : Nat} {O : OsState} {env : Env}
theorem cS {x : Str} {kd : Nat} {pos : Pos} {l : List Nat} {Q : Value → Shared → Prop} (hx : x = ST l) (k : ∀ u tk', Q (.str (ST l) u) ⟨h, G, D, tk', O⟩) : Wp w A (eval (.Constant (.str x) kd pos) env) Q E ⟨h, G, D, tk, O⟩ := by
  subst hx; rw [Wp_eq]; exact Constant_str (k _ _)
theorem evS {e : Expr} {Q : Value → Shared → Prop} {s : Shared} (k : Wp w A (eval e env) Q E s) : Wp w A (evalPart (some e) env) Q E s := by rw [Wp_eq] at *; exact wpAny_evalPart_some k
theorem evN {Q : Value → Shared → Prop} {s : Shared} (k : Q .none s) : Wp w A (evalPart none env) Q E s := by rw [Wp_eq]; exact wpAny_evalPart_none k
/-- a text's slice -/
theorem slStr {value : Expr} {lower upper : Option Expr} {p pos : Pos} {Q : Value → Shared → Prop} {s : Shared}
    (k : Wp w A (eval value env) (fun o s₁ => Wp w A (evalPart lower env) (fun vl s₂ => Wp w A (evalPart upper env) (fun vu s₃ =>
      ∃ x t l u, o = .str x t ∧ vl = partValue l ∧ vu = partValue u ∧ x.length ≤ sizeLine ∧
        ∀ h' t' tk, Sub s₃.heap h' → Q (.str (Txt.slice x (l.map (·.1)) (u.map (·.1))) t') ⟨h', s₃.gens, s₃.drawn, tk, s₃.os⟩) E s₂) E s₁) E s)
    : Wp w A (eval (.Subscript value (.Slice lower upper none p) pos) env) Q E s := by
  simp only [Wp_eq] at *
  refine Subscript_ (wpAny_mono k (fun o s₁ h₁ => wpAny_Slice (wpAny_mono h₁ (fun vl s₂ h₂ => wpAny_mono h₂ (fun vu s₃ h₃ => ?_) fun _ _ e => e) fun _ _ e => e)) fun _ _ e => e)
  obtain ⟨x, t, l, u, rfl, rfl, rfl, hx, hQ⟩ := h₃
  rw [evalPart_none]
  refine wpAny_pure (tail_any (ops := [.ref _, .str x t]) (typeIs_str _ x t) F.slot_str_getitem.lookup (wpAny_getItem_str_slice (l := l) (u := u) (st := none) ⟨_, Heap.get?_push_size _ rfl, rfl, rfl⟩ rfl ?_) rfl)
  cases l <;> cases u <;> exact post_val_or_str ⟨Nat.le_trans (Txt.slice_le x _ _) hx, fun t' k => hQ _ t' k (sub_push _ _)⟩
/-- text[a:], text[:b], text[a:b] -/
theorem slF {value lo : Expr} {p pos : Pos} {Q : Value → Shared → Prop}
    (k : Wp w A (eval value env) (fun o s₁ => Wp w A (eval lo env) (fun vl s₂ => ∃ (h₂ : Heap) (tk₂ : Nat) (x : List Nat) (t : Tok) (a : Nat) (u : Tok), s₂ = ⟨h₂, G, D, tk₂, O⟩ ∧ o = .str (ST x) t ∧ vl = .int a u ∧ x.length ≤ sizeLine ∧
      ∀ h' t' tk', Sub h₂ h' → Q (.str (ST (x.drop a)) t') ⟨h', G, D, tk', O⟩) E s₁) E ⟨h, G, D, tk, O⟩)
    : Wp w A (eval (.Subscript value (.Slice (some lo) none none p) pos) env) Q E ⟨h, G, D, tk, O⟩ := by
  refine slStr (k.mono1 fun o s₁ k₁ => evS (k₁.mono1 fun vl s₂ k₂ => evN ?_))
  obtain ⟨h₂, tk₂, x, t, a, u, rfl, rfl, rfl, hx, kk⟩ := k₂
  exact ⟨ST x, t, some (a, u), none, rfl, rfl, rfl, by rw [ST_len]; exact hx, fun h' t' tk' hs => by show Q (.str (Txt.slice (ST x) (some (a : Int)) none) t') _; rw [slice_sn]; exact kk h' t' tk' hs⟩
theorem slT {value hi : Expr} {p pos : Pos} {Q : Value → Shared → Prop}
    (k : Wp w A (eval value env) (fun o s₁ => Wp w A (eval hi env) (fun vu s₂ => ∃ (h₂ : Heap) (tk₂ : Nat) (x : List Nat) (t : Tok) (b : Nat) (u : Tok), s₂ = ⟨h₂, G, D, tk₂, O⟩ ∧ o = .str (ST x) t ∧ vu = .int b u ∧ x.length ≤ sizeLine ∧
      ∀ h' t' tk', Sub h₂ h' → Q (.str (ST (x.take b)) t') ⟨h', G, D, tk', O⟩) E s₁) E ⟨h, G, D, tk, O⟩)
    : Wp w A (eval (.Subscript value (.Slice none (some hi) none p) pos) env) Q E ⟨h, G, D, tk, O⟩ := by
  refine slStr (k.mono1 fun o s₁ k₁ => evN (evS (k₁.mono1 fun vl s₂ k₂ => ?_)))
  obtain ⟨h₂, tk₂, x, t, b, u, rfl, rfl, rfl, hx, kk⟩ := k₂
  exact ⟨ST x, t, none, some (b, u), rfl, rfl, rfl, by rw [ST_len]; exact hx, fun h' t' tk' hs => by show Q (.str (Txt.slice (ST x) none (some (b : Int))) t') _; rw [slice_ns]; exact kk h' t' tk' hs⟩
theorem slFT {value lo hi : Expr} {p pos : Pos} {Q : Value → Shared → Prop}
    (k : Wp w A (eval value env) (fun o s₁ => Wp w A (eval lo env) (fun vl s₂ => Wp w A (eval hi env) (fun vu s₃ => ∃ (h₃ : Heap) (tk₃ : Nat) (x : List Nat) (t : Tok) (a b : Nat) (u v : Tok), s₃ = ⟨h₃, G, D, tk₃, O⟩ ∧ o = .str (ST x) t ∧ vl = .int a u ∧ vu = .int b v ∧ a ≤ b ∧ x.length ≤ sizeLine ∧
      ∀ h' t' tk', Sub h₃ h' → Q (.str (ST ((x.drop a).take (b - a))) t') ⟨h', G, D, tk', O⟩) E s₂) E s₁) E ⟨h, G, D, tk, O⟩)
    : Wp w A (eval (.Subscript value (.Slice (some lo) (some hi) none p) pos) env) Q E ⟨h, G, D, tk, O⟩ := by
  refine slStr (k.mono1 fun o s₁ k₁ => evS (k₁.mono1 fun vl s₂ k₂ => evS (k₂.mono1 fun vu s₃ k₃ => ?_)))
  obtain ⟨h₃, tk₃, x, t, a, b, u, v, rfl, rfl, rfl, rfl, hab, hx, kk⟩ := k₃
  exact ⟨ST x, t, some (a, u), some (b, v), rfl, rfl, rfl, by rw [ST_len]; exact hx, fun h' t' tk' hs => by show Q (.str (Txt.slice (ST x) (some (a : Int)) (some (b : Int))) t') _; rw [slice_ss _ hab]; exact kk h' t' tk' hs⟩
theorem itS {value slice : Expr} {l : List Nat} {t u : Tok} {i c : Nat} {Q : Value → Shared → Prop} (hi : l[i]? = some c) (hl : l.length ≤ sizeLine) (k : ∀ u tk', Q (.str (ST [c]) u) ⟨h, G, D, tk', O⟩)
    (hs : subscripted slice false (.str (ST l) t) (.int i u) = operate [.str (ST l) t, .int i u] (getItem (.str (ST l) t) (.int i u)) := by with_unfolding_all rfl) :
    Wp w A (subscriptTail value slice (.str (ST l) t) (.int i u)) Q E ⟨h, G, D, tk, O⟩ := by
  have hlt : i < l.length := (List.getElem?_eq_some_iff.mp hi).1
  rw [sizeLine_eq] at hl
  rw [Wp_eq]
  refine tail_any (typeIs_str _ _ _) F.slot_str_getitem.lookup (P.getItem_str ?_ (StrLaws.at_nonneg (by omega) ?_) (k _ _)) hs
  · rw [decide_eq_false (by omega), decide_eq_false (by omega)]; rfl
  · simpa [ST] using hi
theorem itL {value slice : Expr} {a : Addr} {vs : List Value} {i : Nat} {u : Tok} {v : Value} {Q : Value → Shared → Prop} (hl : At h a (PL vs)) (hi : vs[i]? = some v) (hb : i < 2 ^ 63) (k : Q v ⟨h, G, D, tk, O⟩)
    (hs : subscripted slice false (.ref a) (.int i u) = operate [.ref a, .int i u] (getItem (.ref a) (.int i u)) := by with_unfolding_all rfl) :
    Wp w A (subscriptTail value slice (.ref a) (.int i u)) Q E ⟨h, G, D, tk, O⟩ := by
  rw [Wp_eq]; exact tail_any (s := ⟨h, G, D, tk, O⟩) hl.isList.typeIs slot_list_getitem.lookup (wpAny_getItem_list hl.isList (by omega) (by omega) (by simpa using hi) k) hs
theorem itT {value slice : Expr} {a : Addr} {vs : List Value} {i : Nat} {u : Tok} {v : Value} {Q : Value → Shared → Prop} (hl : At h a (TU vs)) (hi : vs[i]? = some v) (hb : i < 2 ^ 63) (k : Q v ⟨h, G, D, tk, O⟩)
    (hs : subscripted slice false (.ref a) (.int i u) = operate [.ref a, .int i u] (getItem (.ref a) (.int i u)) := by with_unfolding_all rfl) :
    Wp w A (subscriptTail value slice (.ref a) (.int i u)) Q E ⟨h, G, D, tk, O⟩ := by
  have hlt : i < vs.length := (List.getElem?_eq_some_iff.mp hi).1
  have ht : IsTup h a vs.toArray := hl.isTuple
  rw [Wp_eq]
  refine tail_any (s := ⟨h, G, D, tk, O⟩) ht.typeIs slot_tuple_getitem.lookup (getItem_tuple (j := i) ht (by omega) (by omega) ?_ (by simpa using hi) k) hs
  rw [StrLaws.seqIndex_nonneg (by omega) (by simp; omega)]; simp
/-- a tuple, a list is made -/
theorem tupM {Q : Value → Shared → Prop} {pos : Pos} {kd : Nat} {elts : List Expr}
    (k : Wp w A (spliced (backTo pos (starEach elts env))) (fun vs s₁ => ∃ h₁ tk₁, s₁ = ⟨h₁, G, D, tk₁, O⟩ ∧ vs.length ≤ 1000 ∧ ∀ a h', h₁.get? a = none → Sub h₁ h' → At h' a (TU vs) → Q (.ref a) ⟨h', G, D, tk₁, O⟩) E ⟨h, G, D, tk, O⟩) :
    Wp w A (eval (.Tuple elts kd pos) env) Q E ⟨h, G, D, tk, O⟩ := by
  simp only [Wp_eq] at *
  refine wpAny_Tuple (wpAny_mono k (fun vs s₁ q => ?_) fun _ _ e => e)
  obtain ⟨h₁, tk₁, rfl, hl, q⟩ := q
  exact ⟨by rw [sizeLine_eq]; omega, q _ _ (fresh_none _) (sub_push _ _) ⟨_, Heap.get?_push_size _ rfl, _, rfl⟩⟩
theorem lstM {Q : Value → Shared → Prop} {pos : Pos} {elts : List Expr}
    (k : Wp w A (spliced (backTo pos (starEach elts env))) (fun vs s₁ => ∃ h₁ tk₁, s₁ = ⟨h₁, G, D, tk₁, O⟩ ∧ vs.length ≤ 1000 ∧ ∀ a h', h₁.get? a = none → Sub h₁ h' → At h' a (PL vs) → Q (.ref a) ⟨h', G, D, tk₁, O⟩) E ⟨h, G, D, tk, O⟩) :
    Wp w A (eval (.List elts pos) env) Q E ⟨h, G, D, tk, O⟩ := by
  simp only [Wp_eq] at *
  refine wpAny_List (wpAny_mono k (fun vs s₁ q => ?_) fun _ _ e => e)
  obtain ⟨h₁, tk₁, rfl, hl, q⟩ := q
  exact ⟨by rw [sizeLine_eq]; omega, q _ _ (fresh_none _) (sub_push _ _) ⟨_, Heap.get?_push_size _ rfl, _, rfl⟩⟩
theorem lenS {x : List Nat} {t : Tok} {Q : Value → Shared → Prop} (hx : x.length ≤ sizeLine) (k : ∀ u tk', Q (.int x.length u) ⟨h, G, D, tk', O⟩) : Wp w A (call (.builtin "len") [.str (ST x) t]) Q E ⟨h, G, D, tk, O⟩ := by
  rw [Wp_eq]
  rw [sizeLine_eq] at hx
  refine P.len_str (by rw [ST_len]; omega) ?_
  rw [ST_len]; exact k _ _
end
end Mine
end
/-! ## B1 -/
section
open PySem PySem.W PyProof.Rows PySem.Calls
namespace Mine
section
variable {w : World} {A : Around} {E : Value → Shared → Prop} {h : Heap} {G : Array GenState} {D : Drawn} {tk : Nat} {O : OsState} {g : Heap} {mg mb : Str → Option Value}
theorem inSet {bs : Addr} {c : Int} {n : Nat} {t : Tok} {S : Int → Bool} {Q : Value → Shared → Prop} (hS : h.SetOf (intKind pr w) bs S n) (k : ∀ tk', Q (.bool (S c)) ⟨h, G, D, tk', O⟩) :
    Wp w A (compareOp .In (.int c t) (.ref bs)) Q E ⟨h, G, D, tk, O⟩ := by
  rw [Wp_eq]; exact wpAny_inSet_of (intKind_is pr w _ _) rfl hS (k _)
theorem b1_spec {f bs : Addr} {c n : Nat} {t : Tok} {S : Int → Bool} {Q : Value → Shared → Prop} (T : Tf mg mb g) (H : Fn g mg 5 "in_table_b1" f) (k : Sub g h) (hroom : A.depth < recursionLimit)
   (h1 : mg "ord" = none) (h2 : mb "ord" = some (.builtin "ord")) (h3 : mg "b1_set" = some (.ref bs)) (hS : g.SetOf (intKind pr w) bs S n)
   (hQ : ∀ h' tk', Sub h h' → Q (.bool (S c)) ⟨h', G, D, tk', O⟩) : Wp w A (call (.ref f) [.str (ST [c]) t]) Q E ⟨h, G, D, tk, O⟩ := by
  refine enter [("code", .str (ST [c]) t)] T H k hroom fun h₁ cd tk₁ X => ?_
  have k₁ : Sub g h₁ := k.trans X.sub
  refine wCons (wRet (wCmp ?_))
  refine clB (T.sub k₁) h1 h2 (ar1 (nmL X rfl (ar0 ?_)))
  refine ordI fun u₁ tk₂ => ?_
  refine nmG (T.sub k₁) h3 ?_
  obtain ⟨o, es, ep, tb, ho, r⟩ := hS
  exact inSet ⟨o, es, ep, tb, k₁ _ _ ho, r⟩ fun _ => hQ _ _ X.sub

theorem lower_fits (c : Nat) : Builtin.Str.tooLong (Txt.lower ⟨#[c]⟩).length = false := by
  have h := StrLaws.placedRaw_le3 #[c] (fun i _ => Unicode.lowerAt #[c] i) (fun i _ => StrLaws.lowerAt_le3 _ i)
  unfold Builtin.Str.tooLong Txt.lower placed Str.length
  rw [sizeLine_eq]
  have : (#[c] : Array Nat).size = 1 := rfl
  rw [this] at h
  exact decide_eq_false (by dsimp only; omega)
theorem dictGet {env : Env} {o e : Expr} {apos pos : Pos} {d : Addr} {M : Int → Option Value} {Q : Value → Shared → Prop} {s : Shared} (hd : (d == sysModules) = false)
    (k : Wp w A (eval o env) (fun ov s₁ => ov = .ref d ∧ s₁.heap.MapOf (intKind pr w) d M ∧ Wp w A (eval e env) (fun v s₂ => ∃ c u, v = .int c u ∧ s₂.heap.MapOf (intKind pr w) d M ∧ ∀ tk', Q ((M c).getD .none) ⟨s₂.heap, s₂.gens, s₂.drawn, tk', s₂.os⟩) E s₁) E s)
    (hbase : attributeBase o "get" env (eval o env) = eval o env := by rfl) (hline : (apos.endLine == pos.line) = true := by rfl) (htrees : backTo pos (starEach [e] env) = [(false, eval e env)] := by rfl) :
    Wp w A (eval (.Call (.Attribute o "get" apos) [e] [] pos) env) Q E s := by
  simp only [Wp_eq] at *
  refine wpAny_Call_method1_late hbase hline htrees (wpAny_mono k (fun ov s₁ q => ?_) fun _ _ e => e)
  obtain ⟨rfl, hM, q⟩ := q
  refine ⟨"dict", "dict.get", F.plainAttrs_dict, F.slot_dict_get, F.type_dict_get, hM.typeIs, hM.noDict, ?_⟩
  refine wpAny_dict_get1 (knd := intKind pr w) hd (wpAny_mono q (fun v s₂ q => ?_) fun _ _ e => e)
  obtain ⟨c, u, rfl, hM₂, q⟩ := q
  exact ⟨c, M, intKind_is pr w _ _, hM₂, q _⟩
theorem isNotN {v : Value} {Q : Value → Shared → Prop} {s : Shared} (hv : v = .none ∨ ∃ x t, v = .str x t) (k : Q (.bool (v != .none)) s) : Wp w A (compareOp .IsNot v .none) Q E s := by
  rw [Wp_eq]
  rcases hv with rfl | ⟨x, t, rfl⟩
  · exact wpAny_isNot_self rfl k
  · exact wpAny_isNot_other rfl (fun z => by cases z) k
theorem lowerS {env : Env} {o : Expr} {apos pos : Pos} {Q : Value → Shared → Prop} {s : Shared} (k : Wp w A (eval o env) (fun v s₁ => ∃ c t, v = .str (ST [c]) t ∧ ∀ u tk', Q (.str (Txt.lower (ST [c])) u) ⟨s₁.heap, s₁.gens, s₁.drawn, tk', s₁.os⟩) E s)
    (hbase : attributeBase o "lower" env (eval o env) = eval o env := by rfl) (hline : (apos.endLine == pos.line) = true := by rfl) : Wp w A (eval (.Call (.Attribute o "lower" apos) [] [] pos) env) Q E s := by
  simp only [Wp_eq] at *
  refine wpAny_Call_method_lateS hbase rfl hline (wpAny_mono k (fun v s₁ q => ?_) fun _ _ e => e)
  obtain ⟨c, t, rfl, q⟩ := q
  exact SB.lower (lower_fits c) (q _ _)

theorem b3_spec {f d : Addr} {c : Nat} {t : Tok} {M : Int → Option Value} {B : Int → Option Str} {Q : Value → Shared → Prop} (T : Tf mg mb g) (H : Fn g mg 7 "map_table_b3" f) (k : Sub g h) (hroom : A.depth < recursionLimit)
   (h1 : mg "ord" = none) (h2 : mb "ord" = some (.builtin "ord")) (h3 : mg "b3_exceptions" = some (.ref d)) (hd : (d == sysModules) = false) (hM : g.MapOf (intKind pr w) d M)
   (hB : ∀ k, (M k = none ∧ B k = none) ∨ ∃ x t, M k = some (.str x t) ∧ B k = some x)
   (hQ : ∀ h' tk' u, Sub h h' → Q (.str ((B c).getD (Txt.lower (ST [c]))) u) ⟨h', G, D, tk', O⟩) : Wp w A (call (.ref f) [.str (ST [c]) t]) Q E ⟨h, G, D, tk, O⟩ := by
  refine enter [("code", .str (ST [c]) t)] T H k hroom fun h₁ cd tk₁ X => ?_
  have k₁ : Sub g h₁ := k.trans X.sub
  have hM₁ : h₁.MapOf (intKind pr w) d M := let ⟨o, es, ep, ho, r⟩ := hM; ⟨o, es, ep, k₁ _ _ ho, r⟩
  refine wCons (wAsg (dictGet hd (nmG (T.sub k₁) h3 ⟨rfl, hM₁, ?_⟩)))
  refine clB (T.sub k₁) h1 h2 (ar1 (nmL X rfl (ar0 ?_)))
  refine ordI fun u₁ tk₂ => ⟨_, _, rfl, hM₁, fun tk₃ => ?_⟩
  refine stL X fun h₂ tk₃ X₂ => nx_next ?_
  rcases hB c with ⟨e1, e2⟩ | ⟨x, u, e1, e2⟩
  · rw [e1] at X₂
    refine ifNo (wTst (nmL X₂ rfl (cN (isNotN (.inl rfl) ⟨_, rfl, rfl, ?_⟩))))
    refine wCons (wRet (lowerS (nmL X₂ rfl ⟨_, _, rfl, fun _ _ => ?_⟩)))
    have := hQ h₂
    rw [e2] at this
    exact this _ _ X₂.sub
  · rw [e1] at X₂
    refine ifYes (wTst (nmL X₂ rfl (cN (isNotN (.inr ⟨_, _, rfl⟩) ⟨_, rfl, rfl, ?_⟩))))
    refine wCons (wRet (nmL X₂ rfl ?_))
    have := hQ h₂
    rw [e2] at this
    exact this _ _ X₂.sub
end
end Mine
end
/-! ## Tb -/
section
open PySem PySem.W PyProof.Rows PySem.Calls
namespace Mine
def b1P (c : Nat) : Bool := [173, 847, 6150, 6155, 6156, 6157, 8203, 8204, 8205, 8288, 65279].contains c || (Nat.ble 65024 c && Nat.blt c 65040)
def b3pairs : List (Option Expr) → List Expr → List (Nat × Str)
  | some (.Constant (.int k) _ _) :: ks, .Constant (.str x) _ _ :: vs => (k.toNat, x) :: b3pairs ks vs
  | _, _ => []
def b3L : List (Nat × Str) := match (pr.main.body[6]? : Option Stmt) with
  | some (.Assign _ (.Dict ks vs _) _) => b3pairs ks vs
  | _ => []
def b3find (c : Nat) : List (Nat × Str) → Option Str
  | [] => none
  | (k, x) :: r => match Nat.beq k c with
    | true => some x
    | false => b3find c r
def B3 (c : Nat) : Option Str := b3find c b3L
def prep (c : Nat) : List Nat := ((B3 c).getD (Txt.lower (ST [c]))).cps.toList
def sp (c : Nat) : Bool := Nat.beq c 32 || Nat.beq c 10 || Nat.beq c 9 || Nat.beq c 13 || Nat.beq c 34 || Nat.beq c 92
def gs (c : Nat) (f : List Nat) : Bool := match b1P c with
  | true => f.isEmpty && !sp c
  | false => prep c == f && Nat.ble f.length 10 && match sp c with
    | true => f == [c]
    | false => (!f.isEmpty && f.all fun x => !sp x) || match f with
      | x :: t => Nat.beq x 32 && !t.isEmpty && t.all fun x => !sp x
      | [] => false
theorem b3len : Nat.blt 400 b3L.length = true := by decide +kernel

theorem gs1a : ∀ r, r < 16 → gs (65024 + r) [] = true := by decide +kernel
theorem gs1b : ∀ c ∈ [173, 847, 6150, 6155, 6156, 6157, 8203, 8204, 8205, 8288, 65279], gs c [] = true := by decide +kernel
theorem gs2a : ∀ x, x < 26 → gs (97 + x) [97 + x] = true := by decide +kernel
theorem gs2b : ∀ x, x < 26 → gs (65 + x) [97 + x] = true := by decide +kernel
theorem gs2c : ∀ b ∈ [0, 1, 2, 4, 7, 8, 9, 10, 11, 12], ∀ x, x < 26 → gs (119808 + 52 * b + x) [97 + x] = true := by decide +kernel
theorem gs4 : gs 890 [32, 953] = true := by decide +kernel
theorem gs5 : ∀ c ∈ [32, 10, 9, 13, 34, 92], gs c [c] = true := by decide +kernel
end Mine
end
/-! ## Sg -/
section
open PySem PySem.W PyProof.Rows PySem.Calls
namespace Mine
/-- a literal's int, a literal's text -/
def cInt : Const → Option Int
  | .int i => some i
  | _ => none
def cStr : Const → Option Str
  | .str x => some x
  | _ => none
def exInt : Expr → Option Int
  | .Constant c _ _ => cInt c
  | _ => none
def exStr : Expr → Option Str
  | .Constant c _ _ => cStr c
  | _ => none
theorem noNone {α : Type} {P : Prop} {x : α} (h : none = some x) : P := nomatch h
theorem cInt_is {c : Const} {i : Int} (h : cInt c = some i) : c = .int i := by
  cases c <;> first | exact noNone h | (cases h; rfl)
theorem cStr_is {c : Const} {x : Str} (h : cStr c = some x) : c = .str x := by
  cases c <;> first | exact noNone h | (cases h; rfl)
theorem exInt_is {e : Expr} {i : Int} (h : exInt e = some i) : ∃ k p, e = .Constant (.int i) k p := by
  cases e <;> first | exact noNone h | exact ⟨_, _, by rw [cInt_is h]⟩
theorem exStr_is {e : Expr} {x : Str} (h : exStr e = some x) : ∃ k p, e = .Constant (.str x) k p := by
  cases e <;> first | exact noNone h | exact ⟨_, _, by rw [cStr_is h]⟩
def strE (p : Str → Bool) (e : Expr) : Bool := (exStr e).any p
theorem strE_is {p : Str → Bool} {e : Expr} (h : strE p e = true) : ∃ x, exStr e = some x ∧ p x = true := by
  unfold strE at h
  cases q : exStr e with
  | none => rw [q] at h; cases h
  | some x => rw [q] at h; exact ⟨x, rfl, h⟩
section
variable {w : World} {A : Around} {E : Value → Shared → Prop} {env : Env}
theorem dispStrs {h₀ : Heap} {G : Array GenState} {D : Drawn} {O : OsState} {p : Str → Bool} {pos : Pos} : ∀ {elts : List Expr} {tk : Nat} {Q : List Value → Shared → Prop}, elts.all (strE p) = true →
    (∀ vs tk, vs.length = elts.length → (∀ v ∈ vs, ∃ x t, v = .str x t ∧ p x = true) → Q vs ⟨h₀, G, D, tk, O⟩) → Wp w A (spliced (backTo pos (starEach elts env))) Q E ⟨h₀, G, D, tk, O⟩
  | [], tk, Q, _, h => ar0 (h [] tk rfl fun _ hv => (nomatch hv))
  | e :: rest, tk, Q, ha, h => by
    rw [List.all_cons, Bool.and_eq_true] at ha
    obtain ⟨h1, h2⟩ := ha
    obtain ⟨x, hx, h1⟩ := strE_is h1
    obtain ⟨k, pos', rfl⟩ := exStr_is hx
    obtain ⟨lx, rfl⟩ := ST_of x
    refine ar1 (cS rfl fun u tk₁ => dispStrs h2 fun vs tk hl hv => ?_)
    refine h _ _ (by simp [hl]) fun v hm => ?_
    rcases List.mem_cons.mp hm with rfl | hm
    · exact ⟨_, _, rfl, h1⟩
    · exact hv v hm
end

/-- a display of ints -/
def intsE : List Expr → Option (List Int)
  | [] => some []
  | e :: r => (exInt e).bind fun i => (intsE r).map (i :: ·)
section
variable {w : World} {A : Around} {E : Value → Shared → Prop} {env : Env}
def IntsOf (vs : List Value) (ns : List Int) : Prop := vs.length = ns.length ∧ ∀ (i : Nat) (n : Int), ns[i]? = some n → ∃ t, vs[i]? = some (Value.int n t)
theorem dispInts {h₀ : Heap} {G : Array GenState} {D : Drawn} {O : OsState} {pos : Pos} : ∀ {elts : List Expr} {ns : List Int} {tk : Nat} {Q : List Value → Shared → Prop}, intsE elts = some ns →
    (∀ vs tk, IntsOf vs ns → Q vs ⟨h₀, G, D, tk, O⟩) → Wp w A (spliced (backTo pos (starEach elts env))) Q E ⟨h₀, G, D, tk, O⟩
  | [], ns, tk, Q, hn, h => by
    cases hn
    exact ar0 (h [] tk ⟨rfl, fun i n hi => by simp at hi⟩)
  | e :: rest, ns, tk, Q, ha, h => by
    unfold intsE at ha
    obtain ⟨i, hi, ha⟩ := Option.bind_eq_some_iff.mp ha
    obtain ⟨k, p, rfl⟩ := exInt_is hi
    obtain ⟨ms, hm, rfl⟩ := Option.map_eq_some_iff.mp ha
    refine ar1 (cI fun u tk₁ => dispInts hm fun vs tk₂ hv => ?_)
    refine h _ _ ⟨by simp [hv.1], fun j n hj => ?_⟩
    cases j with
    | zero => simp at hj; subst hj; exact ⟨u, rfl⟩
    | succ j => simpa using hv.2 j n (by simpa using hj)
end
section
variable {w : World} {A : Around} {E : Value → Shared → Prop} {h : Heap} {G : Array GenState} {D : Drawn} {tk : Nat} {O : OsState} {g : Heap} {mg mb : Str → Option Value}
theorem fmodN (n m : Nat) : Int.fmod (n : Int) (m : Int) = ((n % m : Nat) : Int) := by
  rw [Int.fmod_eq_emod_of_nonneg _ (by omega)]; simp
theorem fdivN (n m : Nat) : Int.fdiv (n : Int) (m : Int) = ((n / m : Nat) : Int) := by
  rw [Int.fdiv_eq_ediv_of_nonneg _ (by omega)]; simp
theorem mem_get {α : Type} {l : List α} {i : Nat} (hi : i < l.length) : ∃ x, l[i]? = some x ∧ x ∈ l := ⟨l[i], by simp [hi], List.getElem_mem hi⟩

abbrev SignQ (h : Heap) (G : Array GenState) (D : Drawn) (O : OsState) (Q : Value → Shared → Prop) : Prop :=
  ∀ a c x h' tk' t1 t2, h.get? a = none → Sub h h' → At h' a (TU [.str (ST [c]) t1, .str (ST x) t2]) → gs c x = true → Q (.ref a) ⟨h', G, D, tk', O⟩
theorem sign_spec1 {f : Addr} {t u : Tok} {n : Nat} {Q : Value → Shared → Prop} (T : Tf mg mb g) (H : Fn g mg 10 "_law_sign" f) (k : Sub g h) (hroom : A.depth < recursionLimit)
   (h1 : mg "chr" = none) (h2 : mb "chr" = some (.builtin "chr")) (hQ : SignQ h G D O Q) :
   Wp w A (call (.ref f) [.int 1 t, .int n u]) Q E ⟨h, G, D, tk, O⟩ := by
  refine enter [("which", .int n u), ("kind", .int 1 t)] T H k hroom fun h₁ cd tk₁ X => ?_
  have k₁ : Sub g h₁ := k.trans X.sub
  have hr : Int.fmod (n : Int) 27 = ((n % 27 : Nat) : Int) := fmodN n 27
  by_cases hlt : n % 27 < 16
  · refine ifYes (wTBo (wAnd1 (tEq X rfl fun _ => ?_)))
    rw [if_pos (by decide)]
    refine wAnd1 (wTst (wBin (nmL X rfl (cI fun _ _ => modI (by decide) fun _ _ => cI fun _ _ => ltI ⟨_, rfl, ?_⟩))))
    rw [hr, decide_eq_true (by omega), if_pos rfl]
    refine wAnd0 ⟨rfl, ?_⟩
    refine wCons (wRet (tupM (ar1 ?_)))
    refine clB (T.sub k₁) h1 h2 (ar1 (wBin (cI fun _ _ => wBin (nmL X rfl (cI fun _ _ => modI (by decide) fun _ _ => addI fun _ _ => ar0 ?_)))))
    rw [hr]
    refine chrI (by omega) (by omega) fun _ _ => ?_
    refine ar1 (cS (l := []) rfl fun _ _ => ar0 ⟨_, _, rfl, by simp, fun a h' ha hs hat => ?_⟩)
    have e : ((65024 : Int) + ((n % 27 : Nat) : Int)).toNat = 65024 + n % 27 := by omega
    rw [e] at hat
    exact hQ a _ _ _ _ _ _ (X.sub.none ha) (X.sub.trans hs) hat (gs1a _ hlt)
  · refine ifNo (wTBo (wAnd1 (tEq X rfl fun _ => ?_)))
    rw [if_pos (by decide)]
    refine wAnd1 (wTst (wBin (nmL X rfl (cI fun _ _ => modI (by decide) fun _ _ => cI fun _ _ => ltI ⟨_, rfl, ?_⟩))))
    rw [hr, decide_eq_false (by omega), if_neg (by decide)]
    refine ⟨rfl, ?_⟩
    refine ifYes (tEq X rfl fun _ => ⟨rfl, ?_⟩)
    refine wCons (wRet (tupM (ar1 ?_)))
    refine wSub (cS (l := [173, 847, 6150, 6155, 6156, 6157, 8203, 8204, 8205, 8288, 65279]) (by decide +kernel) fun _ _ => ?_)
    refine wBin (wBin (nmL X rfl (cI fun _ _ => modI (by decide) fun _ _ => cI fun _ _ => subI fun _ _ => ?_)))
    rw [hr, show ((n % 27 : Nat) : Int) - 16 = ((n % 27 - 16 : Nat) : Int) by omega]
    obtain ⟨c, hc, hm⟩ := mem_get (l := [173, 847, 6150, 6155, 6156, 6157, 8203, 8204, 8205, 8288, 65279]) (i := n % 27 - 16) (by simp; omega)
    refine itS hc (by decide) fun _ _ => ?_
    refine ar1 (cS (l := []) rfl fun _ _ => ar0 ⟨_, _, rfl, by simp, fun a h' ha hs hat => ?_⟩)
    exact hQ a _ _ _ _ _ _ (X.sub.none ha) (X.sub.trans hs) hat (gs1b _ hm)

theorem noPy (a : Int) : Builtin.divisionGoesByPylong a 12 = false := PyProof.noPylong_of_log2 (by decide +kernel)
set_option maxHeartbeats 400000 in
theorem sign_spec2 {f : Addr} {t u : Tok} {n : Nat} {Q : Value → Shared → Prop} (T : Tf mg mb g) (H : Fn g mg 10 "_law_sign" f) (k : Sub g h) (hroom : A.depth < recursionLimit)
   (h1 : mg "chr" = none) (h2 : mb "chr" = some (.builtin "chr")) (hQ : SignQ h G D O Q) :
   Wp w A (call (.ref f) [.int 2 t, .int n u]) Q E ⟨h, G, D, tk, O⟩ := by
  refine enter [("which", .int n u), ("kind", .int 2 t)] T H k hroom fun h₁ cd tk₁ X => ?_
  have k₁ : Sub g h₁ := k.trans X.sub
  have hr : Int.fmod (n : Int) 12 = ((n % 12 : Nat) : Int) := fmodN n 12
  have hd : Int.fmod (Int.fdiv (n : Int) 12) 26 = ((n / 12 % 26 : Nat) : Int) := by
    rw [show Int.fdiv (n : Int) 12 = ((n / 12 : Nat) : Int) from fdivN n 12]; exact fmodN _ 26
  have hx : n / 12 % 26 < 26 := Nat.mod_lt _ (by decide)
  generalize hX : n / 12 % 26 = x at hd hx
  refine ifNo (wTBo (wAnd1 (tEq X rfl fun _ => ?_)))
  rw [if_neg (by decide)]
  refine ⟨rfl, ifNo (tEq X rfl fun _ => ⟨rfl, ifYes (tEq X rfl fun _ => ⟨rfl, ?_⟩)⟩)⟩
  refine wCons (wAsg ?_)
  refine clB (T.sub k₁) h1 h2 (ar1 (wBin (cI fun _ _ => wBin (wBin (nmL X rfl (cI fun _ _ => divI (by decide) (noPy _) fun _ _ => cI fun _ _ => modI (by decide) fun _ _ => addI fun _ _ => ar0 ?_))))))
  rw [hd]
  refine chrI (by omega) (by omega) fun _ _ => ?_
  rw [show ((97 : Int) + (x : Int)).toNat = 97 + x by omega]
  refine stL X fun h₂ tk₂ X₂ => nx_next ?_
  have k₂ : Sub g h₂ := k.trans X₂.sub
  by_cases c0 : n % 12 = 0
  · refine ifYes (wTst (wBin (nmL X₂ rfl (cI fun _ _ => modI (by decide) fun _ _ => cI fun _ _ => eqI ⟨_, rfl, ?_, ?_⟩))))
    · rw [hr, c0]; rfl
    refine wCons (wRet (tupM (ar1 (nmL X₂ rfl (ar1 (nmL X₂ rfl (ar0 ⟨_, _, rfl, by simp, fun a h' ha hs hat => ?_⟩)))))))
    exact hQ a _ _ _ _ _ _ (X₂.sub.none ha) (X₂.sub.trans hs) hat (gs2a _ hx)
  refine ifNo (wTst (wBin (nmL X₂ rfl (cI fun _ _ => modI (by decide) fun _ _ => cI fun _ _ => eqI ⟨_, rfl, ?_, ?_⟩))))
  · rw [hr]; exact beq_eq_false_iff_ne.mpr (by omega)
  by_cases c1 : n % 12 = 1
  · refine ifYes (wTst (wBin (nmL X₂ rfl (cI fun _ _ => modI (by decide) fun _ _ => cI fun _ _ => eqI ⟨_, rfl, ?_, ?_⟩))))
    · rw [hr, c1]; rfl
    refine wCons (wRet (tupM (ar1 ?_)))
    refine clB (T.sub k₂) h1 h2 (ar1 (wBin (cI fun _ _ => wBin (wBin (nmL X₂ rfl (cI fun _ _ => divI (by decide) (noPy _) fun _ _ => cI fun _ _ => modI (by decide) fun _ _ => addI fun _ _ => ar0 ?_))))))
    rw [hd]
    refine chrI (by omega) (by omega) fun _ _ => ?_
    rw [show ((65 : Int) + (x : Int)).toNat = 65 + x by omega]
    refine ar1 (nmL X₂ rfl (ar0 ⟨_, _, rfl, by simp, fun a h' ha hs hat => ?_⟩))
    exact hQ a _ _ _ _ _ _ (X₂.sub.none ha) (X₂.sub.trans hs) hat (gs2b _ hx)
  refine ifNo (wTst (wBin (nmL X₂ rfl (cI fun _ _ => modI (by decide) fun _ _ => cI fun _ _ => eqI ⟨_, rfl, ?_, ?_⟩))))
  · rw [hr]; exact beq_eq_false_iff_ne.mpr (by omega)
  refine wCons (wAsg (wSub (lstM (dispInts (ns := [0, 1, 2, 4, 7, 8, 9, 10, 11, 12]) rfl fun vs tk₃ hv => ⟨_, _, rfl, by rw [hv.1]; simp, fun a h₃ ha hs hat => ?_⟩))))
  have X₃ := X₂.keeps hs
  refine wBin (wBin (nmL X₃ rfl (cI fun _ _ => modI (by decide) fun _ _ => cI fun _ _ => subI fun _ _ => ?_)))
  rw [hr, show ((n % 12 : Nat) : Int) - 2 = ((n % 12 - 2 : Nat) : Int) by omega]
  have h12 : n % 12 - 2 < 10 := by omega
  generalize n % 12 - 2 = j at h12
  have hj : ∃ b : Nat, b ∈ [0, 1, 2, 4, 7, 8, 9, 10, 11, 12] ∧ ([0, 1, 2, 4, 7, 8, 9, 10, 11, 12] : List Int)[j]? = some (b : Int) := by
    revert h12; revert j; decide
  obtain ⟨b, hb, hbj⟩ := hj
  obtain ⟨tb, hvj⟩ := hv.2 j b hbj
  have hb12 : b ≤ 12 := (by decide : ∀ b ∈ [0, 1, 2, 4, 7, 8, 9, 10, 11, 12], b ≤ 12) b hb
  refine itL hat hvj (by omega) ?_
  refine stL X₃ fun h₄ tk₄ X₄ => nx_next ?_
  have k₄ : Sub g h₄ := k.trans X₄.sub
  refine wCons (wRet (tupM (ar1 ?_)))
  refine clB (T.sub k₄) h1 h2 (ar1 (wBin (wBin (cI fun _ _ => wBin (cI fun _ _ => nmL X₄ rfl (mulI ?_ fun _ _ => addI fun _ _ => ?_))))))
  · exact IntMulOk.of_left (by decide +kernel)
  refine wBin (wBin (nmL X₄ rfl (cI fun _ _ => divI (by decide) (noPy _) fun _ _ => cI fun _ _ => modI (by decide) fun _ _ => addI fun _ _ => ar0 ?_)))
  rw [hd]
  refine chrI (by omega) (by omega) fun _ _ => ?_
  rw [show ((119808 : Int) + 52 * (b : Int) + (x : Int)).toNat = 119808 + 52 * b + x by omega]
  refine ar1 (nmL X₄ rfl (ar0 ⟨_, _, rfl, by simp, fun a h' ha hs' hat' => ?_⟩))
  exact hQ a _ _ _ _ _ _ (X₄.sub.none ha) (X₄.sub.trans hs') hat' (gs2c _ hb _ hx)

def good3 (x : Str) : Bool := match x.cps.toList with
  | c :: f => gs c f
  | [] => false
theorem good3_of {x : Str} (h : good3 x = true) : ∃ c f, x = ST (c :: f) ∧ gs c f = true := by
  unfold good3 at h
  split at h
  · rename_i c f e
    refine ⟨c, f, ?_, h⟩
    cases x
    simp only [ST] at *
    exact congrArg Str.mk (Array.toList_inj.mp (by simpa using e))
  · cases h
theorem len_small {l : List Nat} (h : l.length ≤ 1000) : l.length ≤ sizeLine := by rw [sizeLine_eq]; omega
set_option maxHeartbeats 400000 in
theorem sign_spec3 {f : Addr} {t u : Tok} {n : Nat} {Q : Value → Shared → Prop} (T : Tf mg mb g) (H : Fn g mg 10 "_law_sign" f) (k : Sub g h) (hroom : A.depth < recursionLimit)
   (hQ : SignQ h G D O Q) : Wp w A (call (.ref f) [.int 3 t, .int n u]) Q E ⟨h, G, D, tk, O⟩ := by
  refine enter [("which", .int n u), ("kind", .int 3 t)] T H k hroom fun h₁ cd tk₁ X => ?_
  have hr : Int.fmod (n : Int) 24 = ((n % 24 : Nat) : Int) := fmodN n 24
  refine ifNo (wTBo (wAnd1 (tEq X rfl fun _ => ?_)))
  rw [if_neg (by decide)]
  refine ⟨rfl, ifNo (tEq X rfl fun _ => ⟨rfl, ifNo (tEq X rfl fun _ => ⟨rfl, ifYes (tEq X rfl fun _ => ⟨rfl, ?_⟩)⟩)⟩)⟩
  refine wCons (wAsg (wSub (lstM (dispStrs (p := fun x => good3 x && Nat.ble x.length 10) (by decide +kernel) fun vs tk₃ hl hv => ?_))))
  have hl24 : vs.length = 24 := hl
  refine ⟨_, _, rfl, by omega, fun a h₃ ha hs hat => ?_⟩
  have X₃ := X.keeps hs
  refine wBin (nmL X₃ rfl (cI fun _ _ => modI (by decide) fun _ _ => ?_))
  rw [hr]
  obtain ⟨v, hvi, hm⟩ := mem_get (l := vs) (i := n % 24) (by omega)
  obtain ⟨x, tx, rfl, hx⟩ := hv v hm
  rw [Bool.and_eq_true] at hx
  obtain ⟨c, fo, rfl, hg⟩ := good3_of hx.1
  have hlen : (c :: fo).length ≤ 10 := by have := Nat.le_of_ble_eq_true hx.2; rwa [ST_len] at this
  refine itL hat hvi (by omega) ?_
  refine stL X₃ fun h₄ tk₄ X₄ => nx_next ?_
  refine wCons (wRet (tupM (ar1 (wSub (nmL X₄ rfl (cI fun _ _ => itS (i := 0) rfl (len_small (by omega)) fun _ _ => ?_))))))
  refine ar1 (slF (nmL X₄ rfl (cI fun _ _ => ⟨_, _, c :: fo, _, 1, _, rfl, rfl, rfl, len_small (by omega), fun h₅ _ _ hs₅ => ?_⟩)))
  refine ar0 ⟨_, _, rfl, by simp, fun a h' ha hs' hat' => ?_⟩
  exact hQ a _ _ _ _ _ _ (X₄.sub.none (hs₅.none ha)) ((X₄.sub.trans hs₅).trans hs') hat' hg
set_option maxHeartbeats 400000 in
theorem sign_spec4 {f : Addr} {t u : Tok} {n : Nat} {Q : Value → Shared → Prop} (T : Tf mg mb g) (H : Fn g mg 10 "_law_sign" f) (k : Sub g h) (hroom : A.depth < recursionLimit)
   (hQ : SignQ h G D O Q) : Wp w A (call (.ref f) [.int 4 t, .int n u]) Q E ⟨h, G, D, tk, O⟩ := by
  refine enter [("which", .int n u), ("kind", .int 4 t)] T H k hroom fun h₁ cd tk₁ X => ?_
  refine ifNo (wTBo (wAnd1 (tEq X rfl fun _ => ?_)))
  rw [if_neg (by decide)]
  refine ⟨rfl, ifNo (tEq X rfl fun _ => ⟨rfl, ifNo (tEq X rfl fun _ => ⟨rfl, ifNo (tEq X rfl fun _ => ⟨rfl, ifYes (tEq X rfl fun _ => ⟨rfl, ?_⟩)⟩)⟩)⟩)⟩
  refine wCons (wRet (tupM (ar1 (cS (l := [890]) (by decide +kernel) fun _ _ => ar1 (cS (l := [32, 953]) (by decide +kernel) fun _ _ => ar0 ⟨_, _, rfl, by simp, fun a h' ha hs' hat' => ?_⟩)))))
  exact hQ a _ _ _ _ _ _ (X.sub.none ha) (X.sub.trans hs') hat' gs4
def rowOk (x : Str) : Bool := x.cps.toList.all (fun c => gs c [c]) && Nat.blt 0 x.length && Nat.ble x.length 100
set_option maxHeartbeats 400000 in
theorem sign_spec5 {f : Addr} {t u : Tok} {n j : Nat} {Q : Value → Shared → Prop} (T : Tf mg mb g) (H : Fn g mg 10 "_law_sign" f) (k : Sub g h) (hroom : A.depth < recursionLimit) (hj : j < 3)
   (h1 : mg "len" = none) (h2 : mb "len" = some (.builtin "len")) (hQ : SignQ h G D O Q) : Wp w A (call (.ref f) [.int (5 + j : Nat) t, .int n u]) Q E ⟨h, G, D, tk, O⟩ := by
  refine enter [("which", .int n u), ("kind", .int (5 + j : Nat) t)] T H k hroom fun h₁ cd tk₁ X => ?_
  have k₁ : Sub g h₁ := k.trans X.sub
  have ne : ∀ i : Int, i < 5 → (((5 + j : Nat) : Int) == i) = false := fun i hi => beq_eq_false_iff_ne.mpr (by omega)
  refine ifNo (wTBo (wAnd1 (tEq X rfl fun _ => ?_)))
  rw [ne _ (by decide), if_neg (by decide)]
  refine ⟨rfl, ifNo (tEq X rfl fun _ => ⟨ne _ (by decide), ifNo (tEq X rfl fun _ => ⟨ne _ (by decide), ifNo (tEq X rfl fun _ => ⟨ne _ (by decide), ifNo (tEq X rfl fun _ => ⟨ne _ (by decide), ?_⟩)⟩)⟩)⟩)⟩
  refine wCons (wAsg (wSub (lstM (dispStrs (p := rowOk) (by decide +kernel) fun vs tk₃ hl hv => ?_))))
  have hl3 : vs.length = 3 := hl
  refine ⟨_, _, rfl, by omega, fun a h₃ ha hs hat => ?_⟩
  have X₃ := X.keeps hs
  refine wBin (nmL X₃ rfl (cI fun _ _ => subI fun _ _ => ?_))
  rw [show ((5 + j : Nat) : Int) - 5 = ((j : Nat) : Int) by omega]
  obtain ⟨v, hvi, hm⟩ := mem_get (l := vs) (i := j) (by omega)
  obtain ⟨x, tx, rfl, hx⟩ := hv v hm
  obtain ⟨row, rfl⟩ := ST_of x
  unfold rowOk at hx
  simp only [Bool.and_eq_true, ST_len] at hx
  have hlo : 0 < row.length := Nat.le_of_ble_eq_true hx.1.2
  have hhi : row.length ≤ 100 := Nat.le_of_ble_eq_true hx.2
  have hall := List.all_eq_true.mp hx.1.1
  refine itL hat hvi (by omega) ?_
  refine stL X₃ fun h₄ tk₄ X₄ => nx_next ?_
  have k₄ : Sub g h₄ := k.trans X₄.sub
  refine wCons (wAsg (wSub (nmL X₄ rfl (wBin (nmL X₄ rfl (clB (T.sub k₄) h1 h2 (ar1 (nmL X₄ rfl (ar0 (lenS (len_small (by omega)) fun _ _ => modI ?_ fun _ _ => ?_))))))))))
  · omega
  rw [fmodN]
  obtain ⟨c, hc, hcm⟩ := mem_get (l := row) (i := n % row.length) (Nat.mod_lt _ hlo)
  refine itS hc (len_small (by omega)) fun _ _ => ?_
  refine stL X₄ fun h₅ tk₅ X₅ => nx_next ?_
  refine wCons (wRet (tupM (ar1 (nmL X₅ rfl (ar1 (nmL X₅ rfl (ar0 ⟨_, _, rfl, by simp, fun a h' ha hs' hat' => ?_⟩)))))))
  exact hQ a _ _ _ _ _ _ (X₅.sub.none ha) (X₅.sub.trans hs') hat' (hall c hcm)
end
end Mine
end
/-! ## Lp -/
section
open PySem PySem.W PyProof.Rows PySem.Calls
namespace Mine
abbrev NoE : Value → Shared → Prop := fun _ _ => False
section
variable {w : World} {A : Around} {h : Heap} {G : Array GenState} {D : Drawn} {tk : Nat} {O : OsState} {env : Env} {g : Heap} {l : List (Str × Value)} {M : List (Addr × Pd)}
theorem Wp.lift {α : Type} {t : Sem α} {Q : α → Shared → Prop} {E : Value → Shared → Prop} {s : Shared} (k : Wp w A t Q NoE s) : Wp w A t Q E s := k.mono (fun _ _ q => q) fun _ _ e => e.elim

/-! several targets -/
theorem io0 {Q : Unit → Shared → Prop} {s : Shared} {E : Value → Shared → Prop} (k : Q () s) : Wp w A (assignInOrder [] []) Q E s := by rw [Wp_eq]; exact wpAny_assignInOrder_none k
theorem ioN {x : Str} {p : Pos} {ts : List (Value → Sem Unit)} {v : Value} {xs : List Value} {Q : Unit → Shared → Prop} {s : Shared} {E : Value → Shared → Prop}
    (k : Wp w A (storeName env x v) (fun _ s₁ => Wp w A (assignInOrder ts xs) Q E s₁) E s) : Wp w A (assignInOrder (assign (.Name x p) env :: ts) (v :: xs)) Q E s := by
  simp only [Wp_eq] at *; exact wpAny_assignInOrder_more (assign_Name k)
theorem ioB {x : Str} {ts : List (Value → Sem Unit)} {v : Value} {xs : List Value} {Q : Unit → Shared → Prop} {s : Shared} {E : Value → Shared → Prop}
    (k : Wp w A (storeName env x v) (fun _ s₁ => Wp w A (assignInOrder ts xs) Q E s₁) E s) : Wp w A (assignInOrder ((fun v => bindName env x v) :: ts) (v :: xs)) Q E s := by
  simp only [Wp_eq] at *; exact wpAny_assignInOrder_more (bindName_ k)
theorem unpk {t : Addr} {vs : List Value} {Q : List Value → Shared → Prop} {E : Value → Shared → Prop} (hh : A.handled = none) (ht : At h t (TU vs)) (k : ∀ h', Sub h h' → Q vs ⟨h', G, D, tk, O⟩) {n : Nat} (hn : n = vs.length) :
    Wp w A (unpackItems (.ref t) n none) Q E ⟨h, G, D, tk, O⟩ := by
  rw [Wp_eq]
  have e : n = vs.toArray.size := by simpa using hn
  rw [e]
  refine wpAny_unpackItems_tuple hh ht.isTuple fun h' he => ?_
  exact k h' fun b o e => he b o (Nat.ne_of_lt (Heap.lt_size e)) e
/-- a, b = (x, y), the later one first -/
theorem asgS {elts : List Expr} {kd : Nat} {tpos pos : Pos} {value : Expr} {names : List Str} {Q : Flow → Shared → Prop} {E : Value → Shared → Prop} (hh : A.handled = none)
    (k : Wp w A (eval value env) (fun v s₁ => ∃ h₁ tk₁ t vs, s₁ = ⟨h₁, G, D, tk₁, O⟩ ∧ v = .ref t ∧ At h₁ t (TU vs) ∧ names.length = vs.length ∧
      ∀ h', Sub h₁ h' → Wp w A (assignInOrder (names.reverse.map fun n => fun v => bindName env n v) vs.reverse) (fun _ => Q .next) E ⟨h', G, D, tk₁, O⟩) E ⟨h, G, D, tk, O⟩)
    (hs : swapsWithSole [.Tuple elts kd tpos] value pos.line env = pure false := by rfl) (hw : swappedStores [.Tuple elts kd tpos] value env = pure (some names) := by rfl) :
    Wp w A (exec (.Assign [.Tuple elts kd tpos] value pos) env) Q E ⟨h, G, D, tk, O⟩ := by
  have k' := k.mono1 (Q' := fun v s₁ => Wp w A (unpackItems v names.length none) (fun items s₂ => Wp w A (assignInOrder (names.reverse.map fun n => bindName env n) items.reverse) (fun _ => Q .next) E s₂) E s₁) fun v s₁ q => by
    obtain ⟨h₁, tk₁, t, vs, rfl, rfl, ht, hn, q⟩ := q
    exact unpk hh ht q hn
  simp only [Wp_eq] at *
  exact Assign_Tuple_swapped k' hs hw
/-- a, b = f(..) -/
theorem asgT {elts : List Expr} {kd : Nat} {tpos pos : Pos} {value : Expr} {Q : Flow → Shared → Prop} {E : Value → Shared → Prop} (hh : A.handled = none)
    (k : Wp w A (eval value env) (fun v s₁ => ∃ h₁ tk₁ t vs, s₁ = ⟨h₁, G, D, tk₁, O⟩ ∧ v = .ref t ∧ At h₁ t (TU vs) ∧ (assignEach elts env).length = vs.length ∧
      ∀ h', Sub h₁ h' → Wp w A (assignInOrder ((assignEach elts env).map (·.2)) vs) (fun _ => Q .next) E ⟨h', G, D, tk₁, O⟩) E ⟨h, G, D, tk, O⟩)
    (hstar : (assignEach elts env).findIdx? (·.1) = none := by rfl)
    (hs : swapsWithSole [.Tuple elts kd tpos] value pos.line env = pure false := by rfl) (hw : swappedStores [.Tuple elts kd tpos] value env = pure none := by rfl) :
    Wp w A (exec (.Assign [.Tuple elts kd tpos] value pos) env) Q E ⟨h, G, D, tk, O⟩ := by
  simp only [Wp_eq] at *
  refine Assign_Tuple (wpAny_mono k (fun v s₁ q => ?_) fun _ _ e => e) hs hw
  obtain ⟨h₁, tk₁, t, vs, rfl, rfl, ht, hn, q⟩ := q
  refine wpAny_assign_Tuple hh ht.isTuple (by simpa using hn) hstar fun h' he => ?_
  have := q h' fun b o e => he b o (Nat.ne_of_lt (Heap.lt_size e)) e
  simpa using this

/-! for over a list -/
def Go (G : Array GenState) (D : Drawn) (O : OsState) (Q : Flow → Shared → Prop) (J : Heap → Prop) : Flow → Shared → Prop := fun f s => match f with
  | .next | .cont => ∃ h tk, s = ⟨h, G, D, tk, O⟩ ∧ J h
  | .brk => Q .next s
  | .ret v => Q (.ret v) s
theorem go_next {Q : Flow → Shared → Prop} {J : Heap → Prop} (k : J h) : Go G D O Q J .next ⟨h, G, D, tk, O⟩ := ⟨h, tk, rfl, k⟩
theorem go_cont {Q : Flow → Shared → Prop} {J : Heap → Prop} (k : J h) : Go G D O Q J .cont ⟨h, G, D, tk, O⟩ := ⟨h, tk, rfl, k⟩
theorem go_ret {Q : Flow → Shared → Prop} {J : Heap → Prop} {v : Value} {s : Shared} (k : Q (.ret v) s) : Go G D O Q J (.ret v) s := k
theorem forL {target iter : Expr} {body : List Stmt} {pos : Pos} {Q : Flow → Shared → Prop} (hh : A.handled = none)
    (k : Wp w A (eval iter env) (fun v s₁ => ∃ h₁ tk₁ a vs, s₁ = ⟨h₁, G, D, tk₁, O⟩ ∧ v = .ref a ∧ At h₁ a (PL vs) ∧ ∃ J : Addr → Nat → Heap → Prop,
      (∀ it h', h₁.get? it = none → Sub h₁ h' → At h' it (LI a 0) → J it 0 h') ∧
      (∀ it i h, J it i h → At h a (PL vs) ∧ At h it (LI a i)) ∧
      (∀ it i h h' tk v, J it i h → vs[i]? = some v → At h' it (LI a (i + 1)) → Heap.SameBut it h h' →
        Wp w A (letOwnedTupleGo target (.ref it) v) (fun _ s₁ => Wp w A (assign target env v) (fun _ s₂ => Wp w A (execs body env) (Go G D O Q (J it (i + 1))) NoE s₂) NoE s₁) NoE ⟨h', G, D, tk, O⟩) ∧
      (∀ it h h' tk, J it vs.length h → Heap.ExtBut it h h' → Q .next ⟨h', G, D, tk, O⟩)) NoE ⟨h, G, D, tk, O⟩)
    (hs : ∀ x, foldedSetIterable iter env x = pure x := by intro _; rfl) :
    Wp w A (exec (.For target iter body [] pos) env) Q NoE ⟨h, G, D, tk, O⟩ := by
  simp only [Wp_eq] at *
  refine wpAny_For (wpAny_mono k (fun v s₁ q => ?_) fun _ _ e => e.elim) hs
  obtain ⟨h₁, tk₁, a, vs, rfl, rfl, hat, J, j0, jat, jturn, jfin⟩ := q
  refine wpAny_pyIter_list hat.isList ?_
  have start : J h₁.objs.size 0 (h₁.push { cls := .type "list_iterator", data := .fields #[.ref a, .int 0 0] }) := j0 _ _ (fresh_none _) (sub_push _ _) ⟨_, Heap.get?_push_size _ rfl, rfl, rfl⟩
  generalize h₁.objs.size = it at start ⊢
  generalize (h₁.push { cls := .type "list_iterator", data := .fields #[.ref a, .int 0 0] }) = hp at start ⊢
  refine codeAny_forLoop_any (fun n s => ∃ i h tk, s = ⟨h, G, D, tk, O⟩ ∧ J it i h ∧ i ≤ vs.length ∧ n = vs.length - i) ?_ vs.length ⟨0, hp, _, rfl, start, Nat.zero_le _, rfl⟩
  rintro n s ⟨i, hi, tki, rfl, hJ, hle, rfl⟩
  obtain ⟨ha, hit⟩ := jat it i hi hJ
  by_cases hlt : i < vs.length
  · obtain ⟨v, hv⟩ : ∃ v, vs[i]? = some v := ⟨vs[i], by simp [hlt]⟩
    refine wpAny_pyNext_list_item hit.isIter ha.isList (by simpa using hv) fun h' hit' hsb => ?_
    have z := jturn it i hi h' tki v hJ hv (.ofIter hit') hsb
    refine wpAny_mono z (fun _ s₁ z₁ => wpAny_mono z₁ (fun _ s₂ z₂ => wpAny_mono z₂ (fun f s₃ z₃ => ?_) fun _ _ e => e.elim) fun _ _ e => e.elim) fun _ _ e => e.elim
    cases f with
    | next => obtain ⟨h₃, tk₃, rfl, q⟩ := z₃; exact ⟨_, by omega, i + 1, h₃, tk₃, rfl, q, hlt, rfl⟩
    | cont => obtain ⟨h₃, tk₃, rfl, q⟩ := z₃; exact ⟨_, by omega, i + 1, h₃, tk₃, rfl, q, hlt, rfl⟩
    | brk => exact z₃
    | ret v => exact z₃
  · obtain rfl : i = vs.length := by omega
    refine wpAny_pyNext_list_end hh hit.isIter ha.isList (by simp) fun h' he => ?_
    exact wpAny_execs_nil (jfin it hi h' tki hJ he)
theorem ltN {x : Str} {p : Pos} {it v : Value} {Q : Unit → Shared → Prop} {s : Shared} {E : Value → Shared → Prop} (k : Q () s) : Wp w A (letOwnedTupleGo (.Name x p) it v) Q E s := by rw [Wp_eq]; exact wpAny_pure k
theorem ltT {elts : List Expr} {kd : Nat} {pos : Pos} {I a T : Addr} {i : Nat} {Q : Unit → Shared → Prop} {E : Value → Shared → Prop} (hit : At h I (LI a i)) (k : Q () ⟨h, G, D, tk, O⟩) :
    Wp w A (letOwnedTupleGo (.Tuple elts kd pos) (.ref I) (.ref T)) Q E ⟨h, G, D, tk, O⟩ := by rw [Wp_eq]; exact wpAny_letOwnedTupleGo_listiter (s := ⟨h, G, D, tk, O⟩) hit.isIter k
theorem asN {x : Str} {p : Pos} {v : Value} {Q : Unit → Shared → Prop} {s : Shared} {E : Value → Shared → Prop} (k : Wp w A (storeName env x v) Q E s) : Wp w A (assign (.Name x p) env v) Q E s := by rw [Wp_eq] at *; exact assign_Name k
theorem asT {elts : List Expr} {kd : Nat} {pos : Pos} {t : Addr} {vs : List Value} {Q : Unit → Shared → Prop} {E : Value → Shared → Prop} (hh : A.handled = none) (ht : At h t (TU vs)) (hn : (assignEach elts env).length = vs.length)
    (k : ∀ h', Sub h h' → Wp w A (assignInOrder ((assignEach elts env).map (·.2)) vs) Q E ⟨h', G, D, tk, O⟩) (hstar : (assignEach elts env).findIdx? (·.1) = none := by rfl) :
    Wp w A (assign (.Tuple elts kd pos) env (.ref t)) Q E ⟨h, G, D, tk, O⟩ := by
  simp only [Wp_eq] at *
  refine wpAny_assign_Tuple hh ht.isTuple (by simpa using hn) hstar fun h' he => ?_
  have := k h' fun b o e => he b o (Nat.ne_of_lt (Heap.lt_size e)) e
  simpa using this
/-! list.append -/
theorem apE {o elt : Expr} {apos pos epos : Pos} {Q : Flow → Shared → Prop} {E : Value → Shared → Prop}
    (k : Wp w A (eval o env) (fun ov s₁ => ∃ a us, ov = .ref a ∧ At s₁.heap a (PL us) ∧ Wp w A (eval elt env) (fun y s₂ => ∃ h₂ tk₂ vs, s₂ = ⟨h₂, G, D, tk₂, O⟩ ∧ At h₂ a (PL vs) ∧ vs.length ≤ 10000 ∧
      ∀ h', At h' a (PL (vs ++ [y])) → Heap.SameBut a h₂ h' → Q .next ⟨h', G, D, tk₂, O⟩) E s₁) E ⟨h, G, D, tk, O⟩)
    (hbase : attributeBase o "append" env (eval o env) = eval o env := by rfl) (hline : (apos.endLine == pos.line) = true := by rfl) (htrees : backTo pos (starEach [elt] env) = [(false, eval elt env)] := by rfl)
    (hi : interactive env = false := by rfl) (hs : swapsWith (.Call (.Attribute o "append" apos) [elt] [] pos) none epos.line env = pure false := by rfl) :
    Wp w A (exec (.Expr (.Call (.Attribute o "append" apos) [elt] [] pos) epos) env) Q E ⟨h, G, D, tk, O⟩ := by
  simp only [Wp_eq] at *
  refine wpAny_Expr (wpAny_Call_append hbase (by rw [htrees]; rfl) hline htrees (wpAny_mono k (fun ov s₁ q => ?_) fun _ _ e => e)) hi hs
  obtain ⟨a, us, rfl, hat, q⟩ := q
  refine ⟨a, us.toArray, rfl, ?_, wpAny_mono q (fun y s₂ q => ?_) fun _ _ e => e⟩
  · obtain ⟨o, e, n, rfl⟩ := hat; exact ⟨_, n, e, rfl, rfl, rfl⟩
  · obtain ⟨h₂, tk₂, vs, rfl, hat₂, hl, q⟩ := q
    refine wpAny_list_append_plain hat₂.list (fun h' hp hsb => ?_) (by rw [sizeLine_eq]; simp; omega)
    refine q h' ?_ hsb
    apply At.ofList
    simpa using hp
/-! room -/
def Room (A : Around) (n : Nat) : Prop := A.depth + n < recursionLimit ∧ A.units + 10 * n < cLine ∧ A.handled = none
theorem Room.deeper {n : Nat} {env : Env} (r : Room A (n + 1)) : Room (A.deeper env) n := by
  obtain ⟨a, b, c⟩ := r
  refine ⟨?_, ?_, c⟩
  · show A.depth + 1 + n < _; omega
  · show A.units + 3 + 10 * n < _; omega
theorem Room.depth {n : Nat} (r : Room A n) : A.depth < recursionLimit := by have := r.1; omega
theorem Room.units {n : Nat} (r : Room A n) : A.units < cLine := by have := r.2.1; omega
theorem Room.less {n m : Nat} (r : Room A n) (h : m ≤ n) : Room A m := ⟨by have := r.1; omega, by have := r.2.1; omega, r.2.2⟩
/-! lists -/
variable {Q : Value → Shared → Prop} {E : Value → Shared → Prop}
theorem eqLE {a b : Addr} {vs us : List Value} (hu : A.units < cLine) (ha : At h a (PL vs)) (hb : At h b (PL us)) (he : us = []) (k : Q (.bool vs.isEmpty) ⟨h, G, D, tk, O⟩) : Wp w A (compareOp .Eq (.ref a) (.ref b)) Q E ⟨h, G, D, tk, O⟩ := by
  subst he
  rw [Wp_eq]
  show wpAny _ A (richCompare .Eq (.ref a) (.ref b)) Q E _
  cases vs with
  | nil =>
    refine SeqAt.RcAt.lists (s := ⟨h, G, D, tk, O⟩) (e := fun _ => true) ha.isList hb.isList rfl hu (fun j h1 _ => ?_) pr w E Q ?_
    · simp at h1
    · exact k
  | cons v r => exact SeqAt.RcAt.lists_lengths (s := ⟨h, G, D, tk, O⟩) ha.isList hb.isList (by simp) hu pr w E Q k
theorem lenL {a : Addr} {vs : List Value} (ha : At h a (PL vs)) (hl : vs.length ≤ 100000) (k : ∀ u tk', Q (.int vs.length u) ⟨h, G, D, tk', O⟩) : Wp w A (call (.builtin "len") [.ref a]) Q E ⟨h, G, D, tk, O⟩ := by
  rw [Wp_eq]
  refine len_list (s := ⟨h, G, D, tk, O⟩) ha.isList (by simp; omega) ?_
  simpa using k _ _
theorem cB {b : Bool} {kd : Nat} {pos : Pos} {s : Shared} (k : Q (.bool b) s) : Wp w A (eval (.Constant (.bool b) kd pos) env) Q E s := by rw [Wp_eq]; exact wpAny_Constant_bool k
theorem addS {x y : List Nat} {t u : Tok} (hl : x.length + y.length ≤ sizeLine) (k : ∀ t' tk', Q (.str (ST (x ++ y)) t') ⟨h, G, D, tk', O⟩) : Wp w A (binaryOp .Add (.str (ST x) t) (.str (ST y) u)) Q E ⟨h, G, D, tk, O⟩ := by
  rw [Wp_eq]
  refine SB.add (fun t' k' => ?_) (by rw [ST_len, ST_len]; exact hl)
  rw [ST_add]; exact k _ _
theorem iaddS {x y : List Nat} {t u : Tok} (hl : x.length + y.length ≤ sizeLine) (k : ∀ t' tk', Q (.str (ST (x ++ y)) t') ⟨h, G, D, tk', O⟩) : Wp w A (inplaceOp .Add (.str (ST x) t) (.str (ST y) u)) Q E ⟨h, G, D, tk, O⟩ := by
  rw [Wp_eq]
  refine SB.iadd (fun t' k' => ?_) (by rw [ST_len, ST_len]; exact hl)
  rw [ST_add]; exact k _ _
theorem eqS {x y : List Nat} {t u : Tok} {s : Shared} (k : Q (.bool (x == y)) s) : Wp w A (compareOp .Eq (.str (ST x) t) (.str (ST y) u)) Q E s := by
  rw [Wp_eq]; refine PyProof.Rows.eq_str ?_; rw [ST_beq]; exact k
theorem neS {x y : List Nat} {t u : Tok} {s : Shared} (k : Q (.bool (x != y)) s) : Wp w A (compareOp .NotEq (.str (ST x) t) (.str (ST y) u)) Q E s := by
  rw [Wp_eq]; refine PyProof.Rows.ne_str ?_; rw [ST_bne]; exact k
theorem tB {b : Bool} {Q : Bool → Shared → Prop} {s : Shared} (k : Q b s) : Wp w A (truthy (.bool b)) Q E s := by rw [Wp_eq]; exact wpAny_truthy_bool k
end

/-! pairs of lists -/
def A2 {α β : Type} (R : α → β → Prop) (xs : List α) (ys : List β) : Prop := xs.length = ys.length ∧ ∀ (i : Nat) (x : α) (y : β), xs[i]? = some x → ys[i]? = some y → R x y
theorem A2.nil {α β : Type} {R : α → β → Prop} : A2 R [] [] := ⟨rfl, fun i x y h => by simp at h⟩
theorem A2.snoc {α β : Type} {R : α → β → Prop} {xs : List α} {ys : List β} {x : α} {y : β} (h : A2 R xs ys) (k : R x y) : A2 R (xs ++ [x]) (ys ++ [y]) := by
  refine ⟨by simp [h.1], fun i a b ha hb => ?_⟩
  by_cases hi : i < xs.length
  · rw [List.getElem?_append_left hi] at ha
    rw [List.getElem?_append_left (h.1 ▸ hi)] at hb
    exact h.2 i a b ha hb
  · rw [List.getElem?_append_right (by omega)] at ha
    rw [List.getElem?_append_right (by rw [← h.1]; omega), ← h.1] at hb
    have : i - xs.length = 0 := by
      have := (List.getElem?_eq_some_iff.mp ha).1
      simp at this; omega
    rw [this] at ha hb
    simp at ha hb
    subst ha hb
    exact k
theorem A2.mono {α β : Type} {R R' : α → β → Prop} {xs : List α} {ys : List β} (h : A2 R xs ys) (k : ∀ x y, R x y → R' x y) : A2 R' xs ys := ⟨h.1, fun i x y a b => k x y (h.2 i x y a b)⟩
theorem A2.get {α β : Type} {R : α → β → Prop} {xs : List α} {ys : List β} (h : A2 R xs ys) {i : Nat} {y : β} (e : ys[i]? = some y) : ∃ x, xs[i]? = some x ∧ R x y := by
  have hi := (List.getElem?_eq_some_iff.mp e).1
  have hi' : i < xs.length := by rw [h.1]; exact hi
  have : xs[i]? = some xs[i] := by simp [hi']
  exact ⟨_, this, h.2 i _ _ this e⟩
theorem A2.get' {α β : Type} {R : α → β → Prop} {xs : List α} {ys : List β} (h : A2 R xs ys) {i : Nat} {x : α} (e : xs[i]? = some x) : ∃ y, ys[i]? = some y ∧ R x y := by
  have hi := (List.getElem?_eq_some_iff.mp e).1
  have hi' : i < ys.length := h.1 ▸ hi
  have : ys[i]? = some ys[i] := by simp [hi']
  exact ⟨_, this, h.2 i _ _ e this⟩
end Mine
end
/-! ## Wo -/
section
open PySem PySem.W PyProof.Rows PySem.Calls
namespace Mine
/-! signs, words -/
structure Sn where
  m : Nat
  c : Nat
  f : List Nat
structure Wd where
  q : Bool
  b : List Nat
  s : List Sn
def SnOk (x : Sn) : Prop := x.m ≤ 1 ∧ gs x.c x.f = true
def SnAt (h : Heap) (v : Value) (x : Sn) : Prop := ∃ a t1 t2 t3, v = .ref a ∧ At h a (TU [.int x.m t1, .str (ST [x.c]) t2, .str (ST x.f) t3])
def SnsAt (h : Heap) (a : Addr) (xs : List Sn) : Prop := ∃ vs, At h a (PL vs) ∧ A2 (SnAt h) vs xs
def WdAt (h : Heap) (v : Value) (x : Wd) : Prop := ∃ a t sa, v = .ref a ∧ At h a (TU [.bool x.q, .str (ST x.b) t, .ref sa]) ∧ SnsAt h sa x.s
def WdsAt (h : Heap) (a : Addr) (xs : List Wd) : Prop := ∃ vs, At h a (PL vs) ∧ A2 (WdAt h) vs xs
theorem SnAt.sub {g h : Heap} {v : Value} {x : Sn} (k : Sub g h) (y : SnAt g v x) : SnAt h v x := let ⟨a, t1, t2, t3, e, z⟩ := y; ⟨a, t1, t2, t3, e, z.sub k⟩
theorem SnsAt.sub {g h : Heap} {a : Addr} {x : List Sn} (k : Sub g h) (y : SnsAt g a x) : SnsAt h a x := let ⟨vs, p, q⟩ := y; ⟨vs, p.sub k, q.mono fun _ _ => SnAt.sub k⟩
theorem WdAt.sub {g h : Heap} {v : Value} {x : Wd} (k : Sub g h) (y : WdAt g v x) : WdAt h v x := let ⟨a, t, sa, e, z, r⟩ := y; ⟨a, t, sa, e, z.sub k, r.sub k⟩
theorem WdsAt.sub {g h : Heap} {a : Addr} {x : List Wd} (k : Sub g h) (y : WdsAt g a x) : WdsAt h a x := let ⟨vs, p, q⟩ := y; ⟨vs, p.sub k, q.mono fun _ _ => WdAt.sub k⟩

def wh (c : Nat) : Bool := Nat.beq c 32 || Nat.beq c 10 || Nat.beq c 9 || Nat.beq c 13
/-- a word that is not the last -/
def WdOk (x : Wd) : Prop := (∀ y ∈ x.s, SnOk y) ∧ (∀ c ∈ x.b, wh c = true) ∧ (x.q = true ∧ x.b.length ≤ 2 ∨ x.q = false ∧ x.b.length = 2 ∧ x.s ≠ [])
/-- the last word -/
def WdEnd (x : Wd) : Prop := (∀ y ∈ x.s, SnOk y) ∧ (∀ c ∈ x.b, wh c = true) ∧ (x.q = true ∧ x.b = [] ∨ x.q = false ∧ x.b.length ≤ 2 ∧ x.s ≠ [])
def wsz (xs : List Wd) : Nat := (xs.map fun x => x.s.length + 1).sum
theorem wsz_snoc (xs : List Wd) (x : Wd) : wsz (xs ++ [x]) = wsz xs + (x.s.length + 1) := by simp [wsz]
theorem wsz_len (xs : List Wd) : xs.length ≤ wsz xs := by
  induction xs with
  | nil => simp
  | cons x r ih => simp only [wsz, List.map_cons, List.sum_cons, List.length_cons] at *; omega
section
variable {w : World} {A : Around} {E : Value → Shared → Prop} {h : Heap} {G : Array GenState} {D : Drawn} {tk : Nat} {O : OsState} {g : Heap} {mg mb : Str → Option Value}
theorem sign_spec {f : Addr} {t u : Tok} {n j : Nat} {Q : Value → Shared → Prop} (T : Tf mg mb g) (H : Fn g mg 10 "_law_sign" f) (k : Sub g h) (hroom : A.depth < recursionLimit) (hj : 1 ≤ j ∧ j ≤ 7)
   (h1 : mg "chr" = none) (h2 : mb "chr" = some (.builtin "chr")) (h3 : mg "len" = none) (h4 : mb "len" = some (.builtin "len")) (hQ : SignQ h G D O Q) : Wp w A (call (.ref f) [.int j t, .int n u]) Q E ⟨h, G, D, tk, O⟩ := by
  by_cases c1 : j = 1
  · subst c1; exact sign_spec1 T H k hroom h1 h2 hQ
  by_cases c2 : j = 2
  · subst c2; exact sign_spec2 T H k hroom h1 h2 hQ
  by_cases c3 : j = 3
  · subst c3; exact sign_spec3 T H k hroom hQ
  by_cases c4 : j = 4
  · subst c4; exact sign_spec4 T H k hroom hQ
  obtain ⟨i, rfl⟩ : ∃ i, j = 5 + i := ⟨j - 5, by omega⟩
  exact sign_spec5 T H k hroom (by omega) h3 h4 hQ

theorem noPy8 (a : Int) : Builtin.divisionGoesByPylong a 8 = false := PyProof.noPylong_of_log2 (by decide +kernel)
theorem noPy16 (a : Int) : Builtin.divisionGoesByPylong a 16 = false := PyProof.noPylong_of_log2 (by decide +kernel)
theorem noPy2 (a : Int) : Builtin.divisionGoesByPylong a 2 = false := PyProof.noPylong_of_log2 (by decide +kernel)
theorem noPy4 (a : Int) : Builtin.divisionGoesByPylong a 4 = false := PyProof.noPylong_of_log2 (by decide +kernel)
theorem fmod_ex (n : Int) (m : Nat) (hm : 0 < m) : ∃ r : Nat, r < m ∧ n.fmod (m : Int) = (r : Int) := by
  have h1 := Int.fmod_nonneg_of_pos n (b := (m : Int)) (by omega)
  have h2 := Int.fmod_lt_of_pos n (b := (m : Int)) (by omega)
  exact ⟨(n.fmod m).toNat, by omega, by omega⟩


theorem Fm.drop {g h h' : Heap} {L a : Addr} {l : List (Str × Value)} {M : List (Addr × Pd)} {P : Pd} (F : Fm g L l ((a, P) :: M) h) (hs : Heap.ExtBut a h h') : Fm g L l M h' := by
  have hnd := F.nd
  rw [List.map_cons, List.nodup_cons] at hnd
  have hng : g.get? a = none := F.ng (a, P) (.head _)
  have hnL : a ≠ L := F.nL (a, P) (.head _)
  refine ⟨F.ns.extBut hs (Ne.symm hnL), fun b o e => hs b o (fun q => ?_) (F.sub b o e), F.off, fun p hp' => ?_, fun p hp' => F.nL p (.tail _ hp'), fun p hp' => F.ng p (.tail _ hp'), hnd.2⟩
  · rw [q, hng] at e; cases e
  · obtain ⟨o', e', r⟩ := F.led p (.tail _ hp')
    refine ⟨o', hs _ _ (fun z => hnd.1 ?_) e', r⟩
    show a ∈ _
    rw [← z]; exact List.mem_map_of_mem (f := (·.1)) hp'
theorem Fm.gnone {g h : Heap} {L a : Addr} {l : List (Str × Value)} {M : List (Addr × Pd)} {P : Pd} (F : Fm g L l M h) (hm : (a, P) ∈ M) {h₀ : Heap} (k : Sub h₀ g) : h₀.get? a = none := k.none (F.ng _ hm)

/-- between two numbers -/
def WInv (h₀ : Heap) (L an : Addr) (it : Addr) (i : Nat) (h : Heap) : Prop :=
  ∃ g aw as vw vs ws ss, Sub h₀ g ∧ Fm g L [("words", .ref aw), ("signs", .ref as), ("numbers", .ref an)] [(it, LI an i), (aw, PL vw), (as, PL vs)] h ∧
    A2 (WdAt (less g h₀)) vw ws ∧ A2 (SnAt (less g h₀)) vs ss ∧ (∀ x ∈ ws, WdOk x) ∧ (∀ x ∈ ss, SnOk x) ∧ wsz ws + ss.length = i
theorem A2.lessW {g g' h₀ : Heap} {vw : List Value} {ws : List Wd} (k : Sub g g') (x : A2 (WdAt (less g h₀)) vw ws) : A2 (WdAt (less g' h₀)) vw ws := x.mono fun _ _ => WdAt.sub (k.lessM h₀)
theorem A2.lessS {g g' h₀ : Heap} {vw : List Value} {ws : List Sn} (k : Sub g g') (x : A2 (SnAt (less g h₀)) vw ws) : A2 (SnAt (less g' h₀)) vw ws := x.mono fun _ _ => SnAt.sub (k.lessM h₀)

set_option maxHeartbeats 4000000 in
theorem words_spec {f fs an : Addr} {nv : List Value} {ns : List Int} {Q : Value → Shared → Prop} (T : Tf mg mb g) (H : Fn g mg 11 "_law_words" f) (HS : Fn g mg 10 "_law_sign" fs) (k : Sub g h) (room : Room A 3)
   (h1 : mg "chr" = none) (h2 : mb "chr" = some (.builtin "chr")) (h3 : mg "len" = none) (h4 : mb "len" = some (.builtin "len"))
   (hn : At h an (PL nv)) (hv : IntsOf nv ns) (hlen : ns.length ≤ 100)
   (hQ : ∀ a ws wl h' tk' r, Sub h h' → Sub r h' → (∀ b o, h.get? b = some o → r.get? b = none) → WdsAt r a (ws ++ [wl]) → (∀ x ∈ ws, WdOk x) → WdEnd wl → wsz (ws ++ [wl]) ≤ ns.length + 1 → Q (.ref a) ⟨h', G, D, tk', O⟩) :
   Wp w A (call (.ref f) [.ref an]) Q E ⟨h, G, D, tk, O⟩ := by
  refine enter [("numbers", .ref an)] T H k room.depth fun h₁ cd tk₁ X => ?_
  have room' := room.deeper (n := 2) (env := envOf "_law_words" (fnAt 11).2.2 h.objs.size f (.ref cd))
  refine wCons (asgS room'.2.2 (tupM (ar1 (lstM (ar0 ⟨_, _, rfl, by simp, fun aw h₂ haw hs₂ hat₂ => ?_⟩)))))
  have X₂ := X.newA hs₂ haw hat₂
  refine ar1 (lstM (ar0 ⟨_, _, rfl, by simp, fun as h₃ has hs₃ hat₃ => ?_⟩))
  have X₃ := X₂.newA hs₃ has hat₃
  refine ar0 ⟨_, _, rfl, by simp, fun tu h₄ htu hs₄ hat₄ => ?_⟩
  have X₄ := X₃.keeps hs₄
  refine ⟨_, _, _, _, rfl, rfl, hat₄, rfl, fun h₅ hs₅ => ?_⟩
  have X₅ := X₄.keeps hs₅
  refine ioB (stL X₅ fun h₆ tk₆ X₆ => ioB (stL X₆ fun h₇ tk₇ X₇ => io0 (nx_next ?_)))
  have X₇ := X₇.swap
  clear X X₂ X₃ X₄ X₅ X₆ hat₂ hat₃ hat₄ hs₂ hs₃ hs₄ hs₅ haw has htu
  refine wCons (forL room'.2.2 (nmL X₇ rfl ⟨_, _, an, nv, rfl, rfl, hn.sub X₇.sub, WInv h h.objs.size an, ?_, ?_, ?_, ?_⟩))
  · intro it h' hit hs hat
    exact ⟨h, aw, as, [], [], [], [], .refl _, X₇.newA hs hit hat, .nil, .nil, fun _ hx => (nomatch hx), fun _ hx => (nomatch hx), rfl⟩
  · rintro it i h' ⟨g', aw, as, vw, vs, ws, ss, hg, F, -⟩
    exact ⟨hn.sub (hg.trans F.sub), F.hd⟩
  · rintro it i h' h'' tk' v ⟨g', aw, as, vw, vs, ws, ss, hg, F, hw, hsn, hwo, hso, hi⟩ hvi hit hsb
    have hi' : i < 100 := by
      have := (List.getElem?_eq_some_iff.mp hvi).1
      rw [hv.1] at this; omega
    obtain ⟨n, t, rfl⟩ : ∃ n t, v = .int n t := by
      have q := (List.getElem?_eq_some_iff.mp hvi).1
      rw [hv.1] at q
      obtain ⟨t, e⟩ := hv.2 i ns[i] (by simp [q])
      rw [e] at hvi; cases hvi; exact ⟨_, _, rfl⟩
    have F₁ := F.updA hit hsb
    refine ltN (asN (stL F₁ fun h₂ tk₂ F₂ => ?_))
    refine wCons <| asgS room'.2.2 <| tupM <| ar1 <| wBin <| wBin <| nmL F₂ rfl <| cI fun _ _ => divI (by decide) (noPy8 _) fun _ _ => cI fun _ _ => modI (by decide) fun _ _ => ar1 <| wBin <| wBin <| nmL F₂ rfl <| cI fun _ _ => divI (by decide) (noPy16 _) fun _ _ => cI fun _ _ => modI (by decide) fun _ _ => ar0 ⟨_, _, rfl, by simp, fun tu h₃ htu hs₃ hat₃ => ?_⟩
    obtain ⟨mk, hmk, emk⟩ : ∃ r : Nat, r < 2 ∧ (n.fdiv 8).fmod 2 = (r : Int) := fmod_ex (n.fdiv 8) 2 (by decide)
    obtain ⟨wc, hwc, ewc⟩ : ∃ r : Nat, r < 4096 ∧ (n.fdiv 16).fmod 4096 = (r : Int) := fmod_ex (n.fdiv 16) 4096 (by decide)
    obtain ⟨kd, hkd, ekd⟩ : ∃ r : Nat, r < 8 ∧ n.fmod 8 = (r : Int) := fmod_ex n 8 (by decide)
    have F₃ := F₂.keeps hs₃
    refine ⟨_, _, _, _, rfl, rfl, hat₃, rfl, fun h₄ hs₄ => ?_⟩
    have F₄ := F₃.keeps hs₄
    refine ioB (stL F₄ fun h₅ tk₅ F₅ => ioB (stL F₅ fun h₆ tk₆ F₆ => io0 (nx_next ?_)))
    rw [emk, ewc] at F₆
    clear F F₁ F₂ F₃ F₄ F₅ hat₃ hs₃ hs₄ htu hit hsb
    by_cases hk0 : kd = 0
    · subst hk0
      refine ifYes (wTst (wBin (nmL F₆ rfl (cI fun _ _ => modI (by decide) fun _ _ => cI fun _ _ => eqI ⟨_, rfl, ?_⟩))))
      rw [ekd]
      refine ⟨rfl, ?_⟩
      refine wCons <| wAsg <| Wp.mono1 (Q := fun v s₁ => ∃ q h₇ tk₇, v = .bool q ∧ s₁ = ⟨h₇, G, D, tk₇, O⟩ ∧ Sub h₆ h₇ ∧ (q = false → ss ≠ [])) ?_ fun v s₁ q => ?_
      · refine wOr2 <| wCmp <| nmL F₆ rfl <| cI fun _ _ => eqI ⟨_, rfl, ?_⟩
        by_cases hm : mk = 1
        · subst hm; exact ⟨true, h₆, _, rfl, rfl, .refl _, fun e => nomatch e⟩
        · rw [if_neg (by simp; omega)]
          refine wCmp <| nmL F₆ rfl <| lstM <| ar0 ⟨_, _, rfl, by simp, fun a h₇ ha hs hat => ?_⟩
          refine eqLE room'.units ((F₆.keeps hs).hd2) hat rfl ⟨_, h₇, _, rfl, rfl, hs, fun e => ?_⟩
          rintro rfl
          have := hsn.1
          cases vs with
          | nil => cases e
          | cons v r => simp at this
      obtain ⟨q, h₇, tk₇, rfl, rfl, hs₇, hq⟩ := q
      refine stL (F₆.keeps hs₇) fun h₈ tk₈ F₈ => nx_next ?_
      clear F₆
      have hwl : ∀ i, i < 4 → ∃ c, ([32, 10, 9, 13] : List Nat)[i]? = some c ∧ wh c = true := by decide
      obtain ⟨c1, e1, w1⟩ := hwl (wc % 4) (by omega)
      obtain ⟨c2, e2, w2⟩ := hwl (wc / 4 % 4) (by omega)
      refine wCons <| wAsg <| wBin <| wSub <| cS (l := [32, 10, 9, 13]) rfl fun _ _ => wBin <| nmL F₈ rfl <| cI fun _ _ => modI (by decide) fun _ _ => ?_
      rw [show Int.fmod (wc : Int) 4 = ((wc % 4 : Nat) : Int) from fmodN wc 4]
      refine itS e1 (by decide) fun _ _ => wSub <| cS (l := [32, 10, 9, 13]) rfl fun _ _ => wBin <| wBin <| nmL F₈ rfl <| cI fun _ _ => divI (by decide) (noPy4 _) fun _ _ => cI fun _ _ => modI (by decide) fun _ _ => ?_
      rw [show Int.fdiv (wc : Int) 4 = ((wc / 4 : Nat) : Int) from fdivN wc 4, show Int.fmod ((wc / 4 : Nat) : Int) 4 = ((wc / 4 % 4 : Nat) : Int) from fmodN (wc / 4) 4]
      refine itS e2 (by decide) fun _ _ => addS (by rw [sizeLine_eq]; simp) fun _ _ => stL F₈ fun h₉ tk₉ F₉ => nx_next ?_
      clear F₈
      refine wCons <| Wp.mono1 (Q := fun fl s₁ => ∃ b : List Nat, ∃ t, fl = .next ∧ ∃ h₁₀ tk₁₀, s₁ = ⟨h₁₀, G, D, tk₁₀, O⟩ ∧ (∀ c ∈ b, wh c = true) ∧ (q = true ∧ b.length ≤ 2 ∨ q = false ∧ b.length = 2) ∧
        Fm g' h.objs.size [("behind", .str (ST b) t), ("quoted", .bool q), ("words", .ref aw), ("signs", .ref as), ("numbers", .ref an)] [(it, LI an (i + 1)), (aw, PL vw), (as, PL vs)] h₁₀) (wIf <| wTV <| nmL F₉ rfl <| tB ?_) fun fl s₁ z => ?_
      · have hb : ∀ c ∈ [c1] ++ [c2], wh c = true := by
          intro c hc
          rcases List.mem_append.mp hc with hc | hc <;> rw [List.mem_singleton] at hc <;> subst hc <;> assumption
        cases q with
        | true =>
          rw [if_pos rfl]
          refine wCons <| wAsg <| slT <| nmL F₉ rfl <| wBin <| wBin <| nmL F₉ rfl <| cI fun _ _ => divI (by decide) (noPy16 _) fun _ _ => cI fun _ _ => modI (by decide) fun _ _ => ?_
          rw [show Int.fdiv (wc : Int) 16 = ((wc / 16 : Nat) : Int) from fdivN wc 16, show Int.fmod ((wc / 16 : Nat) : Int) 3 = ((wc / 16 % 3 : Nat) : Int) from fmodN (wc / 16) 3]
          refine ⟨_, _, _, _, _, _, rfl, rfl, rfl, by rw [sizeLine_eq]; simp, fun h₁₀ t' tk' hs => stL (F₉.keeps hs) fun h₁₁ tk₁₁ F₁₁ => nx_next <| wNil ?_⟩
          refine ⟨_, _, rfl, _, _, rfl, fun c hc => hb c (List.mem_of_mem_take hc), .inl ⟨rfl, ?_⟩, F₁₁.only _ (kn1 rfl (kn1 rfl (kn1 rfl (kn1 rfl (kn1 rfl kn0)))))⟩
          exact Nat.le_trans (List.length_take_le' ..) (by simp)
        | false =>
          rw [if_neg (by decide)]
          exact wNil ⟨_, _, rfl, _, _, rfl, hb, .inr ⟨rfl, rfl⟩, F₉.only _ (kn1 rfl (kn1 rfl (kn1 rfl (kn1 rfl (kn1 rfl kn0)))))⟩
      obtain ⟨b, tb, rfl, h₁₀, tk₁₀, rfl, hb, hbq, F₁₀⟩ := z
      refine nx_next <| wCons <| apE <| nmL F₁₀ rfl ⟨_, _, rfl, F₁₀.hd1, tupM <| ar1 <| nmL F₁₀ rfl <| ar1 <| nmL F₁₀ rfl <| ar1 <| nmL F₁₀ rfl <| ar0 ⟨_, _, rfl, by simp, fun a' h₁₁ ha' hs₁₁ hat₁₁ => ?_⟩⟩
      have F₁₁ := F₁₀.newA hs₁₁ ha' hat₁₁
      obtain ⟨g₁, hg₁, G₁, hat₁⟩ := F₁₁.shut
      refine ⟨_, _, _, rfl, G₁.hd1, ?_, fun h₁₂ hat₁₂ hsb₁₂ => ?_⟩
      · have := hw.1; have := wsz_len ws; omega
      have G₂ := G₁.updA1 hat₁₂ hsb₁₂
      refine nx_next <| wCons <| wAsg <| lstM <| ar0 ⟨_, _, rfl, by simp, fun as' h₁₃ has' hs₁₃ hat₁₃ => ?_⟩
      have G₃ := G₂.newA hs₁₃ has' hat₁₃
      refine stL G₃ fun h₁₄ tk₁₄ G₄ => ?_
      refine nx_next <| wNil <| nx_next <| wNil <| go_next ?_
      have G₅ := (G₄.rot4.swap : Fm _ _ _ ((as', PL []) :: (as, PL vs) :: (it, LI an (i + 1)) :: (aw, PL (vw ++ [.ref a'])) :: []) _).swap
      obtain ⟨g₂, hg₂, G₆, hat₂⟩ := G₅.shut
      have G₇ : Fm _ _ _ [(it, LI an (i + 1)), (aw, PL (vw ++ [.ref a'])), (as', PL [])] _ := G₆.unrot3
      have ha0 : h.get? a' = none := (hg.trans F₁₀.sub).none ha'
      have has0 : h.get? as = none := F₁₀.gnone (.tail _ (.tail _ (.head _))) hg
      refine ⟨g₂, aw, as', _, [], ws ++ [⟨q, b, ss⟩], [], hg.trans (hg₁.trans hg₂), G₇.only _ (kn1 rfl (kn1 rfl (kn1 rfl kn0))), (hw.lessW (hg₁.trans hg₂)).snoc ⟨a', _, _, rfl, (hat₁.sub hg₂).lessM ha0, vs, hat₂.lessM has0, hsn.lessS (hg₁.trans hg₂)⟩, .nil, ?_, fun _ hx => (nomatch hx), ?_⟩
      · intro y hy
        rcases List.mem_append.mp hy with hy | hy
        · exact hwo y hy
        · rw [List.mem_singleton] at hy; subst hy
          refine ⟨hso, hb, ?_⟩
          rcases hbq with ⟨rfl, e⟩ | ⟨rfl, e⟩
          · exact .inl ⟨rfl, e⟩
          · exact .inr ⟨rfl, e, hq rfl⟩
      · rw [wsz_snoc]; simp; omega
    · refine ifElse (wTst (wBin (nmL F₆ rfl (cI fun _ _ => modI (by decide) fun _ _ => cI fun _ _ => eqI ⟨_, rfl, ?_⟩))))
      rw [ekd]
      refine ⟨by simpa using hk0, ?_⟩
      refine wCons (asgT room'.2.2 (clU (T.sub (k.trans (hg.trans F₆.sub))) HS (ar1 (wBin (nmL F₆ rfl (cI fun _ _ => modI (by decide) fun _ _ => ar1 (nmL F₆ rfl (ar0 ⟨k.trans (hg.trans F₆.sub), ?_⟩))))))))
      rw [ekd]
      refine sign_spec T HS (k.trans (hg.trans F₆.sub)) room'.depth (by omega) h1 h2 h3 h4 fun a c x h₇ tk₇ t1 t2 ha hs hat hgs => ?_
      have F₇ := F₆.keeps hs
      refine ⟨_, _, _, _, rfl, rfl, hat, rfl, fun h₈ hs₈ => ?_⟩
      have F₈ := F₇.keeps hs₈
      refine ioN (stL F₈ fun h₉ tk₉ F₉ => ioN (stL F₉ fun h₁₀ tk₁₀ F₁₀ => io0 (nx_next ?_)))
      refine wCons (apE (nmL F₁₀ rfl ⟨_, _, rfl, F₁₀.hd2, tupM (ar1 (nmL F₁₀ rfl (ar1 (nmL F₁₀ rfl (ar1 (nmL F₁₀ rfl (ar0 ⟨_, _, rfl, by simp, fun a' h₁₁ ha' hs₁₁ hat₁₁ => ?_⟩)))))))⟩))
      have F₁₁ := F₁₀.newA hs₁₁ ha' hat₁₁
      obtain ⟨g₁, hg₁, G₁, hat₁⟩ := F₁₁.shut
      refine ⟨_, _, _, rfl, G₁.hd2, ?_, fun h₁₂ hat₁₂ hsb₁₂ => ?_⟩
      · have := hsn.1; omega
      have G₂ := G₁.updA2 hat₁₂ hsb₁₂
      refine nx_next (wNil (nx_next (wNil (go_next ?_))))
      refine ⟨g₁, aw, as, vw, _, ws, ss ++ [⟨mk, c, x⟩], hg.trans hg₁, G₂.only _ (kn1 rfl (kn1 rfl (kn1 rfl kn0))), hw.lessW hg₁, (hsn.lessS hg₁).snoc ⟨a', _, _, _, rfl, hat₁.lessM ?_⟩, hwo, ?_, ?_⟩
      · exact (hg.trans F₁₀.sub).none ha'
      · intro y hy
        rcases List.mem_append.mp hy with hy | hy
        · exact hso y hy
        · rw [List.mem_singleton] at hy; subst hy; exact ⟨by show mk ≤ 1; omega, hgs⟩
      · simp; omega
  · rintro it h' h'' tk' ⟨g', aw, as, vw, vs, ws, ss, hg, F, hw, hsn, hwo, hso, hi⟩ hx
    have F₁ := F.drop hx
    have hl : nv.length ≤ 100 := by rw [hv.1]; exact hlen
    have hss : vs.isEmpty = ss.isEmpty := by
      have := hsn.1
      cases vs <;> cases ss <;> simp at this ⊢
    clear F
    have fin : ∀ (wl : Wd) (a' : Addr) (t : Tok) (h₁ h₂ : Heap) (tk₂ : Nat) (Q' : Flow → Shared → Prop), (h₁.get? a' = none) → Sub h'' h₁ → Sub h₁ h₂ → At h₂ a' (TU [.bool wl.q, .str (ST wl.b) t, .ref as]) → wl.s = ss → WdEnd wl →
        ∃ h₃ tk₃ vs', (⟨h₂, G, D, tk₂, O⟩ : Shared) = ⟨h₃, G, D, tk₃, O⟩ ∧ At h₃ aw (PL vs') ∧ vs'.length ≤ 10000 ∧ ∀ h₄, At h₄ aw (PL (vs' ++ [.ref a'])) → Heap.SameBut aw h₃ h₄ →
          ∃ g₁, Fm g₁ h.objs.size [("words", .ref aw)] [] h₄ ∧ Sub h g₁ ∧ WdsAt (less g₁ h) aw (ws ++ [wl]) := by
      intro wl a' t h₁ h₂ tk₂ Q' ha' hs hs' hat hws hwe
      have F₂ := (F₁.keeps hs).newA hs' ha' hat
      refine ⟨h₂, tk₂, vw, rfl, F₂.hd1, ?_, fun h₄ hat₄ hsb => ?_⟩
      · have := hw.1; have := wsz_len ws; omega
      have F₃ := F₂.updA1 hat₄ hsb
      obtain ⟨g₁, hg₁, G₁, k₁⟩ := F₃.shut
      obtain ⟨g₂, hg₂, G₂, k₂⟩ := G₁.shut
      obtain ⟨g₃, hg₃, G₃, k₃⟩ := G₂.shut
      have hga := hg₁.trans (hg₂.trans hg₃)
      have ha0 : h.get? a' = none := (hg.trans (F₁.keeps hs).sub).none ha'
      have haw0 : h.get? aw = none := F₁.gnone (.head _) hg
      have has0 : h.get? as = none := F₁.gnone (.tail _ (.head _)) hg
      refine ⟨g₃, G₃.only _ (kn1 rfl kn0), hg.trans hga, _, (k₂.sub hg₃).lessM haw0, (hw.lessW hga).snoc ⟨a', _, _, rfl, (k₁.sub (hg₂.trans hg₃)).lessM ha0, vs, k₃.lessM has0, by rw [hws]; exact hsn.lessS hga⟩⟩
    have done : ∀ (wl : Wd) (h₄ : Heap) (tk₄ : Nat) (g₁ : Heap), Fm g₁ h.objs.size [("words", .ref aw)] [] h₄ → Sub h g₁ → WdsAt (less g₁ h) aw (ws ++ [wl]) → WdEnd wl → wl.s = ss → Q (.ref aw) ⟨h₄, G, D, tk₄, O⟩ := by
      intro wl h₄ tk₄ g₁ X hs hws hwe hl
      refine hQ _ ws wl _ _ (less g₁ h) (hs.trans X.sub) ((less_sub _ _).trans X.sub) (fun b o e => less_off e) hws hwo hwe ?_
      rw [wsz_snoc, hl]
      have := hv.1
      omega
    refine nx_next <| wCons <| wIf <| Wp.mono1 (Q := fun c s₁ => ∃ h₁ tk₁, s₁ = ⟨h₁, G, D, tk₁, O⟩ ∧ Sub h'' h₁ ∧ (c = false → ss ≠ [])) ?_ fun c s₁ z => ?_
    · refine wTBo <| wOr1 <| wTst <| wBin <| clB (T.sub (k.trans (hg.trans F₁.sub))) h3 h4 <| ar1 <| nmL F₁ rfl <| ar0 <| lenL (hn.sub (hg.trans F₁.sub)) (by omega) fun _ _ => cI fun _ _ => modI (by decide) fun _ _ => cI fun _ _ => eqI ⟨_, rfl, ?_⟩
      split
      · exact ⟨_, _, rfl, .refl _, fun e => nomatch e⟩
      · refine wOr1 <| wTst <| nmL F₁ rfl <| lstM <| ar0 ⟨_, _, rfl, by simp, fun a h₁ ha hs hat => ?_⟩
        refine eqLE room'.units ((F₁.keeps hs).hd1) hat rfl ⟨_, rfl, ?_⟩
        rw [hss]
        cases hse : ss.isEmpty
        · exact wOr0 ⟨_, _, rfl, hs, fun _ e => by subst e; cases hse⟩
        · exact ⟨_, _, rfl, hs, fun e => nomatch e⟩
    obtain ⟨h₁, tk₁, rfl, hs₁, hc⟩ := z
    have F₂ := F₁.keeps hs₁
    cases c with
    | true =>
      rw [if_pos rfl]
      refine wCons <| apE <| nmL F₂ rfl ⟨_, _, rfl, F₂.hd, tupM <| ar1 <| cB <| ar1 <| cS (l := []) rfl fun _ _ => ar1 <| nmL F₂ rfl <| ar0 ⟨_, _, rfl, by simp, fun a' h₂ ha' hs₂ hat₂ => ?_⟩⟩
      have hwe : WdEnd ⟨true, [], ss⟩ := ⟨hso, fun _ hx => (nomatch hx), .inl ⟨rfl, rfl⟩⟩
      obtain ⟨h₃, tk₃, vs', e, p1, p2, p3⟩ := fin ⟨true, [], ss⟩ a' _ h₁ h₂ _ (fun _ _ => True) ha' hs₁ hs₂ hat₂ rfl hwe
      refine ⟨h₃, tk₃, vs', e, p1, p2, fun h₄ q1 q2 => ?_⟩
      obtain ⟨g₁, Y, y1, y2⟩ := p3 h₄ q1 q2
      exact nx_next <| wNil <| nx_next <| wCons <| wRet <| nmL Y rfl <| nx_ret <| done _ _ _ _ Y y1 y2 hwe rfl
    | false =>
      rw [if_neg (by decide)]
      refine wCons <| apE <| nmL F₂ rfl ⟨_, _, rfl, F₂.hd, tupM <| ar1 <| cB <| ar1 <| slT <| cS (l := [10, 13]) rfl fun _ _ => wBin <| clB (T.sub (k.trans (hg.trans F₂.sub))) h3 h4 <| ar1 <| nmL F₂ rfl <| ar0 <| lenL (hn.sub (hg.trans F₂.sub)) (by omega) fun _ _ => cI fun _ _ => modI (by decide) fun _ _ => ?_⟩
      rw [show Int.fmod (nv.length : Int) 3 = ((nv.length % 3 : Nat) : Int) from fmodN nv.length 3]
      refine ⟨_, _, _, _, _, _, rfl, rfl, rfl, by rw [sizeLine_eq]; simp, fun h₅ t' tk' hs => ?_⟩
      have F₃ := F₂.keeps hs
      refine ar1 <| nmL F₃ rfl <| ar0 ⟨_, _, rfl, by simp, fun a' h₂ ha' hs₂ hat₂ => ?_⟩
      have hwe : WdEnd ⟨false, List.take (nv.length % 3) [10, 13], ss⟩ := ⟨hso, fun c hx => by
          have : c ∈ [10, 13] := List.mem_of_mem_take hx
          clear hx; revert c; decide, .inr ⟨rfl, Nat.le_trans (List.length_take_le' ..) (by simp), hc rfl⟩⟩
      obtain ⟨h₃, tk₃, vs', e, p1, p2, p3⟩ := fin ⟨false, List.take (nv.length % 3) [10, 13], ss⟩ a' _ h₅ h₂ _ (fun _ _ => True) ha' (hs₁.trans hs) hs₂ hat₂ rfl hwe
      refine ⟨h₃, tk₃, vs', e, p1, p2, fun h₄ q1 q2 => ?_⟩
      obtain ⟨g₁, Y, y1, y2⟩ := p3 h₄ q1 q2
      exact nx_next <| wNil <| nx_next <| wCons <| wRet <| nmL Y rfl <| nx_ret <| done _ _ _ _ Y y1 y2 hwe rfl
end
end Mine
end
/-! ## Rg -/
section
open PySem PySem.W PyProof.Rows PySem.Calls
namespace Mine
/-! range -/
def RI (i n : Nat) : Pd := fun o => o = { cls := .type "range_iterator", dict := none, data := .fields #[rawInt i, rawInt ((n : Int) - i), rawInt 1], slots := #[] }
def RG (n : Nat) : Pd := fun o => ∃ t u v, o = { cls := .type "range", dict := none, data := .fields #[.int 0 t, .int n u, .int 1 v], slots := #[] }
section
variable {w : World} {A : Around} {h : Heap} {G : Array GenState} {D : Drawn} {tk : Nat} {O : OsState} {env : Env} {g : Heap} {l : List (Str × Value)} {M : List (Addr × Pd)} {mg mb : Str → Option Value} {Q : Value → Shared → Prop} {E : Value → Shared → Prop}
/-- a type of the table of names is called -/
theorem clT {x : Str} {p pos : Pos} {id : String} {e : Expr} {args : List Expr} (T : Tf mg mb h) (hm : mg x = none) (hv : mb x = some (.type id))
    (k : Wp w A (spliced (backTo pos (starEach (e :: args) env))) (fun vs s₁ => Wp w A (call (.type id) vs) Q E s₁) E ⟨h, G, D, tk, O⟩)
    (hp : (backTo pos (starEach (e :: args) env)).any (·.1) = false := by rfl) (hs : starEach (e :: args) env = (false, eval e env) :: starEach args env := by rfl)
    (hg : env.globals = mainGlobals := by rfl) (hb : env.builtins = builtinsNs := by rfl) (hk : env.scope.kind = .function := by rfl) (hl : env.kindOf x = some .globalImplicit := by rfl) (hd : (x == ("__debug__" : Str)) = false := by decide) :
    Wp w A (eval (.Call (.Name x p) (e :: args) [] pos) env) Q E ⟨h, G, D, tk, O⟩ := by
  have c : Wp w A (callWith pos (.type id) [] (backTo pos (starEach (e :: args) env)) []) Q E ⟨h, G, D, tk, O⟩ := by
    simp only [Wp_eq] at *
    refine PyProof.Rows.callWith_type hp ?_
    rw [hs] at k ⊢
    exact evalArgs_plain (wpAny_mono k (fun vs s' q => q) fun _ _ q => q)
  have z := nmB (w := w) (A := A) (E := E) (G := G) (D := D) (tk := tk) (O := O) (pos := p) (Q := fun f s₁ => Wp w A (callWith pos f [] (backTo pos (starEach (e :: args) env)) []) Q E s₁) T hm hv c hg hb hk hl hd
  simp only [Wp_eq] at *
  exact wpAny_Call_NameR z
theorem rgN {n : Nat} {t : Tok} (k : ∀ a h' tk', h.get? a = none → Sub h h' → At h' a (RG n) → Q (.ref a) ⟨h', G, D, tk', O⟩) : Wp w A (call (.type "range") [.int n t]) Q E ⟨h, G, D, tk, O⟩ := by
  rw [Wp_eq]
  exact call_range_1 (k _ _ _ (fresh_none _) (sub_push _ _) ⟨_, Heap.get?_push_size _ rfl, _, _, _, rfl⟩)
theorem forR {target iter : Expr} {body : List Stmt} {pos : Pos} {Q : Flow → Shared → Prop} (hh : A.handled = none)
    (k : Wp w A (eval iter env) (fun v s₁ => ∃ h₁ tk₁ a n, s₁ = ⟨h₁, G, D, tk₁, O⟩ ∧ v = .ref a ∧ At h₁ a (RG n) ∧ n < 2 ^ 62 ∧ ∃ J : Addr → Nat → Heap → Prop,
      (∀ it h', h₁.get? it = none → Sub h₁ h' → At h' it (RI 0 n) → J it 0 h') ∧
      (∀ it i h, J it i h → At h it (RI i n)) ∧
      (∀ it i h h' tk t, J it i h → i < n → At h' it (RI (i + 1) n) → Heap.SameBut it h h' →
        Wp w A (letOwnedTupleGo target (.ref it) (.int i t)) (fun _ s₁ => Wp w A (assign target env (.int i t)) (fun _ s₂ => Wp w A (execs body env) (Go G D O Q (J it (i + 1))) NoE s₂) NoE s₁) NoE ⟨h', G, D, tk, O⟩) ∧
      (∀ it h h' tk, J it n h → Heap.ExtBut it h h' → Q .next ⟨h', G, D, tk, O⟩)) NoE ⟨h, G, D, tk, O⟩)
    (hs : ∀ x, foldedSetIterable iter env x = pure x := by intro _; rfl) :
    Wp w A (exec (.For target iter body [] pos) env) Q NoE ⟨h, G, D, tk, O⟩ := by
  simp only [Wp_eq] at *
  refine wpAny_For (wpAny_mono k (fun v s₁ q => ?_) fun _ _ e => e.elim) hs
  obtain ⟨h₁, tk₁, a, n, rfl, rfl, ⟨o, hat, t, u, v, rfl⟩, hn, J, j0, jat, jturn, jfin⟩ := q
  have hsz : Builtin.Range.rangeSize 0 (n : Int) 1 = n := by rw [rangeSize_one]; split <;> omega
  refine wpAny_pyIter_range (s := ⟨h₁, G, D, tk₁, O⟩) hat (small_one (by omega) (by omega) (by omega) (by omega)) ?_
  rw [hsz]
  have start : J h₁.objs.size 0 (h₁.push { cls := .type "range_iterator", data := .fields #[rawInt 0, rawInt n, rawInt 1] }) := j0 _ _ (fresh_none _) (sub_push _ _) ⟨_, Heap.get?_push_size _ rfl, by simp [RI]⟩
  generalize h₁.objs.size = it at start ⊢
  generalize (h₁.push { cls := .type "range_iterator", data := .fields #[rawInt 0, rawInt n, rawInt 1] }) = hp at start ⊢
  refine codeAny_forLoop_any (fun m s => ∃ i h tk, s = ⟨h, G, D, tk, O⟩ ∧ J it i h ∧ i ≤ n ∧ m = n - i) ?_ n ⟨0, hp, _, rfl, start, Nat.zero_le _, rfl⟩
  rintro m s ⟨i, hi, tki, rfl, hJ, hle, rfl⟩
  obtain ⟨o, e, rfl⟩ := jat it i hi hJ
  by_cases hlt : i < n
  · refine wpAny_pyNext_range_item (s := ⟨hi, G, D, tki, O⟩) e (by omega) fun h' hit' hsb => ?_
    have z := jturn it i hi h' (tki + 1) tki hJ hlt ⟨_, hit', by unfold RI; rw [show ((n : Int) - ((i + 1 : Nat) : Int)) = (n : Int) - i - 1 by omega]; rfl⟩ hsb
    refine wpAny_mono z (fun _ s₁ z₁ => wpAny_mono z₁ (fun _ s₂ z₂ => wpAny_mono z₂ (fun f s₃ z₃ => ?_) fun _ _ e => e.elim) fun _ _ e => e.elim) fun _ _ e => e.elim
    cases f with
    | next => obtain ⟨h₃, tk₃, rfl, q⟩ := z₃; exact ⟨_, by omega, i + 1, h₃, tk₃, rfl, q, hlt, rfl⟩
    | cont => obtain ⟨h₃, tk₃, rfl, q⟩ := z₃; exact ⟨_, by omega, i + 1, h₃, tk₃, rfl, q, hlt, rfl⟩
    | brk => exact z₃
    | ret v => exact z₃
  · obtain rfl : i = n := by omega
    refine wpAny_pyNext_range_end (s := ⟨hi, G, D, tki, O⟩) hh e (by omega) fun h' he => ?_
    exact wpAny_execs_nil (jfin it hi h' tki hJ he)
/-! or, longer -/
theorem wOrL {x : Expr} {pos : Pos} {s : Shared} (k : Wp w A (eval x env) Q E s) : Wp w A (eval (.BoolOp .Or [x] pos) env) Q E s := by
  rw [Wp_eq] at *
  show wpAny _ A (boolOp pos .Or [eval x env]) Q E s
  exact k
theorem wOrC {x y : Expr} {r : List Expr} {pos : Pos} {s : Shared} (k : Wp w A (eval x env) (fun v s₁ => ∃ b, v = .bool b ∧ if b then Q v s₁ else Wp w A (eval (.BoolOp .Or (y :: r) pos) env) Q E s₁) E s) : Wp w A (eval (.BoolOp .Or (x :: y :: r) pos) env) Q E s := by
  simp only [Wp_eq] at *
  show wpAny _ A (do
    let v ← eval x env
    standAt pos
    let t ← holding [v] (truthy v)
    match BoolOp.Or, t with
    | .And, false | .Or, true => pure v
    | _, _ => boolOp pos .Or (evalEach (y :: r) env)) Q E s
  refine wpAny_bind (wpAny_mono k (fun v s₁ h₁ => ?_) fun _ _ x => x)
  obtain ⟨b, rfl, h₁⟩ := h₁
  refine wpAny_bind (wpAny_standAt (wpAny_bind (wpAny_holding (wpAny_truthy_bool ?_))))
  cases b with
  | false => exact h₁
  | true => exact wpAny_pure h₁
/-! texts -/
theorem inS {c : Nat} {x : List Nat} {t u : Tok} {s : Shared} (k : Q (.bool (x.contains c)) s) : Wp w A (compareOp .In (.str (ST [c]) u) (.str (ST x) t)) Q E s := by
  rw [Wp_eq]
  refine P.in_str ?_
  have : (!(Builtin.Str.occurrences (ST x) (ST [c]) 0 (ST x).length 1).isEmpty) = x.contains c := by
    rw [show ST [c] = ⟨#[c]⟩ from rfl, StrLaws.found_one]
    rw [Bool.eq_iff_iff]; simp
  rw [this]; exact k
theorem mulS {c n : Nat} {t u : Tok} (hn : n ≤ 10000) (k : ∀ t' tk', Q (.str (ST (List.replicate n c)) t') ⟨h, G, D, tk', O⟩) : Wp w A (binaryOp .Mult (.str (ST [c]) t) (.int n u)) Q E ⟨h, G, D, tk, O⟩ := by
  rw [Wp_eq]
  refine SB.mul (mulOk_of 1 10000 (by rw [ST_len]; simp) (by omega) (by omega) (by decide) (by decide)) fun t' tk' => ?_
  have : Txt.mul (ST [c]) (n : Int) = ST (List.replicate n c) := by
    obtain ⟨z, hz⟩ := ST_of (Txt.mul (ST [c]) (n : Int))
    have := mul_one_list c (n : Int)
    rw [show (⟨#[c]⟩ : Str) = ST [c] from rfl, hz] at this
    rw [hz]
    simp at this
    rw [this]
  rw [this]; exact k _ _
end
end Mine
end
/-! ## Mk -/
section
open PySem PySem.W PyProof.Rows PySem.Calls
namespace Mine
def need (q : Bool) (p : Option Sn) (x : Sn) : Bool := match q with
  | true => ([34, 92].contains x.c) || (x.m == 1 && x.f != [])
  | false => match x.c == 34 with
    | true => x.m == 1 || match p with
      | none => true
      | some y => y.f == [] || [32, 10, 9, 13].contains y.c
    | false => x.m == 1 || [32, 10, 9, 13, 92].contains x.c
def prevOf (ss : List Sn) (k : Nat) : Option Sn := match k with
  | 0 => none
  | k + 1 => ss[k]?
def markAt (q : Bool) (ss : List Sn) (k : Nat) : Nat := match ss[k]? with
  | some x => (need q (prevOf ss k) x).toNat
  | none => 0
def marksOf (q : Bool) (ss : List Sn) : List Nat := (List.range ss.length).map (markAt q ss)
def NI (v : Value) (n : Nat) : Prop := ∃ t, v = .int n t
theorem marksOf_len (q : Bool) (ss : List Sn) : (marksOf q ss).length = ss.length := by simp [marksOf]
section
variable {w : World} {A : Around} {E : Value → Shared → Prop} {h : Heap} {G : Array GenState} {D : Drawn} {tk : Nat} {O : OsState} {g : Heap} {mg mb : Str → Option Value}
def MInv (h₀ : Heap) (L sa : Addr) (q : Bool) (ss : List Sn) (it : Addr) (i : Nat) (h : Heap) : Prop :=
  ∃ am mv, Fm h₀ L [("marks", .ref am), ("signs", .ref sa), ("quoted", .bool q)] [(it, RI i ss.length), (am, PL mv)] h ∧ A2 NI mv ((List.range i).map (markAt q ss))
set_option maxHeartbeats 4000000 in
theorem marks_spec {f sa : Addr} {q : Bool} {ss : List Sn} {Q : Value → Shared → Prop} (T : Tf mg mb g) (H : Fn g mg 12 "_law_marks" f) (k : Sub g h) (room : Room A 2)
   (h3 : mg "len" = none) (h4 : mb "len" = some (.builtin "len")) (h5 : mg "range" = none) (h6 : mb "range" = some (.type "range")) (hs : SnsAt h sa ss) (hl : ss.length ≤ 1000)
   (hQ : ∀ a mv h' tk', h.get? a = none → Sub h h' → At h' a (PL mv) → A2 NI mv (marksOf q ss) → Q (.ref a) ⟨h', G, D, tk', O⟩) :
   Wp w A (call (.ref f) [.bool q, .ref sa]) Q E ⟨h, G, D, tk, O⟩ := by
  obtain ⟨sv, hsa, hsv⟩ := hs
  refine enter [("signs", .ref sa), ("quoted", .bool q)] T H k room.depth fun h₁ cd tk₁ X => ?_
  have room' := room.deeper (n := 1) (env := envOf "_law_marks" (fnAt 12).2.2 h.objs.size f (.ref cd))
  refine wCons <| wAsg <| lstM <| ar0 ⟨_, _, rfl, by simp, fun am h₂ ham hs₂ hat₂ => stL (X.newA hs₂ ham hat₂) fun h₃ tk₃ X₃ => nx_next ?_⟩
  clear X
  have k₃ := k.trans X₃.sub
  refine wCons <| forR room'.2.2 <| clT (T.sub k₃) h5 h6 <| ar1 <| clB (T.sub k₃) h3 h4 <| ar1 <| nmL X₃ rfl <| ar0 <| lenL (hsa.sub X₃.sub) (by rw [hsv.1]; omega) fun _ _ => ar0 <| rgN fun ra h₄ tk₄ hra hs₄ hat₄ => ?_
  rw [hsv.1] at hat₄
  have X₄ := X₃.keeps hs₄
  refine ⟨_, _, _, _, rfl, rfl, hat₄, by omega, MInv h h.objs.size sa q ss, ?_, ?_, ?_, ?_⟩
  · intro it h' hit hs hat
    exact ⟨am, [], X₄.newA hs hit hat, .nil⟩
  · rintro it i h' ⟨am, mv, F, -⟩
    exact F.hd
  · rintro it i h' h'' tk' t ⟨am, mv, F, hm⟩ hi hit hsb
    have F₁ := F.updA hit hsb
    refine ltN <| asN <| stL F₁ fun h₂ tk₂ F₂ => ?_
    obtain ⟨x, hx⟩ : ∃ x, ss[i]? = some x := ⟨ss[i], by simp [hi]⟩
    obtain ⟨v, hv, sx, t1, t2, t3, rfl, hat⟩ := hsv.get hx
    refine wCons <| asgT room'.2.2 <| wSub <| nmL F₂ rfl <| nmL F₂ rfl <| itL (hsa.sub F₂.sub) hv (by omega) ⟨_, _, _, _, rfl, rfl, hat.sub F₂.sub, rfl, fun h₃ hs₃ => ?_⟩
    have F₃ := F₂.keeps hs₃
    refine ioN <| stL F₃ fun h₄ tk₄ F₄ => ioN <| stL F₄ fun h₅ tk₅ F₅ => ioN <| stL F₅ fun h₆ tk₆ F₆ => io0 <| nx_next ?_
    clear F F₁ F₂ F₃ F₄ F₅ hit hsb
    refine wCons <| Wp.mono1 (Q := fun fl s₁ => fl = .next ∧ ∃ h₁₀ tk₁₀, s₁ = ⟨h₁₀, G, D, tk₁₀, O⟩ ∧
        Fm h h.objs.size [("needed", .bool (need q (prevOf ss i) x)), ("marks", .ref am), ("signs", .ref sa), ("quoted", .bool q)] [(it, RI (i + 1) ss.length), (am, PL mv)] h₁₀) (wIf <| wTV <| nmL F₆ rfl <| tB ?_) fun fl s₁ z => ?_
    · have fin : ∀ tk, Wp w (A.deeper (envOf "_law_marks" (fnAt 12).2.2 h.objs.size f (.ref cd))) (storeName (envOf "_law_marks" (fnAt 12).2.2 h.objs.size f (.ref cd)) "needed" (.bool (need q (prevOf ss i) x)))
          (fun _ s₁ => ∃ h₁₀ tk₁₀, s₁ = ⟨h₁₀, G, D, tk₁₀, O⟩ ∧ Fm h h.objs.size [("needed", .bool (need q (prevOf ss i) x)), ("marks", .ref am), ("signs", .ref sa), ("quoted", .bool q)] [(it, RI (i + 1) ss.length), (am, PL mv)] h₁₀) NoE ⟨h₆, G, D, tk, O⟩ := fun tk =>
        stL F₆ fun h₇ tk₇ F₇ => ⟨_, _, rfl, F₇.only _ (kn1 rfl (kn1 rfl (kn1 rfl (kn1 rfl kn0))))⟩
      cases q with
      | true =>
        rw [if_pos rfl]
        refine wCons <| wAsg <| Wp.mono1 (Q := fun v s₁ => v = .bool (need true (prevOf ss i) x) ∧ ∃ tk₁, s₁ = ⟨h₆, G, D, tk₁, O⟩) ?_ ?_
        · refine wOr2 <| wCmp <| nmL F₆ rfl <| cS (l := [34, 92]) rfl fun _ _ => inS ⟨_, rfl, ?_⟩
          unfold need
          cases hc : [34, 92].contains x.c with
          | true => exact ⟨rfl, _, rfl⟩
          | false =>
            rw [if_neg (by decide)]
            refine wAnd2 <| wCmp <| nmL F₆ rfl <| cI fun _ _ => eqI ⟨_, rfl, ?_⟩
            have e1 : ((x.m : Int) == 1) = (x.m == 1) := by rw [Bool.eq_iff_iff]; simp; omega
            rw [e1]
            cases hm1 : x.m == 1 with
            | true => exact wCmp <| nmL F₆ rfl <| cS (l := []) rfl fun _ _ => neS ⟨rfl, _, rfl⟩
            | false => exact ⟨rfl, _, rfl⟩
        · rintro v s₁ ⟨rfl, tk₁, rfl⟩
          exact (fin _).mono1 fun _ s₂ z => nx_next <| wNil ⟨rfl, z⟩
      | false =>
        rw [if_neg (by decide)]
        have e1 : ((x.m : Int) == 1) = (x.m == 1) := by rw [Bool.eq_iff_iff]; simp; omega
        refine wCons <| wIf <| wTst <| nmL F₆ rfl <| cS (l := [34]) rfl fun _ _ => eqS ⟨_, rfl, ?_⟩
        have e2 : ([x.c] == [34]) = (x.c == 34) := by rw [Bool.eq_iff_iff]; simp
        rw [e2]
        cases hc : x.c == 34 with
        | true =>
          rw [if_pos rfl]
          refine wCons <| wAsg <| Wp.mono1 (Q := fun v s₁ => v = .bool (need false (prevOf ss i) x) ∧ ∃ tk₁, s₁ = ⟨h₆, G, D, tk₁, O⟩) ?_ ?_
          · unfold need
            rw [hc]
            dsimp only
            refine wOrC <| wCmp <| nmL F₆ rfl <| cI fun _ _ => eqI ⟨_, rfl, ?_⟩
            rw [e1]
            cases hm1 : x.m == 1 with
            | true => exact ⟨rfl, _, rfl⟩
            | false =>
              rw [if_neg (by decide)]
              refine wOrC <| wCmp <| nmL F₆ rfl <| cI fun _ _ => eqI ⟨_, rfl, ?_⟩
              cases i with
              | zero => exact ⟨rfl, _, rfl⟩
              | succ j =>
                have e3 : (((j + 1 : Nat) : Int) == 0) = false := by rw [Bool.eq_false_iff]; simp; omega
                rw [e3, if_neg (by decide)]
                obtain ⟨y, hy⟩ : ∃ y, ss[j]? = some y := ⟨ss[j], by simp⟩
                obtain ⟨v', hv', sy, u1, u2, u3, rfl, haty⟩ := hsv.get hy
                rw [show prevOf ss (j + 1) = some y from hy]
                have e4 : (((j + 1 : Nat) : Int) - 1) = ((j : Nat) : Int) := by omega
                refine wOrC <| wCmp <| wSub <| wSub <| nmL F₆ rfl <| wBin <| nmL F₆ rfl <| cI fun _ _ => subI fun _ _ => ?_
                rw [e4]
                refine itL (hsa.sub F₆.sub) hv' (by omega) <| cI fun _ _ => itT (i := 2) (haty.sub F₆.sub) rfl (by decide) <| cS (l := []) rfl fun _ _ => eqS ⟨_, rfl, ?_⟩
                dsimp only
                cases hf : y.f == [] with
                | true => exact ⟨rfl, _, rfl⟩
                | false =>
                  rw [if_neg (by decide)]
                  refine wOrL <| wCmp <| wSub <| wSub <| nmL F₆ rfl <| wBin <| nmL F₆ rfl <| cI fun _ _ => subI fun _ _ => ?_
                  rw [e4]
                  refine itL (hsa.sub F₆.sub) hv' (by omega) <| cI fun _ _ => itT (i := 1) (haty.sub F₆.sub) rfl (by decide) <| cS (l := [32, 10, 9, 13]) rfl fun _ _ => inS ⟨by simp, _, rfl⟩
          · rintro v s₁ ⟨rfl, tk₁, rfl⟩
            exact (fin _).mono1 fun _ s₂ z => nx_next <| wNil <| nx_next <| wNil ⟨rfl, z⟩
        | false =>
          rw [if_neg (by decide)]
          refine wCons <| wAsg <| Wp.mono1 (Q := fun v s₁ => v = .bool (need false (prevOf ss i) x) ∧ ∃ tk₁, s₁ = ⟨h₆, G, D, tk₁, O⟩) ?_ ?_
          · unfold need
            rw [hc]
            dsimp only
            refine wOr2 <| wCmp <| nmL F₆ rfl <| cI fun _ _ => eqI ⟨_, rfl, ?_⟩
            rw [e1]
            cases hm1 : x.m == 1 with
            | true => exact ⟨rfl, _, rfl⟩
            | false =>
              rw [if_neg (by decide)]
              exact wCmp <| nmL F₆ rfl <| cS (l := [32, 10, 9, 13, 92]) rfl fun _ _ => inS ⟨rfl, _, rfl⟩
          · rintro v s₁ ⟨rfl, tk₁, rfl⟩
            exact (fin _).mono1 fun _ s₂ z => nx_next <| wNil <| nx_next <| wNil ⟨rfl, z⟩
    · obtain ⟨rfl, h₇, tk₇, rfl, F₇⟩ := z
      refine nx_next <| wCons <| apE <| nmL F₇ rfl ⟨_, _, rfl, F₇.hd1, wIfE <| wTV <| nmL F₇ rfl <| tB ?_⟩
      have key : ∀ u tk, ∃ h₂ tk₂ vs, (⟨h₇, G, D, tk, O⟩ : Shared) = ⟨h₂, G, D, tk₂, O⟩ ∧ At h₂ am (PL vs) ∧ vs.length ≤ 10000 ∧ ∀ h', At h' am (PL (vs ++ [.int (markAt q ss i) u])) → Heap.SameBut am h₂ h' →
          MInv h h.objs.size sa q ss it (i + 1) h' := by
        intro u tk
        refine ⟨_, _, _, rfl, F₇.hd1, ?_, fun h₈ hat₈ hsb₈ => ?_⟩
        · have := hm.1; simp at this; omega
        refine ⟨am, _, (F₇.updA1 hat₈ hsb₈).only _ (kn1 rfl (kn1 rfl (kn1 rfl kn0))), ?_⟩
        rw [List.range_succ, List.map_append]
        exact hm.snoc ⟨u, rfl⟩
      have em : markAt q ss i = (need q (prevOf ss i) x).toNat := by unfold markAt; rw [hx]
      cases hn : need q (prevOf ss i) x with
      | true =>
        rw [if_pos rfl]
        refine cI fun u tk => ?_
        obtain ⟨h₂, tk₂, vs, e, a, b, c⟩ := key u tk
        refine ⟨h₂, tk₂, vs, e, a, b, fun h' x y => nx_next <| wNil <| go_next <| c h' ?_ y⟩
        rw [em, hn]; exact x
      | false =>
        rw [if_neg (by decide)]
        refine cI fun u tk => ?_
        obtain ⟨h₂, tk₂, vs, e, a, b, c⟩ := key u tk
        refine ⟨h₂, tk₂, vs, e, a, b, fun h' x y => nx_next <| wNil <| go_next <| c h' ?_ y⟩
        rw [em, hn]; exact x
  · rintro it h' h'' tk' ⟨am, mv, F, hm⟩ hx
    have F₁ := F.drop hx
    exact nx_next <| wCons <| wRet <| nmL F₁ rfl <| nx_ret <| hQ am mv _ _ (F₁.gnone (.head _) (.refl _)) F₁.sub F₁.hd hm
end
end Mine
end
/-! ## Pt -/
section
open PySem PySem.W PyProof.Rows PySem.Calls
namespace Mine
structure PS where
  P : List (List Nat × Nat)
  tok : List Nat
  ah : Nat
  at' : Nat
def pstep (s : PS) (z : Sn × Nat) : PS := match z.1.c == 92 with
  | true => ⟨s.P, s.tok, s.ah + z.2 + 1, s.at' + z.2 + 1⟩
  | false => match z.1.f with
    | [] => ⟨s.P, s.tok, s.ah + z.2, s.at' + z.2⟩
    | y :: t => match (s.ah + z.2) % 2 == 0 && [32, 10, 9, 13].contains y with
      | true => ⟨match s.tok ++ List.replicate ((s.ah + z.2) / 2) 92 with
        | [] => s.P
        | c :: r => s.P ++ [(c :: r, s.at' + z.2 + 1)], t, 0, s.at' + z.2 + (y :: t).length⟩
      | false => ⟨s.P, s.tok ++ List.replicate ((s.ah + z.2) / 2) 92 ++ (y :: t), 0, s.at' + z.2 + (y :: t).length⟩
def pend (b : List Nat) (s : PS) : List (List Nat × Nat) := match s.tok ++ (List.replicate (s.ah / 2) 92 ++ b.take (s.ah % 2)) with
  | [] => s.P
  | c :: r => s.P ++ [(c :: r, s.at' + (b.take (1 + s.ah % 2)).length)]
def partsOf (ss : List Sn) (ms : List Nat) (b : List Nat) : List (List Nat × Nat) := pend b ((ss.zip ms).foldl pstep ⟨[], [], 0, 0⟩)
def PtAt (h : Heap) (v : Value) (p : List Nat × Nat) : Prop := ∃ a t u, v = .ref a ∧ At h a (TU [.str (ST p.1) t, .int p.2 u])
theorem PtAt.sub {g h : Heap} {v : Value} {p : List Nat × Nat} (k : Sub g h) (y : PtAt g v p) : PtAt h v p := let ⟨a, t, u, e, z⟩ := y; ⟨a, t, u, e, z.sub k⟩
def PtsAt (h : Heap) (a : Addr) (ps : List (List Nat × Nat)) : Prop := ∃ vs, At h a (PL vs) ∧ A2 (PtAt h) vs ps
theorem PtsAt.sub {g h : Heap} {a : Addr} {x : List (List Nat × Nat)} (k : Sub g h) (y : PtsAt g a x) : PtsAt h a x := let ⟨vs, p, q⟩ := y; ⟨vs, p.sub k, q.mono fun _ _ => PtAt.sub k⟩
theorem A2.lessP {g g' h₀ : Heap} {vw : List Value} {ws : List (List Nat × Nat)} (k : Sub g g') (x : A2 (PtAt (less g h₀)) vw ws) : A2 (PtAt (less g' h₀)) vw ws := x.mono fun _ _ => PtAt.sub (k.lessM h₀)
/-- the state before sign i -/
def pst (ss : List Sn) (ms : List Nat) (i : Nat) : PS := ((ss.zip ms).take i).foldl pstep ⟨[], [], 0, 0⟩
theorem pst_succ {ss : List Sn} {ms : List Nat} {i m : Nat} {x : Sn} (h1 : ss[i]? = some x) (h2 : ms[i]? = some m) : pst ss ms (i + 1) = pstep (pst ss ms i) (x, m) := by
  unfold pst
  have : (ss.zip ms)[i]? = some (x, m) := by rw [List.getElem?_zip_eq_some]; exact ⟨h1, h2⟩
  rw [List.take_add_one, this, List.foldl_append]; rfl
theorem pst_end (ss : List Sn) (ms : List Nat) (i : Nat) (h : ss.length ≤ i) : pst ss ms i = (ss.zip ms).foldl pstep ⟨[], [], 0, 0⟩ := by
  unfold pst; rw [List.take_of_length_le]; rw [List.length_zip]; omega
/-- sizes -/
def PSz (s : PS) (i : Nat) : Prop := s.tok.length + s.ah ≤ 12 * i ∧ s.P.length ≤ i
theorem pstep_sz {s : PS} {i m : Nat} {x : Sn} (h : PSz s i) (hm : m ≤ 1) (hf : x.f.length ≤ 10) : PSz (pstep s (x, m)) (i + 1) := by
  obtain ⟨h1, h2⟩ := h
  unfold pstep
  split
  · refine ⟨?_, ?_⟩ <;> dsimp only <;> omega
  · split
    · refine ⟨?_, ?_⟩ <;> dsimp only <;> omega
    · rename_i y t e
      have hl : (y :: t).length ≤ 10 := by rw [← e]; exact hf
      simp only [List.length_cons] at hl
      split
      · refine ⟨?_, ?_⟩
        · dsimp only; omega
        · dsimp only
          split
          · omega
          · simp; omega
      · refine ⟨?_, ?_⟩
        · simp; omega
        · dsimp only; omega
section
variable {w : World} {A : Around} {E : Value → Shared → Prop} {h : Heap} {G : Array GenState} {D : Drawn} {tk : Nat} {O : OsState} {g : Heap} {mg mb : Str → Option Value}
def PInv (h₀ : Heap) (L sa ma : Addr) (bv : Value) (ss : List Sn) (ms : List Nat) (it : Addr) (i : Nat) (h : Heap) : Prop :=
  ∃ g ap pv t u v, Sub h₀ g ∧ Fm g L [("at", .int (pst ss ms i).at' v), ("ahead", .int (pst ss ms i).ah u), ("token", .str (ST (pst ss ms i).tok) t), ("parts", .ref ap), ("behind", bv), ("marks", .ref ma), ("signs", .ref sa)] [(it, RI i ss.length), (ap, PL pv)] h ∧
    A2 (PtAt (less g h₀)) pv (pst ss ms i).P ∧ PSz (pst ss ms i) i
set_option maxHeartbeats 4000000 in
theorem parts_spec {f sa ma : Addr} {tb : Tok} {b : List Nat} {ss : List Sn} {mv : List Value} {ms : List Nat} {Q : Value → Shared → Prop} (T : Tf mg mb g) (H : Fn g mg 13 "_law_parts" f) (k : Sub g h) (room : Room A 2)
   (h3 : mg "len" = none) (h4 : mb "len" = some (.builtin "len")) (h5 : mg "range" = none) (h6 : mb "range" = some (.type "range")) (hs : SnsAt h sa ss) (hl : ss.length ≤ 100) (hma : At h ma (PL mv)) (hmv : A2 NI mv ms) (hml : ms.length = ss.length)
   (hm1 : ∀ m ∈ ms, m ≤ 1) (hf : ∀ x ∈ ss, x.f.length ≤ 10) (hb : b.length ≤ 2)
   (hQ : ∀ a h' tk' r, Sub h h' → Sub r h' → (∀ b o, h.get? b = some o → r.get? b = none) → PtsAt r a (partsOf ss ms b) → Q (.ref a) ⟨h', G, D, tk', O⟩) :
   Wp w A (call (.ref f) [.ref sa, .ref ma, .str (ST b) tb]) Q E ⟨h, G, D, tk, O⟩ := by
  obtain ⟨sv, hsa, hsv⟩ := hs
  refine enter [("behind", .str (ST b) tb), ("marks", .ref ma), ("signs", .ref sa)] T H k room.depth fun h₁ cd tk₁ X => ?_
  have room' := room.deeper (n := 1) (env := envOf "_law_parts" (fnAt 13).2.2 h.objs.size f (.ref cd))
  refine wCons <| asgT room'.2.2 <| tupM <| ar1 <| lstM <| ar0 ⟨_, _, rfl, by simp, fun ap h₂ hap hs₂ hat₂ => ?_⟩
  have X₂ := X.newA hs₂ hap hat₂
  refine ar1 <| cS (l := []) rfl fun _ _ => ar1 <| cI fun _ _ => ar1 <| cI fun _ _ => ar0 ⟨_, _, rfl, by simp, fun tu h₃ htu hs₃ hat₃ => ⟨_, _, _, _, rfl, rfl, hat₃, rfl, fun h₄ hs₄ => ?_⟩⟩
  have X₄ := X₂.keeps (hs₃.trans hs₄)
  refine ioN <| stL X₄ fun h₅ tk₅ X₅ => ioN <| stL X₅ fun h₆ tk₆ X₆ => ioN <| stL X₆ fun h₇ tk₇ X₇ => ioN <| stL X₇ fun h₈ tk₈ X₈ => io0 <| nx_next ?_
  clear X X₂ X₄ X₅ X₆ X₇ hat₂ hat₃ hs₃ hs₄
  have k₈ := k.trans X₈.sub
  refine wCons <| forR room'.2.2 <| clT (T.sub k₈) h5 h6 <| ar1 <| clB (T.sub k₈) h3 h4 <| ar1 <| nmL X₈ rfl <| ar0 <| lenL (hsa.sub X₈.sub) (by rw [hsv.1]; omega) fun _ _ => ar0 <| rgN fun ra h₉ tk₉ hra hs₉ hat₉ => ?_
  rw [hsv.1] at hat₉
  have X₉ := X₈.keeps hs₉
  refine ⟨_, _, _, _, rfl, rfl, hat₉, by omega, PInv h h.objs.size sa ma (.str (ST b) tb) ss ms, ?_, ?_, ?_, ?_⟩
  · intro it h' hit hs hat
    exact ⟨h, ap, [], _, _, _, .refl _, X₉.newA hs hit hat, .nil, by unfold PSz pst; simp⟩
  · rintro it i h' ⟨_, _, _, _, _, _, _, F, -⟩
    exact F.hd
  · rintro it i h' h'' tk' t ⟨g', ap, pv, t1, t2, t3, hg, F, hp, hsz⟩ hi hit hsb
    have F₁ := F.updA hit hsb
    refine ltN <| asN <| stL F₁ fun h₂ tk₂ F₂ => ?_
    obtain ⟨x, hx⟩ : ∃ x, ss[i]? = some x := ⟨ss[i], by simp [hi]⟩
    obtain ⟨m, hm⟩ : ∃ m, ms[i]? = some m := ⟨ms[i]'(by omega), by simp⟩
    have hm1' : m ≤ 1 := hm1 m (List.mem_of_getElem? hm)
    have hf' : x.f.length ≤ 10 := hf x (List.mem_of_getElem? hx)
    obtain ⟨vm, hvm, um, rfl⟩ := hmv.get hm
    obtain ⟨v, hv, sx, u1, u2, u3, rfl, hat⟩ := hsv.get hx
    have hst := pst_succ hx hm
    have hsz' := pstep_sz (x := x) (m := m) hsz hm1' hf'
    unfold PInv
    rw [hst]
    generalize pst ss ms i = st at F₂ hp hsz hst hsz' F F₁ ⊢
    obtain ⟨z1, z2⟩ := id hsz
    refine wCons <| asgT room'.2.2 <| wSub <| nmL F₂ rfl <| nmL F₂ rfl <| itL (hsa.sub (hg.trans F₂.sub)) hv (by omega) ⟨_, _, _, _, rfl, rfl, hat.sub (hg.trans F₂.sub), rfl, fun h₃ hs₃ => ?_⟩
    have F₃ := F₂.keeps hs₃
    refine ioN <| stL F₃ fun h₄ tk₄ F₄ => ioN <| stL F₄ fun h₅ tk₅ F₅ => ioN <| stL F₅ fun h₆ tk₆ F₆ => io0 <| nx_next ?_
    refine wCons <| wAug <| ldL F₆ rfl <| wSub <| nmL F₆ rfl <| nmL F₆ rfl <| itL (hma.sub (hg.trans F₆.sub)) hvm (by omega) <| iaddI fun _ _ => stL F₆ fun h₇ tk₇ F₇ => nx_next ?_
    refine wCons <| wAug <| ldL F₇ rfl <| wSub <| nmL F₇ rfl <| nmL F₇ rfl <| itL (hma.sub (hg.trans F₇.sub)) hvm (by omega) <| iaddI fun _ _ => stL F₇ fun h₈ tk₈ F₈ => nx_next ?_
    rw [show ((st.ah : Int) + (m : Int)) = ((st.ah + m : Nat) : Int) by omega, show ((st.at' : Int) + (m : Int)) = ((st.at' + m : Nat) : Int) by omega] at F₈
    clear F F₁ F₂ F₃ F₄ F₅ F₆ F₇ hit hsb
    refine wCons <| wIf <| wTst <| nmL F₈ rfl <| cS (l := [92]) rfl fun _ _ => eqS ⟨_, rfl, ?_⟩
    have e2 : ([x.c] == [92]) = (x.c == 92) := by rw [Bool.eq_iff_iff]; simp
    rw [e2]
    cases hc : x.c == 92 with
    | true =>
      rw [if_pos rfl]
      have es : pstep st (x, m) = ⟨st.P, st.tok, st.ah + m + 1, st.at' + m + 1⟩ := by unfold pstep; dsimp only; rw [hc]
      rw [es] at hsz' ⊢
      refine wCons <| wAug <| ldL F₈ rfl <| cI fun _ _ => iaddI fun _ _ => stL F₈ fun h₉ tk₉ F₉ => nx_next ?_
      refine wCons <| wAug <| ldL F₉ rfl <| cI fun _ _ => iaddI fun _ _ => stL F₉ fun h₁₀ tk₁₀ F₁₀ => nx_next <| wNil <| nx_next <| wNil <| go_next ?_
      exact ⟨g', ap, pv, _, _, _, hg, F₁₀.on _ rfl, hp, hsz'⟩
    | false =>
      rw [if_neg (by decide)]
      refine wCons <| wIf <| wTst <| nmL F₈ rfl <| cS (l := []) rfl fun _ _ => neS ⟨_, rfl, ?_⟩
      cases hxf : x.f with
      | nil =>
        have es : pstep st (x, m) = ⟨st.P, st.tok, st.ah + m, st.at' + m⟩ := by unfold pstep; dsimp only; rw [hc, hxf]
        rw [es] at hsz' ⊢
        refine wNil <| nx_next <| wNil <| nx_next <| wNil <| go_next ?_
        exact ⟨g', ap, pv, _, _, _, hg, F₈.on _ rfl, hp, hsz'⟩
      | cons y r =>
        rw [if_pos (by simp)]
        rw [hxf] at F₈
        refine wCons <| wAug <| ldL F₈ rfl <| wBin <| cS (l := [92]) rfl fun _ _ => wBin <| nmL F₈ rfl <| cI fun _ _ => divI (by decide) (noPy2 _) fun _ _ => ?_
        rw [show Int.fdiv ((st.ah + m : Nat) : Int) 2 = (((st.ah + m) / 2 : Nat) : Int) from fdivN _ 2]
        refine mulS (by omega) fun _ _ => iaddS (by rw [sizeLine_eq]; simp; omega) fun _ _ => stL F₈ fun h₉ tk₉ F₉ => nx_next ?_
        refine wCons <| Wp.mono1 (Q := fun fl s₁ => fl = .next ∧ ∃ g' h₁₀ tk₁₀ pv t ta, s₁ = ⟨h₁₀, G, D, tk₁₀, O⟩ ∧ Sub h g' ∧ A2 (PtAt (less g' h)) pv (pstep st (x, m)).P ∧
           Fm g' h.objs.size [("token", .str (ST (pstep st (x, m)).tok) t), ("fold", .str (ST (y :: r)) u3), ("at", .int ((st.at' + m : Nat) : Int) ta), ("parts", .ref ap), ("behind", .str (ST b) tb), ("marks", .ref ma), ("signs", .ref sa)] [(it, RI (i + 1) ss.length), (ap, PL pv)] h₁₀) (wIf ?_) ?_
        · have e3 : (((st.ah + m : Nat) : Int).fmod 2 == 0) = ((st.ah + m) % 2 == 0) := by
            rw [show Int.fmod ((st.ah + m : Nat) : Int) 2 = (((st.ah + m) % 2 : Nat) : Int) from fmodN _ 2, Bool.eq_iff_iff]; simp; omega
          refine Wp.mono1 (Q := fun c s₁ => c = ((st.ah + m) % 2 == 0 && [32, 10, 9, 13].contains y) ∧ ∃ tk, s₁ = ⟨h₉, G, D, tk, O⟩) ?_ ?_
          · refine wTBo <| wAnd1 <| wTst <| wBin <| nmL F₉ rfl <| cI fun _ _ => modI (by decide) fun _ _ => cI fun _ _ => eqI ⟨_, rfl, ?_⟩
            rw [e3]
            cases hpar : (st.ah + m) % 2 == 0 with
            | true =>
              rw [if_pos rfl]
              refine wAnd1 <| wTst <| wSub <| nmL F₉ rfl <| cI fun _ _ => itS (i := 0) rfl (by rw [sizeLine_eq]; rw [← hxf]; omega) fun _ _ => cS (l := [32, 10, 9, 13]) rfl fun _ _ => inS ⟨_, rfl, ?_⟩
              cases hcc : [32, 10, 9, 13].contains y with
              | true => exact wAnd0 ⟨rfl, _, rfl⟩
              | false => exact ⟨rfl, _, rfl⟩
            | false => exact ⟨rfl, _, rfl⟩
          · rintro c s₁ ⟨hcc, tk, rfl⟩
            cases c with
            | true =>
              rw [if_pos rfl]
              have es : pstep st (x, m) = ⟨match st.tok ++ List.replicate ((st.ah + m) / 2) 92 with
                | [] => st.P
                | c :: r => st.P ++ [(c :: r, st.at' + m + 1)], r, 0, st.at' + m + (y :: r).length⟩ := by unfold pstep; dsimp only; rw [hc, hxf]; dsimp only; rw [← hcc]; try rfl
              rw [es]
              dsimp only
              refine wCons <| Wp.mono1 (Q := fun fl s₁ => fl = .next ∧ ∃ g' h₁₀ tk₁₀ pv ta, s₁ = ⟨h₁₀, G, D, tk₁₀, O⟩ ∧ Sub h g' ∧ A2 (PtAt (less g' h)) pv (match st.tok ++ List.replicate ((st.ah + m) / 2) 92 with
                | [] => st.P
                | c :: r => st.P ++ [(c :: r, st.at' + m + 1)]) ∧
                Fm g' h.objs.size [("fold", .str (ST (y :: r)) u3), ("at", .int ((st.at' + m : Nat) : Int) ta), ("parts", .ref ap), ("behind", .str (ST b) tb), ("marks", .ref ma), ("signs", .ref sa)] [(it, RI (i + 1) ss.length), (ap, PL pv)] h₁₀) (wIf <| wTst <| nmL F₉ rfl <| cS (l := []) rfl fun _ _ => neS ⟨_, rfl, ?_⟩) ?_
              · cases hto : st.tok ++ List.replicate ((st.ah + m) / 2) 92 with
                | nil => exact wNil ⟨rfl, g', _, _, pv, _, rfl, hg, hp, F₉.on _ rfl⟩
                | cons c0 r0 =>
                  rw [hto] at F₉
                  rw [if_pos (by simp)]
                  refine wCons <| apE <| nmL F₉ rfl ⟨_, _, rfl, F₉.hd1, tupM <| ar1 <| nmL F₉ rfl <| ar1 <| wBin <| nmL F₉ rfl <| cI fun _ _ => addI fun _ _ => ar0 ⟨_, _, rfl, by simp, fun a' h₁₁ ha' hs₁₁ hat₁₁ => ?_⟩⟩
                  have F₁₁ := F₉.newA hs₁₁ ha' hat₁₁
                  obtain ⟨g₁, hg₁, G₁, hat₁⟩ := F₁₁.shut
                  refine ⟨_, _, _, rfl, G₁.hd1, ?_, fun h₁₂ hat₁₂ hsb₁₂ => nx_next <| wNil ?_⟩
                  · have := hp.1; omega
                  exact ⟨rfl, g₁, _, _, _, _, rfl, hg.trans hg₁, (hp.lessP hg₁).snoc ⟨a', _, _, rfl, hat₁.lessM ((hg.trans F₉.sub).none ha')⟩, (G₁.updA1 hat₁₂ hsb₁₂).on _ rfl⟩
              · rintro fl s₁ ⟨rfl, g', h₁₀, tk₁₀, pv, ta, rfl, hg, hp, F₁₀⟩
                refine nx_next <| wCons <| wAsg <| slF <| nmL F₁₀ rfl <| cI fun _ _ => ⟨_, _, _, _, 1, _, rfl, rfl, rfl, by rw [sizeLine_eq, ← hxf]; omega, fun h₁₁ t' tk' hs₁₁ => stL (F₁₀.keeps hs₁₁) fun h₁₂ tk₁₂ F₁₂ => nx_next <| wNil ?_⟩
                exact ⟨rfl, g', _, _, pv, _, _, rfl, hg, hp, F₁₂.on _ rfl⟩
            | false =>
              rw [if_neg (by decide)]
              have es : pstep st (x, m) = ⟨st.P, st.tok ++ List.replicate ((st.ah + m) / 2) 92 ++ (y :: r), 0, st.at' + m + (y :: r).length⟩ := by unfold pstep; dsimp only; rw [hc, hxf]; dsimp only; rw [← hcc]; try rfl
              rw [es]
              refine wCons <| wAug <| ldL F₉ rfl <| nmL F₉ rfl <| iaddS (by rw [sizeLine_eq, ← hxf]; simp; omega) fun _ _ => stL F₉ fun h₁₀ tk₁₀ F₁₀ => nx_next <| wNil ⟨rfl, g', _, _, pv, _, _, rfl, hg, hp, F₁₀.on _ rfl⟩
        · rintro fl s₁ ⟨rfl, g', h₁₀, tk₁₀, pv, t, ta, rfl, hg, hp, F₁₀⟩
          have es1 : (pstep st (x, m)).ah = 0 := by unfold pstep; dsimp only; rw [hc, hxf]; dsimp only; split <;> rfl
          have es2 : (pstep st (x, m)).at' = st.at' + m + (y :: r).length := by unfold pstep; dsimp only; rw [hc, hxf]; dsimp only; split <;> rfl
          refine nx_next <| wCons <| wAsg <| cI fun _ _ => stL F₁₀ fun h₁₁ tk₁₁ F₁₁ => nx_next ?_
          refine wCons <| wAug <| ldL F₁₁ rfl <| clB (T.sub (k.trans (hg.trans F₁₁.sub))) h3 h4 <| ar1 <| nmL F₁₁ rfl <| ar0 <| lenS (by rw [sizeLine_eq, ← hxf]; omega) fun _ _ => iaddI fun _ _ => stL F₁₁ fun h₁₂ tk₁₂ F₁₂ => nx_next <| wNil <| nx_next <| wNil <| nx_next <| wNil <| go_next ?_
          rw [es1, es2]
          exact ⟨g', ap, pv, t, _, _, hg, F₁₂.on _ rfl, hp, hsz'⟩
  · rintro it h' h'' tk' ⟨g', ap, pv, t1, t2, t3, hg, F, hp, hsz⟩ hx
    have F₁ := F.drop hx
    rw [pst_end ss ms _ (Nat.le_refl _)] at F₁ hp hsz
    have epo : partsOf ss ms b = pend b ((ss.zip ms).foldl pstep ⟨[], [], 0, 0⟩) := rfl
    generalize (ss.zip ms).foldl pstep ⟨[], [], 0, 0⟩ = st at F₁ hp hsz epo
    obtain ⟨z1, z2⟩ := id hsz
    refine nx_next <| wCons <| wAug <| ldL F₁ rfl <| wBin <| wBin <| cS (l := [92]) rfl fun _ _ => wBin <| nmL F₁ rfl <| cI fun _ _ => divI (by decide) (noPy2 _) fun _ _ => ?_
    rw [show Int.fdiv (st.ah : Int) 2 = ((st.ah / 2 : Nat) : Int) from fdivN _ 2]
    refine mulS (by omega) fun _ _ => slT <| nmL F₁ rfl <| wBin <| nmL F₁ rfl <| cI fun _ _ => modI (by decide) fun _ _ => ?_
    have em : Int.fmod (st.ah : Int) 2 = ((st.ah % 2 : Nat) : Int) := fmodN _ 2
    rw [em]
    refine ⟨_, _, _, _, _, _, rfl, rfl, rfl, by rw [sizeLine_eq]; omega, fun h₂ t' tk₂ hs₂ => addS (by rw [sizeLine_eq]; simp; omega) fun _ _ => iaddS (by rw [sizeLine_eq]; simp; omega) fun _ _ => stL (F₁.keeps hs₂) fun h₃ tk₃ F₃ => nx_next ?_⟩
    refine wCons <| wIf <| wTst <| nmL F₃ rfl <| cS (l := []) rfl fun _ _ => neS ⟨_, rfl, ?_⟩
    have fin : ∀ (g₁ : Heap) (l : List (Str × Value)) (h₄ : Heap) (tk₄ : Nat) (pv : List Value), Sub h g₁ → Fm g₁ h.objs.size l [(ap, PL pv)] h₄ → A2 (PtAt (less g₁ h)) pv (partsOf ss ms b) → Q (.ref ap) ⟨h₄, G, D, tk₄, O⟩ := by
      intro g₁ l h₄ tk₄ pv hs Y hpp
      obtain ⟨g₂, hg₂, G₂, hat₂⟩ := Y.shut
      exact hQ _ _ _ (less g₂ h) ((hs.trans hg₂).trans G₂.sub) ((less_sub _ _).trans G₂.sub) (fun b o e => less_off e) ⟨pv, hat₂.lessM (Y.gnone (.head _) hs), hpp.lessP hg₂⟩
    cases hto : st.tok ++ (List.replicate (st.ah / 2) 92 ++ List.take (st.ah % 2) b) with
    | nil =>
      refine wNil <| nx_next <| wCons <| wRet <| nmL F₃ rfl <| nx_ret <| fin g' _ _ _ pv hg F₃ ?_
      rw [epo]; unfold pend; rw [hto]; exact hp
    | cons c0 r0 =>
      rw [hto] at F₃
      rw [if_pos (by simp)]
      refine wCons <| apE <| nmL F₃ rfl ⟨_, _, rfl, F₃.hd, tupM <| ar1 <| nmL F₃ rfl <| ar1 <| wBin <| nmL F₃ rfl <| clB (T.sub (k.trans (hg.trans F₃.sub))) h3 h4 <| ar1 <| slT <| nmL F₃ rfl <| wBin <| cI fun _ _ => wBin <| nmL F₃ rfl <| cI fun _ _ => modI (by decide) fun _ _ => ?_⟩
      rw [em]
      refine addI fun _ _ => ?_
      rw [show ((1 : Int) + ((st.ah % 2 : Nat) : Int)) = ((1 + st.ah % 2 : Nat) : Int) by omega]
      refine ⟨_, _, _, _, _, _, rfl, rfl, rfl, by rw [sizeLine_eq]; omega, fun h₅ t' tk₅ hs₅ => ar0 <| lenS (by rw [sizeLine_eq]; simp; omega) fun _ _ => addI fun _ _ => ar0 ⟨_, _, rfl, by simp, fun a' h₆ ha' hs₆ hat₆ => ?_⟩⟩
      have F₆ := (F₃.keeps hs₅).newA hs₆ ha' hat₆
      obtain ⟨g₁, hg₁, G₁, hat₁⟩ := F₆.shut
      refine ⟨_, _, _, rfl, G₁.hd, ?_, fun h₇ hat₇ hsb₇ => nx_next <| wNil <| nx_next ?_⟩
      · have := hp.1; omega
      have G₂ := G₁.updA hat₇ hsb₇
      refine wCons <| wRet <| nmL G₂ rfl <| nx_ret <| fin g₁ _ _ _ _ (hg.trans hg₁) G₂ ?_
      rw [epo]; unfold pend; rw [hto]
      exact (hp.lessP hg₁).snoc ⟨a', _, _, rfl, hat₁.lessM ((hg.trans (F₃.keeps hs₅).sub).none ha')⟩
end
end Mine
end
/-! ## Cl -/
section
open PySem PySem.W PyProof.Rows PySem.Calls
namespace Mine
open Builtin Builtin.ObjectAttr
section
variable {prog : Program} {w : World} {A : Around} {E : Value → Shared → Prop} {h : Heap} {g : Array GenState} {d : Drawn} {t : Nat} {os : OsState}
variable {nm q : Str} {C N x : Addr} {bs : List Value} {sn : List Str} {sub : List Value} {ab : Bool} {col : Option Bool} {dd : Option Addr} {k0 k1 k2 k3 k5 : Option Value} {newId : String}
  {mN mA : Str → Option Value} {name : Str} {v : Value}
theorem lk_fn_set : typeLookup (.type "function") "__set__" = pure none := by rw [typeLookup_type, builtinLookup_eq_fast]; kernel_rfl
theorem lk_fn_del : typeLookup (.type "function") "__delete__" = pure none := by rw [typeLookup_type, builtinLookup_eq_fast]; kernel_rfl
theorem find_fn {f : Addr} {of : Obj} {Q : Found → Shared → Prop}
    (hC : h.get? C = some (excClassObj nm q C N bs [.type "object"] true sn sub ab col dd k0 k1 k2 k3 k5 newId)) (hn : h.Ns N mN) (hna : mN name = some (.ref f))
    (hfo : h.get? f = some of) (hfc : of.cls = .type "function")
    {y : Option Value} (hB : typeLookup (.type "object") name = pure y) (I : h.Inst x C mA) (hv : mA name = none) (hcp : copiedNames.contains name = false) (hq : Q (.bind (.builtin "function.__get__") (.ref f)) ⟨h, g, d, t, os⟩) :
    wpAny (model prog w) A (find (.ref x) (.ref C) name) Q E ⟨h, g, d, t, os⟩ := by
  obtain ⟨o, hx, hc, hnc, hd⟩ := I
  have f1 := KF.slot_fn.lookup
  have f2 := lk_fn_set
  have f3 := lk_fn_del
  unfold find getOf dataDescriptor? takesStores specialOf
  repeat (first | (with_reducible refine wpAny_loadPart_at hx ?_; rw [hc]) | (with_reducible refine wpAny_loadPart_at hfo ?_; rw [hfc]) | (with_reducible refine wpAny_typeLookup_exc hC hn F.mro_object hB ?_; rw [hna]) | wp_step)
  have hcp' : (["__module__", "__name__", "__qualname__", "__doc__", "__annotations__"] : List Str).contains name = false := hcp
  split
  · rename_i c hcd
    exact absurd hcd (hnc c)
  unfold instanceDict
  rcases hd with ⟨hdn, _⟩ | ⟨dx, hdx, _, hns⟩
  · repeat (first | (with_reducible refine wpAny_loadPart_at hx ?_; rw [hc]) | with_reducible refine wpAny_loadPart_at hC ?_ | wp_step)
    rw [hdn]
    unfold copiedAttributeGuard
    rw [hcp']
    repeat wp_step
    exact hq
  · repeat (first | (with_reducible refine wpAny_loadPart_at hx ?_; rw [hc]) | with_reducible refine wpAny_loadPart_at hC ?_ | wp_step)
    rw [hdx]
    unfold copiedAttributeGuard
    rw [hcp']
    repeat (first | (with_reducible refine wpAny_nsGet hns.ns ?_; rw [hv]) | wp_step)
    exact hq
theorem load_meth {f : Addr} {of : Obj} {expr : Bool} {Q : Value → Shared → Prop}
    (hC : h.get? C = some (excClassObj nm q C N bs [.type "object"] true sn sub ab col dd k0 k1 k2 k3 k5 newId)) (hn : h.Ns N mN) (hng : mN "__getattribute__" = none) (hnh : mN "__getattr__" = none) (hna : mN name = some (.ref f))
    (hfo : h.get? f = some of) (hfc : of.cls = .type "function")
    {y : Option Value} (hB : typeLookup (.type "object") name = pure y) (I : h.Inst x C mA) (hv : mA name = none) (hcp : copiedNames.contains name = false) (hq : Q (.ref h.objs.size) ⟨h.push (methodObj (.ref f) (.ref x)), g, d, t + 1, os⟩) :
    wpAny (model prog w) A (getAttr (.ref x) name expr) Q E ⟨h, g, d, t, os⟩ := by
  obtain ⟨o, hx, hc, _⟩ := id I
  unfold getAttr getAttrBy
  repeat (first | (with_reducible refine wpAny_loadPart_at hx ?_; rw [hc]) | (with_reducible refine wpAny_typeLookup_exc hC hn F.mro_object F.lk_object_ga ?_; rw [hng]) | wp_step)
  show wpAny _ _ ((runValue (.builtin "proto.getattr_hooked" ⟨[.ref x, .str name t], []⟩)).onRaise (noteIf true (.ref x) (.str name t))) _ _ _
  refine wpAny_onRaise (wpAny_runValue (codeAny_builtin F.plainObj_entry_getattr_hooked ?_))
  unfold Builtin.«proto.getattr_hooked»
  repeat (first | (with_reducible refine wpAny_loadPart_at hx ?_; rw [hc]) | (with_reducible refine find_fn hC hn hna hfo hfc hB I hv hcp ?_) | (with_reducible refine wpAny_typeLookup_exc hC hn F.mro_object F.lk_object_getattr ?_; rw [hnh]) | wp_step)
  refine codeAny_call_builtin KF.slot_fn.plain KF.entry_fn (KF.slot_fn.check _ _ _ _ _ _ _ _ ⟨_, hfo, hfc⟩ (KF.args_fn _ _ _) ?_)
  repeat k_node
  exact hq

set_option maxHeartbeats 1000000 in
theorem meth_own {pl : Sem Bool} {Q : Value × List Value → Shared → Prop}
    (hC : h.get? C = some (excClassObj nm q C N bs [.type "object"] true sn sub ab col dd k0 k1 k2 k3 k5 newId)) (hn : h.Ns N mN) (hng : mN "__getattribute__" = none) (hnh : mN "__getattr__" = none)
    (hna : mN name = none) (hB : typeLookup (.type "object") name = pure none)
    (I : h.Inst x C mA) (hv : mA name = some v) (hh : handedOut v = pure v) (hq : Q (v, []) ⟨h, g, d, t + 1, os⟩) :
    wpAny (model prog w) A (getMethod (.ref x) name pl) Q E ⟨h, g, d, t, os⟩ := by
  obtain ⟨o, hx, hc, hnc, hd⟩ := id I
  have hcan := F.canon_object_ga
  have key : wpAny (model prog w) A (getAttr (.ref x) name) (fun v => Q (v, [])) E ⟨h, g, d, t, os⟩ := load_attr hC hn hng hna hB I hv hh hq
  generalize he : getAttr (.ref x) name = ga at key
  unfold getMethod specialOf
  rw [he]
  repeat (first | (with_reducible refine wpAny_loadPart_at hx ?_; rw [hc]) | (with_reducible refine wpAny_typeLookup_exc hC hn F.mro_object F.lk_object_ga ?_; rw [hng]) | (with_reducible refine wpAny_typeLookup_exc hC hn F.mro_object F.lk_object_getattr ?_; rw [hnh]) | (with_reducible refine wpAny_typeLookup_exc hC hn F.mro_object hB ?_; rw [hna]) | wp_step)
  exact wpAny_mono key (fun v s' z => wpAny_pure z) fun _ _ e => e
theorem wpAny_callBorrowed {f : Value} {pos : List Value} {Q : Value → Shared → Prop} {s : Shared} (k : wpAny (model prog w) A (call f pos) Q E s) : wpAny (model prog w) A (callBorrowed f pos) Q E s := fun Γ p hΓ => by
  have z := k Γ p hΓ
  unfold call at z
  rw [Sem.wp_runValue] at z
  unfold callBorrowed
  rw [Sem.wp_call]
  refine cast ?_ z
  congr 1
  funext r s'
  cases r with
  | error e => rfl
  | ok f => cases f <;> rfl
theorem borrows_meth {b f : Addr} {y : Value} {of : Obj} {fd : FuncData} {s : Shared} {Q : Bool → Shared → Prop} (hb : s.heap.get? b = some (methodObj (.ref f) y)) (hf : s.heap.get? f = some of) (hd : of.data = .func fd) (k : Q true s) :
    wpAny (model prog w) A (borrowsExactly (.ref b)) Q E s := by
  unfold borrowsExactly
  obtain ⟨hh, gg, ddd, tt, oo⟩ := s
  dsimp only at hb hf
  refine wpAny_bind (wpAny_load hb ?_)
  show wpAny _ _ (load f >>= _) _ _ _
  refine wpAny_bind (wpAny_load hf ?_)
  rw [hd]
  exact wpAny_pure k
end
/-! iter(f, '') -/
theorem slot_ci_next : Slot "callable_iterator" "__next__" "callable_iterator.__next__" :=
  .of (owner := "callable_iterator") (n := "__next__") (by rw [typeLookup_type, builtinLookup_eq_fast]; kernel_rfl) (by decide +kernel) (by decide +kernel) (by decide +kernel)
    (by first | exact .inl (by decide +kernel) | exact .inr (by decide +kernel)) (by rw [isSubtype_type]; kernel_rfl)
theorem slot_ci_iter : Slot "callable_iterator" "__iter__" "callable_iterator.__iter__" :=
  .of (owner := "callable_iterator") (n := "__iter__") (by rw [typeLookup_type, builtinLookup_eq_fast]; kernel_rfl) (by decide +kernel) (by decide +kernel) (by decide +kernel)
    (by first | exact .inl (by decide +kernel) | exact .inr (by decide +kernel)) (by rw [isSubtype_type]; kernel_rfl)
theorem entry_ci_next : entryFor table "callable_iterator.__next__" = some Builtin.«callable_iterator.__next__» := entryFor_of_tree (by kernel_rfl)
theorem args_ci_next (a : Value) : argsOk "callable_iterator.__next__" ⟨[a], []⟩ := by unfold argsOk; kernel_rfl
theorem entry_ci_iter : entryFor table "callable_iterator.__iter__" = some Builtin.«dict_keyiterator.__iter__» :=
  entryFor_alias (id' := "dict_keyiterator.__iter__") (by kernel_rfl) (by first | rfl | decide +kernel | (unfold String.splitOn; simp +decide [String.splitOnAux])) (by decide +kernel) (by kernel_rfl)
theorem args_ci_iter (a : Value) : argsOk "callable_iterator.__iter__" ⟨[a], []⟩ := by unfold argsOk; kernel_rfl
end Mine
end
/-! ## Ci -/
section
open PySem PySem.W PyProof.Rows PySem.Calls
namespace Mine
open Builtin Builtin.ObjectAttr
def ciObj (f s : Value) (e : Bool) : Obj := { cls := .type "callable_iterator", dict := none, data := .fields #[f, s, .bool e], slots := #[] }
section
variable {w : World} {A : Around} {E : Value → Shared → Prop} {h : Heap} {G : Array GenState} {D : Drawn} {tk : Nat} {O : OsState}
/-- how a call ends -/
abbrev Rq (Q : Value → Shared → Prop) (E : Value → Shared → Prop) : Result → Shared → Prop := fun r s' => match r with | .ok (.ret v) => Q v s' | .ok _ => False | .error e => E e s'
theorem pyIter_ci {it : Addr} {f sv : Value} {e : Bool} {Q : Value → Shared → Prop} (hit : h.get? it = some (ciObj f sv e)) (k : Q (.ref it) ⟨h, G, D, tk, O⟩) : Wp w A (pyIter (.ref it)) Q E ⟨h, G, D, tk, O⟩ := by
  rw [Wp_eq]
  have hT : (⟨h, G, D, tk, O⟩ : Shared).TypeIs (.ref it) "callable_iterator" := ⟨_, hit, rfl⟩
  refine wpAny_pyIter_slot hT slot_ci_iter (wpAny_call_entry slot_ci_iter hT entry_ci_iter ?_ (args_ci_iter _))
  show wpAny _ _ (ret (.ref it)) _ _ _
  exact wpAny_pure ⟨_, rfl, "callable_iterator", _, hT, slot_ci_next.lookup, k⟩
theorem stop_ {Q : Option Value → Shared → Prop} {α : Type} (hh : A.handled = none) (k : ∀ h', Sub h h' → Q none ⟨h', G, D, tk, O⟩) :
    wpAny (model pr w) A.in1 (SmallTypes.stopIteration : Sem α) (fun _ _ => False) (fun e s' => wpAny (model pr w) A (isInstance e (.type "StopIteration")) (fun b s'' => b = true ∧ Q none s'') E s') ⟨h, G, D, tk, O⟩ := by
  unfold SmallTypes.stopIteration
  simp only [newExc, newTuple]
  refine wpAny_bind ?_
  refine wpAny_bind (wpAny_newObj_type ?_ (by size_fits))
  refine wpAny_bind (m := firstArgMember _ _) (wpAny_of_eq (a := Value.none) (by first | rfl | (simp only [firstArgMember]; rfl)) ?_)
  refine wpAny_newObj_type ?_ (by size_fits)
  simp only [raiseNew]
  refine wpAny_bind (wpAny_handled ?_)
  first | rw [show A.in1.handled = none from hh] | rw [hh]
  refine wpAny_bind (wpAny_pure (wpAny_throw ?_))
  refine wpAny_isInstance (T := "StopIteration") (b := true) ⟨_, Heap.get?_push_size _ rfl, rfl⟩ isSubtype_stop ⟨rfl, k _ ?_⟩
  exact (sub_push _ _).trans (sub_push _ _)
theorem next_ci {it bm f : Addr} {y : Value} {of : Obj} {fd : FuncData} {ts : Tok} {Q : Option Value → Shared → Prop} (hh : A.handled = none) (hit : h.get? it = some (ciObj (.ref bm) (.str (ST []) ts) false)) (hb : h.get? bm = some (methodObj (.ref f) y)) (hf : h.get? f = some of) (hd : of.data = .func fd)
    (k : codeAny (model pr w) A.in1 (.call (.ref f) ⟨[y], []⟩) (Rq (fun v s₁ => ∃ l t h₁ tk₁, v = .str (ST l) t ∧ s₁ = ⟨h₁, G, D, tk₁, O⟩ ∧ h₁.get? it = some (ciObj (.ref bm) (.str (ST []) ts) false) ∧ h₁.get? bm = some (methodObj (.ref f) y) ∧ h₁.get? f = some of ∧
      (l ≠ [] → Q (some (.str (ST l) t)) s₁) ∧ (l = [] → ∀ h₂, At h₂ it (fun o => o = ciObj .none .none true) → Heap.ExtBut it h₁ h₂ → Q none ⟨h₂, G, D, tk₁, O⟩)) NoE) ⟨h, G, D, tk, O⟩) :
    Wp w A (pyNext (.ref it)) Q E ⟨h, G, D, tk, O⟩ := by
  rw [Wp_eq]
  have hT : (⟨h, G, D, tk, O⟩ : Shared).TypeIs (.ref it) "callable_iterator" := ⟨_, hit, rfl⟩
  unfold pyNext
  refine wpAny_bind (wpAny_attempt (wpAny_callSpecial?_slot (name := Str.ofString "__next__") hT slot_ci_next (wpAny_call_entry slot_ci_next hT entry_ci_next ?_ (args_ci_next _))))
  show wpAny _ _ (field (.ref it) 2 >>= _) _ _ _
  refine wpAny_bind (wpAny_field (s := ⟨h, G, D, tk, O⟩) hit rfl (x := .bool false) rfl ?_)
  rw [if_neg (by decide)]
  show wpAny _ _ (field (.ref it) 0 >>= _) _ _ _
  refine wpAny_bind (wpAny_field (s := ⟨h, G, D, tk, O⟩) hit rfl (x := .ref bm) rfl ?_)
  refine wpAny_bind (wpAny_attempt ?_)
  unfold callOutOfASlot
  refine wpAny_bind (borrows_meth (s := ⟨h, G, D, tk, O⟩) hb hf hd ?_)
  rw [if_pos rfl]
  refine wpAny_callBorrowed (wpAny_call (method_call (s := ⟨h, G, D, tk, O⟩) hb (codeAny_mono k fun r s₁ z => ?_)))
  rcases r with e | fl
  · exact z.elim
  cases fl with
  | ret v =>
    obtain ⟨l, t, h₁, tk₁, rfl, rfl, hit₁, hb₁, hf₁, k1, k2⟩ := z
    show wpAny _ _ (field (.ref it) 2 >>= _) _ _ _
    refine wpAny_bind (wpAny_field (s := ⟨h₁, G, D, tk₁, O⟩) hit₁ rfl (x := .bool false) rfl ?_)
    rw [if_neg (by decide)]
    show wpAny _ _ (field (.ref it) 1 >>= _) _ _ _
    refine wpAny_bind (wpAny_field (s := ⟨h₁, G, D, tk₁, O⟩) hit₁ rfl (x := .str (ST []) ts) rfl ?_)
    refine wpAny_bind (wpAny_holding (wpAny_eqBool_str ?_))
    by_cases hl : l = []
    · subst hl
      rw [decide_eq_true rfl]
      show wpAny _ _ (rule _ >>= _) _ _ _
      refine wpAny_bind (wpAny_rule ?_)
      refine wpAny_bind ?_
      show wpAny _ _ (field (.ref it) 0 >>= _) _ _ _
      refine wpAny_bind (wpAny_field (s := ⟨h₁, G, D, tk₁, O⟩) hit₁ rfl (x := .ref bm) rfl ?_)
      refine wpAny_bind ?_
      unfold slotLetsGo
      refine wpAny_bind (borrows_meth (s := ⟨h₁, G, D, tk₁, O⟩) hb₁ hf₁ hd ?_)
      rw [if_pos rfl]
      refine wpAny_pure ?_
      refine wpAny_bind (wpAny_setField_rec hit₁ (by simp) fun h2 e2 s2 => ?_)
      refine wpAny_bind (wpAny_setField_rec e2 (by simp) fun h3 e3 s3 => ?_)
      refine wpAny_setField_rec e3 (by simp) fun h4 e4 s4 => ?_
      refine wpAny_mono (stop_ (Q := Q) (E := E) hh fun h5 hs5 => k2 rfl h5 ?_ ?_) (fun _ _ e => e.elim) fun e s' z => ?_
      · refine ⟨_, hs5 _ _ e4, ?_⟩
        simp [ciObj]
      · exact fun b o hb e => hs5 _ _ ((s4.2 b hb).trans ((s3.2 b hb).trans ((s2.2 b hb).trans e)))
      · refine wpAny_bind (wpAny_mono z (fun b s'' q => ?_) fun _ _ e => e)
        obtain ⟨rfl, q⟩ := q
        rw [if_pos rfl]
        exact wpAny_pure q
    · have hne : decide (ST [] = ST l) = false := by
        apply decide_eq_false
        intro e
        apply hl
        have := congrArg (fun s => s.cps.toList) e
        simpa [ST] using this.symm
      rw [hne]
      show wpAny _ _ (ret (.str (ST l) t)) _ _ _
      exact wpAny_pure ⟨_, rfl, wpAny_pure (k1 hl)⟩
  | next => exact z.elim
  | cont => exact z.elim
  | brk => exact z.elim
/-- an ended one -/
theorem next_ci_end {it : Addr} {Q : Option Value → Shared → Prop} (hh : A.handled = none) (hit : h.get? it = some (ciObj .none .none true)) (k : ∀ h', Sub h h' → Q none ⟨h', G, D, tk, O⟩) :
    Wp w A (pyNext (.ref it)) Q E ⟨h, G, D, tk, O⟩ := by
  rw [Wp_eq]
  have hT : (⟨h, G, D, tk, O⟩ : Shared).TypeIs (.ref it) "callable_iterator" := ⟨_, hit, rfl⟩
  unfold pyNext
  refine wpAny_bind (wpAny_attempt (wpAny_callSpecial?_slot (name := Str.ofString "__next__") hT slot_ci_next (wpAny_call_entry slot_ci_next hT entry_ci_next ?_ (args_ci_next _))))
  show wpAny _ _ (field (.ref it) 2 >>= _) _ _ _
  refine wpAny_bind (wpAny_field (s := ⟨h, G, D, tk, O⟩) hit rfl (x := .bool true) rfl ?_)
  rw [if_pos (by decide)]
  refine wpAny_bind (wpAny_rule ?_)
  refine wpAny_bind (wpAny_mono (stop_ (Q := Q) (E := E) hh k) (fun _ _ e => e.elim) fun e s' z => ?_)
  refine wpAny_bind (wpAny_mono z (fun b s'' q => ?_) fun _ _ e => e)
  obtain ⟨rfl, q⟩ := q
  rw [if_pos rfl]
  exact wpAny_pure q
end
end Mine
end
/-! ## Lx -/
section
open PySem PySem.W PyProof.Rows PySem.Calls
namespace Mine
open Builtin Builtin.ObjectAttr
/-! the class -/
def metOf (x : Option Stmt) (j : Nat) : Option Stmt := match x with
  | some (.ClassDef _ _ _ body _ _ _ _ _ _ _) => body[j]?
  | _ => none
def metAt (j : Nat) : Arguments × List Stmt × Scope := fnOf (metOf pr.main.body[2]? j)
abbrev FnT := Arguments × List Stmt × Scope
def cdefn (x q : Str) (p : FnT) (cl : List (Str × Addr)) (pm code : Value) (doc : Value × Value) : FuncData :=
  { name := x, qualname := q, params := p.1, body := .stmts p.2.1, scope := p.2.2, globals := mainGlobals, closure := cl, defaults := .none, kwdefaults := .none, doc := doc.1, pyModule := pm, code, builtins := builtinsNs, closureTuple := doc.2 }
def envC (q : Str) (scope : Scope) (cl : List (Str × Addr)) (L a : Addr) (cd : Value) : Env :=
  { scope := scope, locals := L, globals := mainGlobals, cells := cl, qual := q ++ ".<locals>.", func := some a, code := cd, frame := some L, builtins := builtinsNs }
theorem callEnv_cdefn (x q : Str) (p : FnT) (cl : List (Str × Addr)) (pm code : Value) (doc : Value × Value) (L a : Addr) : callEnv (cdefn x q p cl pm code doc) L a = envC q p.2.2 cl L a code := rfl
/-- a function that was made -/
def Met (g : Heap) (x q : Str) (p : FnT) (cl : List (Str × Addr)) (f : Addr) : Prop :=
  ∃ o pm c doc, g.get? f = some o ∧ o.cls = .type "function" ∧ o.data = .func (cdefn x q p cl pm (.ref c) doc) ∧ g.CodeRec (.ref c) q
theorem Met.sub {g h : Heap} {x q : Str} {p : FnT} {cl : List (Str × Addr)} {f : Addr} (H : Met g x q p cl f) (k : Sub g h) : Met h x q p cl f :=
  let ⟨o, pm, c, doc, a, b, d, e⟩ := H; ⟨o, pm, c, doc, k _ _ a, b, d, e.keeps k⟩
def anames : List Str := ["lineno", "instream", "whitespace", "pushback", "read"]
structure Kl (g : Heap) (C N : Addr) (mN : Str → Option Value) (fI fR fT : Addr) : Prop where
  cls : ClsAt g C N mN
  quiet : ∀ n ∈ ("__getattribute__" : Str) :: ("__getattr__" : Str) :: ("__setattr__" : Str) :: anames, mN n = none
  nI : mN "__init__" = some (.ref fI)
  nR : mN "_read_char" = some (.ref fR)
  nT : mN "get_token" = some (.ref fT)
  mI : Met g "__init__" "_netrclex.__init__" (metAt 0) [] fI
  mR : Met g "_read_char" "_netrclex._read_char" (metAt 1) [] fR
  mT : Met g "get_token" "_netrclex.get_token" (metAt 2) [] fT
theorem Kl.sub {g h : Heap} {C N : Addr} {mN : Str → Option Value} {fI fR fT : Addr} (K : Kl g C N mN fI fR fT) (k : Sub g h) : Kl h C N mN fI fR fT :=
  ⟨K.cls.keeps k, K.quiet, K.nI, K.nR, K.nT, K.mI.sub k, K.mR.sub k, K.mT.sub k⟩
def IX (C dx : Addr) : Pd := fun o => o.cls = .ref C ∧ (∀ c, o.data ≠ .cls c) ∧ o.dict = some dx
def NA (l : List (Str × Value)) : Pd := fun o => ∃ m es ep, o.data = .dict es ep ∧ StrKeys es ∧ UniqKeys es ∧ (∀ n, nsFind es n = m n) ∧ (∀ x v, lk l x = some v → m x = some v) ∧ PySem.Within m anames
theorem inst_of {h : Heap} {x dx C : Addr} {l : List (Str × Value)} (a : At h x (IX C dx)) (b : At h dx (NA l)) (ne : dx ≠ x) : ∃ m, h.Inst x C m ∧ (∀ x v, lk l x = some v → m x = some v) ∧ PySem.Within m anames := by
  obtain ⟨o, e, c, nc, d⟩ := a
  obtain ⟨o', e', m, es, ep, d', sk, uk, nf, hl, hw⟩ := b
  exact ⟨m, ⟨o, e, c, nc, .inr ⟨dx, d, ne, o', es, ep, e', d', sk, uk, nf⟩⟩, hl, hw⟩
theorem NA.weak {l l' : List (Str × Value)} {o : Obj} (a : NA l o) (e : l'.map (fun p => lk l p.1) = l'.map (fun p => some p.2)) : NA l' o := by
  obtain ⟨m, es, ep, a1, a2, a3, a4, a5, a6⟩ := a
  refine ⟨m, es, ep, a1, a2, a3, a4, fun x v hx => a5 x v ?_, a6⟩
  have : ∀ p ∈ l', lk l p.1 = some p.2 := by
    clear hx
    induction l' with
    | nil => intro p hp; cases hp
    | cons q r ih =>
      simp only [List.map_cons, List.cons.injEq] at e
      intro p hp
      rcases List.mem_cons.mp hp with rfl | hp
      · exact e.1
      · exact ih e.2 p hp
  exact this (x, v) (mem_of_lookup hx)
/-! the ledger over a call -/
theorem Fm.back {g h h' : Heap} {L : Addr} {l : List (Str × Value)} {D D' M : List (Addr × Pd)} (F : Fm g L l (D ++ M) h) (hs : Sub (minus h (D.map (·.1))) h') (e : D'.map (·.1) = D.map (·.1)) (led : ∀ p ∈ D', At h' p.1 p.2) : Fm g L l (D' ++ M) h' := by
  have nd := F.nd
  rw [List.map_append] at nd
  have nd' := (List.nodup_append.mp nd).2.2
  have hin : ∀ p ∈ D', ∃ q ∈ D, q.1 = p.1 := fun p hp => by
    have : p.1 ∈ D.map (·.1) := by rw [← e]; exact List.mem_map_of_mem hp
    exact List.mem_map.mp this
  have hL : L ∉ D.map (·.1) := fun hm => by
    obtain ⟨p, hp, rfl⟩ := List.mem_map.mp hm
    exact F.nL p (List.mem_append_left _ hp) rfl
  refine ⟨?_, ?_, F.off, ?_, ?_, ?_, ?_⟩
  · obtain ⟨m, ⟨o, es, ep, e1, r⟩, b⟩ := F.ns
    exact ⟨m, ⟨o, es, ep, hs _ _ (get_minus_of e1 hL), r⟩, b⟩
  · intro b o eb
    refine hs _ _ (get_minus_of (F.sub b o eb) fun hm => ?_)
    obtain ⟨p, hp, rfl⟩ := List.mem_map.mp hm
    rw [F.ng p (List.mem_append_left _ hp)] at eb; cases eb
  · intro p hp
    rcases List.mem_append.mp hp with hp | hp
    · exact led p hp
    · obtain ⟨o, e1, q⟩ := F.led p (List.mem_append_right _ hp)
      refine ⟨o, hs _ _ (get_minus_of e1 fun hm => ?_), q⟩
      exact nd' _ hm _ (List.mem_map_of_mem hp) rfl
  · intro p hp
    rcases List.mem_append.mp hp with hp | hp
    · obtain ⟨q, hq, z⟩ := hin p hp; rw [← z]; exact F.nL q (List.mem_append_left _ hq)
    · exact F.nL p (List.mem_append_right _ hp)
  · intro p hp
    rcases List.mem_append.mp hp with hp | hp
    · obtain ⟨q, hq, z⟩ := hin p hp; rw [← z]; exact F.ng q (List.mem_append_left _ hq)
    · exact F.ng p (List.mem_append_right _ hp)
  · rw [List.map_append, e, ← List.map_append]; exact F.nd
section
variable {w : World} {A : Around} {E : Value → Shared → Prop} {h : Heap} {G : Array GenState} {D : Drawn} {tk : Nat} {O : OsState} {env : Env} {g : Heap} {l : List (Str × Value)} {M : List (Addr × Pd)} {mg mb : Str → Option Value}
  {C N x dx fI fR fT : Addr} {mN : Str → Option Value}
theorem enterM {x q : Str} {p : FnT} {cl : List (Str × Addr)} {f : Addr} {vals : List Value} {Q : Value → Shared → Prop} (Dl : List (Addr × Pd)) (binds : List (Str × Value)) (T : Tf mg mb g) (H : Met g x q p cl f) (k : Sub g h) (hroom : A.depth < recursionLimit)
    (led : ∀ a ∈ Dl, At h a.1 a.2) (nd : (Dl.map (·.1)).Nodup)
    (kk : ∀ h₁ c tk', Fm (minus h (Dl.map (·.1))) h.objs.size binds Dl h₁ → Wp w (A.deeper (envC q p.2.2 cl h.objs.size f (.ref c))) (execs p.2.1 (envC q p.2.2 cl h.objs.size f (.ref c))) (fun fl s' => Q (retOf fl) s') (fun _ _ => False) ⟨h₁, G, D, tk', O⟩)
    (hbind : ∀ pm c doc, bindArgs (cdefn x q p cl pm (.ref c) doc) ⟨vals, []⟩ = pure binds.reverse := by intro _ _ _; rfl)
    (hloc : (binds.all fun y => decide (p.2.2.names.lookup y.1 = some .local)) = true := by rfl)
    (hco : p.2.2.isCoroutine = false := by rfl) (hgen : p.2.2.isGenerator = false := by rfl) (hk : p.2.2.kind = .function := by rfl)
    (hcell : (p.2.2.names.all fun y => decide (y.2 ≠ .cell)) = true := by rfl) : codeAny (model pr w) A (.call (.ref f) ⟨vals, []⟩) (Rq Q E) ⟨h, G, D, tk, O⟩ := by
  obtain ⟨o, pm, c, doc, ho, hoc, hdat, hc⟩ := H
  refine codeAny_call_def (fd := cdefn x q p cl pm (.ref c) doc) (body := p.2.1) (binds := binds.reverse) (s := ⟨h, G, D, tk, O⟩) hroom (k _ _ ho) hdat (T.nl.keeps k) (hc.keeps k) rfl (.of_eq (hbind pm c doc))
    (fun y hy => of_decide_eq_true (List.all_eq_true.mp hcell y hy)) (fun y hy => locs hloc y (List.mem_reverse.mp hy)) (fun h₁ hns hk₁ => ?_) hco hgen hk
  have lt : ∀ a ∈ Dl, a.1 < h.objs.size := fun a ha => let ⟨_, e, _⟩ := led a ha; Heap.lt_size e
  have F : Fm (minus h (Dl.map (·.1))) h.objs.size binds Dl h₁ := by
    refine ⟨⟨_, hns, fun y v e => ?_⟩, (minus_sub _ _).trans hk₁, (minus_sub _ _).none (fresh_none h), fun a ha => (led a ha).sub hk₁, fun a ha => Nat.ne_of_lt (lt a ha), fun a ha => get_minus_in (List.mem_map_of_mem ha), nd⟩
    rw [List.reverse_reverse]; exact e
  have z := kk h₁ c (tk + binds.reverse.length) F
  rw [Wp_eq] at z
  rw [callEnv_cdefn]
  refine wpAny_mono z (fun fl s' q => ?_) fun _ _ q => q.elim
  cases fl <;> exact q
/-- self.x -/
theorem gA {name : Str} {v : Value} {expr : Bool} {Q : Value → Shared → Prop} {la : List (Str × Value)} (K : Kl h C N mN fI fR fT) (a : At h x (IX C dx)) (b : At h dx (NA la)) (ne : dx ≠ x) (hv : lk la name = some v)
    (k : ∀ tk', Q v ⟨h, G, D, tk', O⟩) (hh : handedOut v = pure v := by rfl) (hn : name ∈ anames := by decide) (hB : typeLookup (.type "object") name = pure none := by rw [typeLookup_type, builtinLookup_eq_fast]; kernel_rfl) :
    Wp w A (getAttr (.ref x) name expr) Q E ⟨h, G, D, tk, O⟩ := by
  rw [Wp_eq]
  obtain ⟨nm, q, bs, sn, sub, col, dd, k0, k1, k2, k3, k5, hC⟩ := K.cls.obj
  obtain ⟨m, I, hl, hw⟩ := inst_of a b ne
  exact load_attr hC K.cls.ns (K.quiet _ (.head _)) (K.quiet _ (.tail _ (.tail _ (.tail _ hn)))) hB I (hl _ _ hv) hh (k _)
/-- self.x = v -/
theorem sA {name : Str} {v : Value} {Q : Unit → Shared → Prop} {la : List (Str × Value)} (K : Kl h C N mN fI fR fT) (a : At h x (IX C dx)) (b : At h dx (NA la)) (ne : dx ≠ x)
    (k : ∀ h' tk', At h' x (IX C dx) → At h' dx (NA ((name, v) :: la)) → Sub (minus h [x, dx]) h' → Q () ⟨h', G, D, tk', O⟩) (hn : name ∈ anames := by decide) (hB : typeLookup (.type "object") name = pure none := by rw [typeLookup_type, builtinLookup_eq_fast]; kernel_rfl) :
    Wp w A (setAttr (.ref x) name v) Q E ⟨h, G, D, tk, O⟩ := by
  rw [Wp_eq]
  obtain ⟨nm, q, bs, sn, sub, col, dd, k0, k1, k2, k3, k5, hC⟩ := K.cls.obj
  obtain ⟨m, I, hl, hw⟩ := inst_of a b ne
  obtain ⟨ox, hx, hcx, hncx, hdx⟩ := a
  have hxC : x ≠ C := by rintro rfl; rw [hx] at hC; cases hC; exact hncx _ rfl
  refine store_attr PySem.F.store_object hC K.cls.ns (K.quiet _ (.tail _ (.tail _ (.head _)))) (K.quiet _ (.tail _ (.tail _ (.tail _ hn)))) hB hxC I (fun h' tk' I' hk hsame => ?_) hw (by decide)
  obtain ⟨o₁, e₁, c₁, dt₁, _, dk₁⟩ := hsame ox hx
  have dk := dk₁ dx hdx
  obtain ⟨o', e', _, _, hd'⟩ := I'
  obtain rfl := Option.some.inj (e₁.symm.trans e')
  rcases hd' with ⟨hn0, _⟩ | ⟨d', hd', _, od, es, ep, eo, q1, q2, q3, q4⟩
  · rw [dk] at hn0; cases hn0
  · obtain rfl := Option.some.inj (dk.symm.trans hd')
    refine k h' tk' ⟨o₁, e₁, c₁.trans hcx, fun c => dt₁ ▸ hncx c, dk⟩ ⟨od, eo, _, es, ep, q1, q2, q3, q4, fun y u e => ?_, fun y hy => ?_⟩ fun b o e => ?_
    · rw [← lk_cons] at e
      dsimp only at e ⊢
      split
      · rename_i z; rw [if_pos z] at e; exact e
      · rename_i z; rw [if_neg z] at e; exact hl y u e
    · dsimp only at hy
      split at hy
      · rename_i z; rw [z]; exact hn
      · exact hw y hy
    · rw [get_minus] at e
      split at e
      · cases e
      · rename_i z
        simp only [List.mem_cons, List.not_mem_nil, or_false, not_or] at z
        exact hk b o z.1 (fun o₀ d' e₀ ed => by obtain rfl := Option.some.inj (hx.symm.trans e₀); obtain rfl := Option.some.inj (hdx.symm.trans ed); exact z.2) e
end
end Mine
end
/-! ## Rd -/
section
open PySem PySem.W PyProof.Rows PySem.Calls
namespace Mine
open Builtin Builtin.ObjectAttr
def IL (vs : List Value) : Pd := fun o => o.cls = .type "list" ∧ ∃ n, o.data = .seq vs.toArray n
theorem At.il {h : Heap} {a : Addr} {vs : List Value} (x : At h a (IL vs)) : h.IsList a vs.toArray := by
  obtain ⟨o, e, c, n, d⟩ := x; exact ⟨o, e, c, n, d⟩
theorem At.ofIl {h : Heap} {a : Addr} {vs : List Value} (x : h.IsList a vs.toArray) : At h a (IL vs) := let ⟨o, e, c, n, d⟩ := x; ⟨o, e, c, n, d⟩
def cdOf (x : Option Stmt) (j : Nat) : Option Stmt := match x with
  | some (.FunctionDef _ _ b _ _ _ _ _ _ _) => b[j]?
  | _ => none
/-- _law_read -/
def rdT : FnT := fnOf (cdOf pr.main.body[9]? 2)
section
variable {w : World} {A : Around} {E : Value → Shared → Prop} {h : Heap} {G : Array GenState} {D : Drawn} {tk : Nat} {O : OsState} {env : Env} {g : Heap} {l : List (Str × Value)} {M : List (Addr × Pd)} {mg mb : Str → Option Value}
  {C N x dx fI fR fT : Addr} {mN : Str → Option Value}
theorem nmF {x : Str} {pos : Pos} {c : Addr} {v : Value} {Q : Value → Shared → Prop} (hv : h.IsCell c (some v)) (k : Q v ⟨h, G, D, tk, O⟩) (hc : env.cells.lookup x = some c := by rfl)
    (hk : env.scope.kind = .function := by rfl) (hl : env.kindOf x = some .free := by rfl) (hd : (x == ("__debug__" : Str)) = false := by decide) (hn : (x == ("__classdict__" : Str)) = false := by decide) :
    Wp w A (eval (.Name x pos) env) Q E ⟨h, G, D, tk, O⟩ := by rw [Wp_eq]; exact wpAny_Name (wpAny_loadName_free (s := ⟨h, G, D, tk, O⟩) hk hl hc hv k hn) hd
theorem itI {value slice : Expr} {a : Addr} {vs : List Value} {i : Nat} {u : Tok} {v : Value} {Q : Value → Shared → Prop} (hl : At h a (IL vs)) (hi : vs[i]? = some v) (hb : i < 2 ^ 63) (k : Q v ⟨h, G, D, tk, O⟩)
    (hs : subscripted slice false (.ref a) (.int i u) = operate [.ref a, .int i u] (getItem (.ref a) (.int i u)) := by with_unfolding_all rfl) :
    Wp w A (subscriptTail value slice (.ref a) (.int i u)) Q E ⟨h, G, D, tk, O⟩ := by
  rw [Wp_eq]; exact tail_any (s := ⟨h, G, D, tk, O⟩) hl.il.typeIs slot_list_getitem.lookup (wpAny_getItem_list hl.il (by omega) (by omega) (by simpa using hi) k) hs
theorem stI {a : Addr} {vs : List Value} {i : Nat} {u : Tok} {v : Value} {Q : Unit → Shared → Prop} (hl : At h a (IL vs)) (hi : i < vs.length) (hb : i < 2 ^ 63) (k : ∀ h', At h' a (IL (vs.set i v)) → Heap.SameBut a h h' → Q () ⟨h', G, D, tk, O⟩) :
    Wp w A (setItem (.ref a) (.int i u) v) Q E ⟨h, G, D, tk, O⟩ := by
  rw [Wp_eq]
  refine wpAny_setItem_list (s := ⟨h, G, D, tk, O⟩) hl.il (by omega) (by omega) (by simpa using hi) fun h' q1 q2 => k h' (.ofIl ?_) q2
  simpa using q1
theorem wAsI {o i : Expr} {pos' pos : Pos} {value : Expr} {Q : Flow → Shared → Prop} {s : Shared} (k : Wp w A (eval value env) (fun v s₁ => Wp w A (eval o env) (fun ov s₂ => Wp w A (eval i env) (fun iv s₃ => Wp w A (setItem ov iv v) (fun _ => Q .next) E s₃) E s₂) E s₁) E s)
    (hs : swapsWith value (some (.Subscript o i pos')) pos.line env = pure false := by rfl) : Wp w A (exec (.Assign [.Subscript o i pos'] value pos) env) Q E s := by
  simp only [Wp_eq] at *; exact wpAny_Assign_Subscript k hs
theorem wAt {value : Expr} {attr : Str} {pos : Pos} {Q : Value → Shared → Prop} {s : Shared} (k : Wp w A (eval value env) (fun o s₁ => Wp w A (getAttr o attr true) Q E s₁) E s)
    (he : eval (.Attribute value attr pos) env = (do
      let o ← eval value env
      standAt pos.atName
      let r ← holding [o] (getAttr o attr true)
      letTemporaryGo value o r
      pure r) := by with_unfolding_all rfl) : Wp w A (eval (.Attribute value attr pos) env) Q E s := by
  simp only [Wp_eq] at *; exact Attribute_any_ k he
theorem wAsA {o : Expr} {attr : Str} {pos' pos : Pos} {value : Expr} {Q : Flow → Shared → Prop} {s : Shared} (k : Wp w A (eval value env) (fun v s₁ => Wp w A (eval o env) (fun ov s₂ => Wp w A (setAttr ov attr v) (fun _ => Q .next) E s₂) E s₁) E s)
    (hs : swapsWith value (some (.Attribute o attr pos')) pos.line env = pure false := by rfl) : Wp w A (exec (.Assign [.Attribute o attr pos'] value pos) env) Q E s := by
  simp only [Wp_eq] at *; exact plainObj_wpAny_Assign_Attribute k hs
theorem wAuA {o value : Expr} {attr : Str} {tpos pos : Pos} {op : Operator} {Q : Flow → Shared → Prop} {s : Shared}
    (k : Wp w A (eval o env) (fun ov s₁ => Wp w A (getAttr ov attr true) (fun old s₂ => Wp w A (eval value env) (fun v s₃ => Wp w A (inplaceOp op old v) (fun new s₄ => Wp w A (setAttr ov attr new) (fun _ => Q .next) E s₄) E s₃) E s₂) E s₁) E s) :
    Wp w A (exec (.AugAssign (.Attribute o attr tpos) op value pos) env) Q E s := by
  simp only [Wp_eq] at *; exact wpAny_AugAssign_AttributeAny k
/-- o.name(args) -/
theorem clM {o : Expr} {name : Str} {apos pos : Pos} {args : List Expr} {Q : Value → Shared → Prop} {s : Shared}
    (k : Wp w A (eval o env) (fun ov s₁ => ∀ pl, Wp w A (getMethod ov name pl) (fun p s₂ => Wp w A (callWith pos p.1 p.2 (backTo pos (starEach args env)) []) Q E s₂) E s₁) E s)
    (hbase : attributeBase o name env (eval o env) = eval o env := by rfl)
    (hfew : ((backTo pos (starEach args env)).all (fun x => !x.1) && (backToKw pos (keywordEach [] env)).all (fun x => x.1.isSome)
      && decide (args.length + ([] : List Keyword).length + (if ([] : List Keyword).isEmpty then 0 else 1) < 30)) = true := by rfl)
    (hline : (apos.endLine == pos.line) = true := by rfl) :
    Wp w A (eval (.Call (.Attribute o name apos) args [] pos) env) Q E s := by
  simp only [Wp_eq] at *
  rw [arm_eval_Call, hbase]
  refine wpAny_bind (wpAny_mono k (fun ov s₁ h₁ => ?_) fun _ _ e => e)
  refine wpAny_bind (wpAny_standAt ?_)
  have hform : methodCallForm (args.length + ([] : List Keyword).length) (backTo pos (starEach args env)) (backToKw pos (keywordEach [] env)) = true := hfew
  have hpos : methodCallPos true o env apos pos = pure pos := by unfold methodCallPos; simp [hline]
  unfold methodCall
  rw [hform]
  refine wpAny_bind (wpAny_holding (wpAny_mono (h₁ _) (fun p s₂ h₂ => ?_) fun _ _ e => e))
  exact wpAny_bind (wpAny_of_eq hpos h₂)
theorem cw0 {pos : Pos} {x q : Str} {p : FnT} {cl : List (Str × Addr)} {f : Addr} {first : List Value} {Q : Value → Shared → Prop} (H : Met h x q p cl f) (k : codeAny (model pr w) A (.call (.ref f) ⟨first, []⟩) (Rq Q E) ⟨h, G, D, tk, O⟩) :
    Wp w A (callWith pos (.ref f) first (backTo pos (starEach [] env)) []) Q E ⟨h, G, D, tk, O⟩ := by
  rw [Wp_eq]
  obtain ⟨o, pm, c, doc, ho, _, hd, _⟩ := H
  exact callWith_meth0 (s := ⟨h, G, D, tk, O⟩) hd ho (wpAny_call k)
theorem cwF {pos : Pos} {x q : Str} {p : FnT} {cl : List (Str × Addr)} {f : Addr} {first : List Value} {e : Expr} {rest : List Expr} {Q : Value → Shared → Prop} {g : Heap} (H : Met g x q p cl f)
    (k : Wp w A (spliced (backTo pos (starEach (e :: rest) env))) (fun vs s₁ => ∃ h₁ tk₁, s₁ = ⟨h₁, G, D, tk₁, O⟩ ∧ Sub g h₁ ∧ codeAny (model pr w) A (.call (.ref f) ⟨first ++ vs, []⟩) (Rq Q E) s₁) E ⟨h, G, D, tk, O⟩)
    (he : starEach (e :: rest) env = (false, eval e env) :: starEach rest env := by rfl) :
    Wp w A (callWith pos (.ref f) first (backTo pos (starEach (e :: rest) env)) []) Q E ⟨h, G, D, tk, O⟩ := by
  simp only [Wp_eq] at *
  obtain ⟨o, pm, c, doc, ho, _, hd, _⟩ := H
  exact callWith_meth (h₀ := g) hd ho (wpAny_mono k (fun vs s₁ ⟨h₁, tk₁, e, hs, z⟩ => ⟨by rw [e]; exact hs, wpAny_call z⟩) fun _ _ e => e) he
theorem gM {f : Addr} {name q : Str} {p : FnT} {cl : List (Str × Addr)} {pl : Sem Bool} {Q : Value × List Value → Shared → Prop} {la : List (Str × Value)} (K : Kl h C N mN fI fR fT) (a : At h x (IX C dx)) (b : At h dx (NA la)) (ne : dx ≠ x) (hf : mN name = some (.ref f)) (H : Met h name q p cl f)
    (k : Q (.ref f, [.ref x]) ⟨h, G, D, tk, O⟩) (hn : name ∉ anames := by decide) (hB : typeLookup (.type "object") name = pure none := by rw [typeLookup_type, builtinLookup_eq_fast]; kernel_rfl) :
    Wp w A (getMethod (.ref x) name pl) Q E ⟨h, G, D, tk, O⟩ := by
  rw [Wp_eq]
  obtain ⟨nm, q, bs, sn, sub, col, dd, k0, k1, k2, k3, k5, hC⟩ := K.cls.obj
  obtain ⟨m, I, hl, hw⟩ := inst_of a b ne
  obtain ⟨o, pm, c, doc, ho, hfc, hd, _⟩ := H
  have hm : m name = none := by
    cases e : m name with
    | none => rfl
    | some v => exact absurd (hw name (by rw [e]; simp)) hn
  exact method_of hC K.cls.ns (K.quiet _ (.head _)) (K.quiet _ (.tail _ (.head _))) hf ho hfc hB I hm k
theorem gMo {v : Value} {name : Str} {pl : Sem Bool} {Q : Value × List Value → Shared → Prop} {la : List (Str × Value)} (K : Kl h C N mN fI fR fT) (a : At h x (IX C dx)) (b : At h dx (NA la)) (ne : dx ≠ x) (hv : lk la name = some v)
    (k : ∀ tk', Q (v, []) ⟨h, G, D, tk', O⟩) (hh : handedOut v = pure v := by rfl) (hn : name ∈ anames := by decide) (hB : typeLookup (.type "object") name = pure none := by rw [typeLookup_type, builtinLookup_eq_fast]; kernel_rfl) :
    Wp w A (getMethod (.ref x) name pl) Q E ⟨h, G, D, tk, O⟩ := by
  rw [Wp_eq]
  obtain ⟨nm, q, bs, sn, sub, col, dd, k0, k1, k2, k3, k5, hC⟩ := K.cls.obj
  obtain ⟨m, I, hl, hw⟩ := inst_of a b ne
  exact meth_own hC K.cls.ns (K.quiet _ (.head _)) (K.quiet _ (.tail _ (.head _))) (K.quiet _ (.tail _ (.tail _ (.tail _ hn)))) hB I (hl _ _ hv) hh (k _)
/-- self.method, not called -/
theorem gB {f : Addr} {name q : Str} {p : FnT} {cl : List (Str × Addr)} {expr : Bool} {Q : Value → Shared → Prop} {la : List (Str × Value)} (K : Kl h C N mN fI fR fT) (a : At h x (IX C dx)) (b : At h dx (NA la)) (ne : dx ≠ x) (hf : mN name = some (.ref f)) (H : Met h name q p cl f)
    (k : ∀ bm h' tk', h.get? bm = none → Sub h h' → h'.get? bm = some (methodObj (.ref f) (.ref x)) → Q (.ref bm) ⟨h', G, D, tk', O⟩) (hn : name ∉ anames := by decide) (hB : typeLookup (.type "object") name = pure none := by rw [typeLookup_type, builtinLookup_eq_fast]; kernel_rfl) (hcp : copiedNames.contains name = false := by decide +kernel) :
    Wp w A (getAttr (.ref x) name expr) Q E ⟨h, G, D, tk, O⟩ := by
  rw [Wp_eq]
  obtain ⟨nm, q, bs, sn, sub, col, dd, k0, k1, k2, k3, k5, hC⟩ := K.cls.obj
  obtain ⟨m, I, hl, hw⟩ := inst_of a b ne
  obtain ⟨o, pm, c, doc, ho, hfc, hd, _⟩ := H
  have hm : m name = none := by
    cases e : m name with
    | none => rfl
    | some v => exact absurd (hw name (by rw [e]; simp)) hn
  exact load_meth hC K.cls.ns (K.quiet _ (.head _)) (K.quiet _ (.tail _ (.head _))) hf ho hfc hB I hm hcp (k _ _ _ (fresh_none _) (sub_push _ _) (Heap.get?_push_size _ rfl))
theorem lk_method_call : typeLookup (.type "method") "__call__" = pure (some (.builtin "method.__call__")) := by rw [typeLookup_type, builtinLookup_eq_fast]; kernel_rfl
theorem args_iter2 (a b : Value) : argsOk "iter" ⟨[a, b], []⟩ := by unfold argsOk; kernel_rfl
theorem iterF {bm f : Addr} {y sv : Value} {Q : Value → Shared → Prop} (hb : h.get? bm = some (methodObj (.ref f) y)) (k : ∀ it h', h.get? it = none → Sub h h' → h'.get? it = some (ciObj (.ref bm) sv false) → Q (.ref it) ⟨h', G, D, tk, O⟩) :
    Wp w A (call (.builtin "iter") [.ref bm, sv]) Q E ⟨h, G, D, tk, O⟩ := by
  rw [Wp_eq]
  have hT : (⟨h, G, D, tk, O⟩ : Shared).TypeIs (.ref bm) "method" := ⟨_, hb, rfl⟩
  refine call_function_entry (by decide +kernel) (by decide +kernel) kdk_entry_iter (args_iter2 _ _) ?_
  unfold Builtin.«iter»
  refine wpAny_bind (m := someArgs "iter" 1 2 _) (wpAny_of_eq (a := [Value.ref bm, sv]) (by first | rfl | kernel_rfl!) ?_)
  refine wpAny_bind (wpAny_specialOf hT lk_method_call ?_)
  rw [if_neg (by decide)]
  refine wpAny_bind (wpAny_rule ?_)
  unfold newFields
  refine wpAny_bind (wpAny_newObj_type ?_ (by size_fits))
  exact wpAny_pure ⟨_, rfl, k _ _ (fresh_none _) (sub_push _ _) (Heap.get?_push_size _ rfl)⟩
end
end Mine
end
/-! ## Rc -/
section
open PySem PySem.W PyProof.Rows PySem.Calls
namespace Mine
def chr1 (tx : List Nat) (p : Nat) : List Nat := (tx.drop p).take 1
def NL (box pb : Addr) (ln : Nat) : Pd := fun o => ∃ t tw, NA [("lineno", .int ln t), ("instream", .ref box), ("whitespace", .str (ST [10, 9, 13, 32]) tw), ("pushback", .ref pb)] o
def SE (p : Nat) : Pd := fun o => ∃ t, IL [.int p t] o
def Lg (C x dx box sa pb : Addr) (ln p : Nat) : List (Addr × Pd) := [(x, IX C dx), (dx, NL box pb ln), (sa, SE p)]
structure Rig (g : Heap) (C N : Addr) (mN : Str → Option Value) (fI fR fT box sa pb : Addr) (tx : List Nat) : Prop where
  K : Kl g C N mN fI fR fT
  rd : ∃ bdx fr cl cs ct tt q, At g box (IX C bdx) ∧ At g bdx (NA [("read", .ref fr)]) ∧ bdx ≠ box ∧ Met g "_law_read" q rdT cl fr ∧ cl.lookup ("seat" : Str) = some cs ∧ cl.lookup ("text" : Str) = some ct ∧ g.IsCell ct (some (.str (ST tx) tt)) ∧ g.IsCell cs (some (.ref sa))
  pbk : At g pb (PL [])
  len : tx.length ≤ 100000
theorem Rig.sub {g h : Heap} {C N : Addr} {mN : Str → Option Value} {fI fR fT box sa pb : Addr} {tx : List Nat} (R : Rig g C N mN fI fR fT box sa pb tx) (k : Sub g h) : Rig h C N mN fI fR fT box sa pb tx :=
  let ⟨bdx, fr, cl, cs, ct, tt, q, a, b, c, d, e, f, i, j⟩ := R.rd
  ⟨R.K.sub k, ⟨bdx, fr, cl, cs, ct, tt, q, a.sub k, b.sub k, c, d.sub k, e, f, i.keeps k, j.keeps k⟩, R.pbk.sub k, R.len⟩
theorem subMinus {g h : Heap} {D : List Addr} (k : Sub g h) (off : ∀ a ∈ D, g.get? a = none) : Sub g (minus h D) := fun b o e => get_minus_of (k b o e) fun hm => by rw [off b hm] at e; cases e
section
variable {w : World} {A : Around} {E : Value → Shared → Prop} {h : Heap} {G : Array GenState} {D : Drawn} {tk : Nat} {O : OsState} {g : Heap} {mg mb : Str → Option Value}
  {C N x dx fI fR fT box sa pb : Addr} {mN : Str → Option Value}
set_option maxHeartbeats 2000000 in
theorem rd_spec {q : Str} {cl : List (Str × Addr)} {fr cs ct : Addr} {tx : List Nat} {tt t1 : Tok} {p : Nat} {Q : Value → Shared → Prop} (T : Tf mg mb g) (H : Met g "_law_read" q rdT cl fr) (k : Sub g h) (room : Room A 1)
    (h3 : mg "len" = none) (h4 : mb "len" = some (.builtin "len")) (hcs : cl.lookup ("seat" : Str) = some cs) (hct : cl.lookup ("text" : Str) = some ct) (ht : g.IsCell ct (some (.str (ST tx) tt))) (hs : g.IsCell cs (some (.ref sa)))
    (hsa : At h sa (SE p)) (off : g.get? sa = none) (hl : tx.length ≤ 100000)
    (hQ : ∀ t h' tk', Sub (minus h [sa]) h' → At h' sa (SE (p + (chr1 tx p).length)) → Q (.str (ST (chr1 tx p)) t) ⟨h', G, D, tk', O⟩) :
    codeAny (model pr w) A (.call (.ref fr) ⟨[.int 1 t1], []⟩) (Rq Q E) ⟨h, G, D, tk, O⟩ := by
  refine enterM [(sa, SE p)] [("size", .int 1 t1)] T H k room.depth (fun a ha => by rw [List.mem_singleton] at ha; subst ha; exact hsa) (by simp) fun h₁ cd tk₁ X => ?_
  have kk := (subMinus k (D := [sa]) (by simpa using off)).trans X.sub
  have rule1 : ∀ (pos pos' pos'' : Pos) (kd : Nat) (h₂ : Heap) (tk₂ : Nat) (p : Nat) (Q : Value → Shared → Prop) (u : Tok), Sub g h₂ → At h₂ sa (IL [.int p u]) → (∀ tk', Q (.int p u) ⟨h₂, G, D, tk', O⟩) →
      Wp w (A.deeper (envC q rdT.2.2 cl h.objs.size fr (.ref cd))) (eval (.Subscript (.Name "seat" pos) (.Constant (.int 0) kd pos') pos'') (envC q rdT.2.2 cl h.objs.size fr (.ref cd))) Q NoE ⟨h₂, G, D, tk₂, O⟩ := by
    intro pos pos' pos'' kd h₂ tk₂ p Q u ks hat kq
    exact wSub <| nmF (hs.keeps ks) (cI fun _ _ => itI (i := 0) hat rfl (by decide) (kq _)) hcs
  obtain ⟨o, e1, u, hil⟩ := X.hd
  have hat : At h₁ sa (IL [.int p u]) := ⟨o, e1, hil⟩
  refine wCons <| wAsg <| slFT <| nmF (ht.keeps kk) (rule1 _ _ _ _ _ _ _ _ u kk hat fun _ => wBin <| rule1 _ _ _ _ _ _ _ _ u kk hat fun _ => nmL X rfl <| addI fun _ _ => ?_) hct
  rw [show ((p : Int) + 1) = ((p + 1 : Nat) : Int) by omega]
  refine ⟨_, _, _, _, _, _, _, _, rfl, rfl, rfl, rfl, by omega, by rw [sizeLine_eq]; omega, fun h₂ t' tk₂ hs₂ => ?_⟩
  rw [show p + 1 - p = 1 by omega]
  refine stL (X.keeps hs₂) fun h₃ tk₃ X₃ => nx_next ?_
  have kk₃ := (subMinus k (D := [sa]) (by simpa using off)).trans X₃.sub
  obtain ⟨o, e1, u, hil⟩ := X₃.hd
  have hat : At h₃ sa (IL [.int p u]) := ⟨o, e1, hil⟩
  refine wCons <| wAsI <| wBin <| rule1 _ _ _ _ _ _ _ _ u kk₃ hat fun _ => clB (T.sub kk₃) h3 h4 <| ar1 <| nmL X₃ rfl <| ar0 <| lenS (by rw [sizeLine_eq]; simp; omega) fun _ _ => addI fun _ _ => nmF (hs.keeps kk₃) (cI fun _ _ => stI (i := 0) hat (by simp) (by decide) fun h₄ hat₄ hsb => nx_next ?_) hcs
  have X₄ := X₃.updA (P' := SE (p + (chr1 tx p).length)) (by obtain ⟨o, e, q⟩ := hat₄; exact ⟨o, e, _, q⟩) hsb
  exact wCons <| wRet <| nmL X₄ rfl <| nx_ret <| hQ _ _ _ X₄.sub X₄.hd
theorem mem3 {a b c : Addr × Pd} {P : Addr × Pd → Prop} (h1 : P a) (h2 : P b) (h3 : P c) : ∀ q ∈ [a, b, c], P q := fun q hq => by
  rcases List.mem_cons.mp hq with rfl | hq
  · exact h1
  rcases List.mem_cons.mp hq with rfl | hq
  · exact h2
  rw [List.mem_singleton] at hq; subst hq; exact h3
theorem mem2 {a b : Addr × Pd} {P : Addr × Pd → Prop} (h1 : P a) (h2 : P b) : ∀ q ∈ [a, b], P q := fun q hq => by
  rcases List.mem_cons.mp hq with rfl | hq
  · exact h1
  rw [List.mem_singleton] at hq; subst hq; exact h2
theorem mem1 {a : Addr × Pd} {P : Addr × Pd → Prop} (h1 : P a) : ∀ q ∈ [a], P q := fun q hq => by
  rw [List.mem_singleton] at hq; subst hq; exact h1
set_option maxHeartbeats 2000000 in
theorem rc_spec {tx : List Nat} {ln p : Nat} {Q : Value → Shared → Prop} (T : Tf mg mb g) (R : Rig g C N mN fI fR fT box sa pb tx) (k : Sub g h) (room : Room A 2)
    (h3 : mg "len" = none) (h4 : mb "len" = some (.builtin "len")) (led : ∀ a ∈ Lg C x dx box sa pb ln p, At h a.1 a.2) (nd : [x, dx, sa].Nodup) (off : ∀ a ∈ [x, dx, sa], g.get? a = none)
    (hQ : ∀ t h' tk', Sub (minus h [x, dx, sa]) h' → (∀ a ∈ Lg C x dx box sa pb (ln + if chr1 tx p == [10] then 1 else 0) (p + (chr1 tx p).length), At h' a.1 a.2) → Q (.str (ST (chr1 tx p)) t) ⟨h', G, D, tk', O⟩) :
    codeAny (model pr w) A (.call (.ref fR) ⟨[.ref x], []⟩) (Rq Q E) ⟨h, G, D, tk, O⟩ := by
  obtain ⟨bdx, fr, cl, cs, ct, tt, q, r1, r2, r3, r4, r5, r6, r7, r8⟩ := R.rd
  refine enterM (Lg C x dx box sa pb ln p) [("self", .ref x)] T R.K.mR k room.depth led nd fun h₁ cd tk₁ X => ?_
  have room' := room.deeper (n := 1) (env := envC "_netrclex._read_char" (metAt 1).2.2 [] h.objs.size fR (.ref cd))
  have kg : Sub g (minus h [x, dx, sa]) := subMinus k off
  have nd' : dx ≠ x := by
    rintro rfl; simp at nd
  have hid : At h₁ dx (NL box pb ln) := X.hd1
  obtain ⟨o1, e1, t1, tw1, hna⟩ := id hid
  have kk := kg.trans X.sub
  refine wCons <| wAsg <| clM <| wAt <| nmL X rfl <| gA (R.K.sub kk) X.hd ⟨o1, e1, hna⟩ nd' rfl fun _ pl => gMo (R.K.sub kk) (r1.sub kk) (r2.sub kk) r3 rfl fun _ => cwF (g := g) r4 <| ar1 <| cI fun _ _ => ar0 ⟨_, _, rfl, kk, ?_⟩
  refine rd_spec T r4 kk (room'.less (by decide)) h3 h4 r5 r6 r7 r8 X.hd2 (off _ (by simp)) R.len fun t h₂ tk₂ hs₂ hat₂ => ?_
  have X₂ := (Fm.back (D := [(sa, SE p)]) (D' := [(sa, SE (p + (chr1 tx p).length))]) (M := [(x, IX C dx), (dx, NL box pb ln)]) X.rot3 hs₂ rfl (mem1 hat₂)).unrot3
  refine stL X₂ fun h₃ tk₃ X₃ => nx_next ?_
  refine wCons <| Wp.mono1 (Q := fun fl s₁ => fl = .next ∧ ∃ h₁₀ tk₁₀ l, s₁ = ⟨h₁₀, G, D, tk₁₀, O⟩ ∧ lk l "ch" = some (.str (ST (chr1 tx p)) t) ∧ Fm (minus h [x, dx, sa]) h.objs.size l (Lg C x dx box sa pb (ln + if chr1 tx p == [10] then 1 else 0) (p + (chr1 tx p).length)) h₁₀) (wIf <| wTst <| nmL X₃ rfl <| cS (l := [10]) rfl fun _ _ => eqS ⟨_, rfl, ?_⟩) ?_
  · cases hc : chr1 tx p == [10] with
    | false => exact wNil ⟨rfl, _, _, _, rfl, rfl, X₃⟩
    | true =>
      rw [if_pos rfl]
      have kk₃ := kg.trans X₃.sub
      obtain ⟨o2, e2, t2, tw2, hna2⟩ := X₃.hd1
      refine wCons <| wAuA <| nmL X₃ rfl <| gA (R.K.sub kk₃) X₃.hd ⟨o2, e2, hna2⟩ nd' rfl fun _ => cI fun _ _ => iaddI fun _ _ => sA (R.K.sub kk₃) X₃.hd ⟨o2, e2, hna2⟩ nd' fun h₄ tk₄ a1 a2 hs₄ => nx_next <| wNil ?_
      refine ⟨rfl, _, _, _, rfl, rfl, Fm.back (D := [(x, IX C dx), (dx, NL box pb ln)]) (D' := [(x, IX C dx), (dx, NL box pb (ln + 1))]) (M := [(sa, SE (p + (chr1 tx p).length))]) X₃ hs₄ rfl (mem2 a1 ?_)⟩
      obtain ⟨o3, e3, q3⟩ := a2
      exact ⟨o3, e3, _, _, q3.weak rfl⟩
  · rintro fl s₁ ⟨rfl, h₄, tk₄, l, rfl, hl, X₄⟩
    exact nx_next <| wCons <| wRet <| nmL X₄ hl <| nx_ret <| hQ _ _ _ X₄.sub X₄.led
end
end Mine
end
/-! ## Gt -/
section
open PySem PySem.W PyProof.Rows PySem.Calls
namespace Mine
/-! the lexer, plain -/
def isW (c : Nat) : Bool := [10, 9, 13, 32].contains c
def quo : List Nat → List Nat → List Nat × List Nat
  | [], acc => (acc, [])
  | c :: r, acc => if c == 34 then (acc, r) else if c == 92 then (match r with | [] => (acc, []) | d :: r' => quo r' (acc ++ [d])) else quo r (acc ++ [c])
def pla : List Nat → List Nat → List Nat × List Nat
  | [], acc => (acc, [])
  | c :: r, acc => if isW c then (acc, r) else if c == 92 then (match r with | [] => (acc, []) | d :: r' => pla r' (acc ++ [d])) else pla r (acc ++ [c])
def tokn : List Nat → List Nat × List Nat
  | [] => ([], [])
  | c :: r => if isW c then tokn r else if c == 34 then quo r [] else if c == 92 then (match r with | [] => ([], []) | d :: r' => pla r' [d]) else pla r [c]
def esc (c : Nat) (r : List Nat) : List Nat × List Nat := if c == 92 then (match r with | [] => ([], []) | d :: r' => ([d], r')) else ([c], r)
theorem quo_cons (c : Nat) (r acc : List Nat) : quo (c :: r) acc = if c == 34 then (acc, r) else quo (esc c r).2 (acc ++ (esc c r).1) := by
  conv => lhs; unfold quo
  unfold esc
  split
  · rfl
  · split
    · cases r with
      | nil => simp [quo]
      | cons d r' => rfl
    · rfl
theorem pla_cons (c : Nat) (r acc : List Nat) : pla (c :: r) acc = if isW c then (acc, r) else pla (esc c r).2 (acc ++ (esc c r).1) := by
  conv => lhs; unfold pla
  unfold esc
  split
  · rfl
  · split
    · cases r with
      | nil => simp [pla]
      | cons d r' => rfl
    · rfl
theorem tokn_cons (c : Nat) (r : List Nat) : tokn (c :: r) = if isW c then tokn r else if c == 34 then quo r [] else pla (esc c r).2 (esc c r).1 := by
  conv => lhs; unfold tokn
  unfold esc
  split
  · rfl
  · split
    · rfl
    · split
      · cases r with
        | nil => simp [pla]
        | cons d r' => rfl
      · rfl
theorem esc_len (c : Nat) (r : List Nat) : (esc c r).1.length ≤ 1 := by
  unfold esc
  split
  · split <;> simp
  · simp
def lnAt (tx : List Nat) (p : Nat) : Nat := 1 + (tx.take p).count 10
theorem drop_lt {tx : List Nat} {p c : Nat} {r : List Nat} (e : tx.drop p = c :: r) : p < tx.length ∧ tx.drop (p + 1) = r := by
  have hl : p < tx.length := by
    apply Nat.lt_of_not_le
    intro h
    rw [List.drop_of_length_le h] at e; cases e
  refine ⟨hl, ?_⟩
  rw [← List.drop_drop, e]; rfl
theorem lnAt_succ {tx : List Nat} {p c : Nat} {r : List Nat} (e : tx.drop p = c :: r) : lnAt tx (p + 1) = lnAt tx p + if c == 10 then 1 else 0 := by
  unfold lnAt
  have : tx[p]? = some c := by
    have := congrArg (fun l => l[0]?) e
    simpa [List.getElem?_drop] using this
  rw [List.take_add_one, this, List.count_append]
  simp [List.count_cons, Nat.add_assoc]
theorem chr1_cons {tx : List Nat} {p c : Nat} {r : List Nat} (e : tx.drop p = c :: r) : chr1 tx p = [c] := by unfold chr1; rw [e]; rfl
theorem chr1_nil {tx : List Nat} {p : Nat} (e : tx.drop p = []) : chr1 tx p = [] := by unfold chr1; rw [e]; rfl
def CIa (bm : Addr) (ts : Tok) : Pd := fun o => o = ciObj (.ref bm) (.str (ST []) ts) false
def CIe : Pd := fun o => o = ciObj .none .none true
section
variable {w : World} {A : Around} {E : Value → Shared → Prop} {h : Heap} {G : Array GenState} {D : Drawn} {tk : Nat} {O : OsState} {env : Env} {g : Heap} {l : List (Str × Value)} {mg mb : Str → Option Value}
  {C N x dx fI fR fT box sa pb L : Addr} {mN : Str → Option Value} {tx : List Nat}
theorem Room.in1 {n : Nat} (r : Room A (n + 1)) : Room A.in1 n := ⟨by have := r.1; show A.depth + n < _; omega, by have := r.2.1; show A.units + 1 + 10 * n < _; omega, r.2.2⟩
def GoC (G : Array GenState) (D : Drawn) (O : OsState) (Q : Flow → Shared → Prop) (J : Nat → Heap → Prop) (n : Nat) : Flow → Shared → Prop := fun f s => match f with
  | .next | .cont => ∃ m, m < n ∧ ∃ h tk, s = ⟨h, G, D, tk, O⟩ ∧ J m h
  | .brk => Q .next s
  | .ret v => Q (.ret v) s
theorem forC {y : Str} {py : Pos} {iter : Expr} {body : List Stmt} {pos : Pos} {Q : Flow → Shared → Prop}
    (k : Wp w A (eval iter env) (fun v s₁ => ∃ h₁ tk₁ it f sv e, s₁ = ⟨h₁, G, D, tk₁, O⟩ ∧ v = .ref it ∧ h₁.get? it = some (ciObj f sv e) ∧ ∃ (J : Nat → Heap → Prop) (n : Nat), J n h₁ ∧
      ∀ n h tk, J n h → Wp w A (pyNext (.ref it)) (fun r s₁ => match r with
        | none => Q .next s₁
        | some v => Wp w A (storeName env y v) (fun _ s₂ => Wp w A (execs body env) (GoC G D O Q J n) NoE s₂) NoE s₁) NoE ⟨h, G, D, tk, O⟩) NoE ⟨h, G, D, tk, O⟩)
    (hs : ∀ x, foldedSetIterable iter env x = pure x := by intro _; rfl) :
    Wp w A (exec (.For (.Name y py) iter body [] pos) env) Q NoE ⟨h, G, D, tk, O⟩ := by
  have pi := @pyIter_ci w A NoE
  simp only [Wp_eq] at *
  refine wpAny_For (wpAny_mono k (fun v s₁ q => ?_) fun _ _ e => e.elim) hs
  obtain ⟨h₁, tk₁, it, f, sv, e, rfl, rfl, hit, J, n, j0, jt⟩ := q
  refine pi hit ?_
  refine codeAny_forLoop_any (fun n s => ∃ h tk, s = ⟨h, G, D, tk, O⟩ ∧ J n h) ?_ n ⟨h₁, tk₁, rfl, j0⟩
  rintro m s ⟨hi, tki, rfl, hJ⟩
  refine wpAny_mono (jt m hi tki hJ) (fun r s₁ z => ?_) fun _ _ e => e.elim
  cases r with
  | none => exact wpAny_execs_nil z
  | some v =>
    refine wpAny_pure (assign_Name (wpAny_mono z (fun _ s₂ z₂ => wpAny_mono z₂ (fun f s₃ z₃ => ?_) fun _ _ e => e.elim) fun _ _ e => e.elim))
    cases f with
    | next => obtain ⟨m', hm, h₃, tk₃, rfl, q⟩ := z₃; exact ⟨m', hm, h₃, tk₃, rfl, q⟩
    | cont => obtain ⟨m', hm, h₃, tk₃, rfl, q⟩ := z₃; exact ⟨m', hm, h₃, tk₃, rfl, q⟩
    | brk => exact z₃
    | ret v => exact z₃
abbrev Lp1 (C x dx box sa pb : Addr) (tx : List Nat) (p : Nat) : List (Addr × Pd) := Lg C x dx box sa pb (lnAt tx p) p
theorem nxRc {p : Nat} {it bm : Addr} {ts : Tok} {Q : Option Value → Shared → Prop} (T : Tf mg mb g) (R : Rig g C N mN fI fR fT box sa pb tx) (F : Fm g L l ((it, CIa bm ts) :: Lp1 C x dx box sa pb tx p) h) (hb : g.get? bm = some (methodObj (.ref fR) (.ref x))) (room : Room A 3)
    (h3 : mg "len" = none) (h4 : mb "len" = some (.builtin "len"))
    (k1 : ∀ c r t h' tk', tx.drop p = c :: r → Fm g L l ((it, CIa bm ts) :: Lp1 C x dx box sa pb tx (p + 1)) h' → Q (some (.str (ST [c]) t)) ⟨h', G, D, tk', O⟩)
    (k2 : ∀ h' tk', tx.drop p = [] → Fm g L l ((it, CIe) :: Lp1 C x dx box sa pb tx p) h' → Q none ⟨h', G, D, tk', O⟩) : Wp w A (pyNext (.ref it)) Q NoE ⟨h, G, D, tk, O⟩ := by
  obtain ⟨oi, ei, rfl⟩ := F.hd
  obtain ⟨of, pm, c, doc, ho, hoc, hd, hcr⟩ := R.K.mR
  have nd := F.nd
  have nd3 : [x, dx, sa].Nodup := (List.nodup_cons.mp nd).2
  have hi3 : it ∉ [x, dx, sa] := (List.nodup_cons.mp nd).1
  have ng3 : ∀ a ∈ [x, dx, sa], g.get? a = none := fun a ha => by
    have : a ∈ ((Lp1 C x dx box sa pb tx p).map (·.1)) := ha
    obtain ⟨q, hq, rfl⟩ := List.mem_map.mp this
    exact F.ng q (.tail _ hq)
  have kg := F.sub
  refine next_ci room.2.2 ei (kg _ _ hb) (kg _ _ ho) hd ?_
  refine rc_spec T R kg room.in1 h3 h4 F.tl.led nd3 ng3 fun t h₁ tk₁ hs hled => ?_
  have kg1 : Sub g h₁ := (subMinus kg ng3).trans hs
  refine ⟨_, t, h₁, tk₁, rfl, rfl, hs _ _ (get_minus_of ei hi3), kg1 _ _ hb, kg1 _ _ ho, fun hne => ?_, fun he h₂ hat hx => ?_⟩
  · cases hdp : tx.drop p with
    | nil => exact absurd (chr1_nil hdp) hne
    | cons c r =>
      have e1 := chr1_cons hdp
      rw [e1] at hled ⊢
      have e2 : (if ([c] : List Nat) == [10] then 1 else 0) = (if c == 10 then 1 else 0) := by
        by_cases q : c = 10 <;> simp [q]
      rw [e2, ← lnAt_succ hdp] at hled
      have F' : Fm g L l (Lp1 C x dx box sa pb tx p ++ [(it, CIa bm ts)]) h := F.perm (List.perm_append_singleton _ _)
      exact k1 c r t h₁ tk₁ hdp ((Fm.back F' hs (D' := Lp1 C x dx box sa pb tx (p + 1)) rfl hled).perm (List.perm_append_singleton _ _).symm)
  · cases hdp : tx.drop p with
    | cons c r => rw [chr1_cons hdp] at he; cases he
    | nil =>
      have e1 := chr1_nil hdp
      rw [e1] at hled
      have F' : Fm g L l (Lp1 C x dx box sa pb tx p ++ [(it, CIa bm ts)]) h := F.perm (List.perm_append_singleton _ _)
      have F₁ := (Fm.back F' hs (D' := Lp1 C x dx box sa pb tx p) rfl hled).perm (List.perm_append_singleton _ _).symm
      obtain ⟨o2, e2, q2⟩ := hat
      exact k2 h₂ tk₁ hdp (F₁.upd (P' := CIe) e2 q2 hx)
/-- self._read_char() -/
theorem mcRc {p : Nat} {px apos pos : Pos} {i : Addr × Pd} {Q : Value → Shared → Prop} (T : Tf mg mb g) (R : Rig g C N mN fI fR fT box sa pb tx) (F : Fm g env.locals l (i :: Lp1 C x dx box sa pb tx p) h) (room : Room A 3)
    (h3 : mg "len" = none) (h4 : mb "len" = some (.builtin "len")) (hv : lk l "self" = some (.ref x))
    (k : ∀ t h' tk', Fm g env.locals l (i :: Lp1 C x dx box sa pb tx (p + (chr1 tx p).length)) h' → Q (.str (ST (chr1 tx p)) t) ⟨h', G, D, tk', O⟩)
    (hk : env.scope.kind = .function := by rfl) (hl : env.kindOf "self" = some .local := by rfl) (hline : (apos.endLine == pos.line) = true := by rfl)
    (hfew : ((backTo pos (starEach [] env)).all (fun x => !x.1) && (backToKw pos (keywordEach [] env)).all (fun x => x.1.isSome)
      && decide (([] : List Expr).length + ([] : List Keyword).length + (if ([] : List Keyword).isEmpty then 0 else 1) < 30)) = true := by rfl) :
    Wp w A (eval (.Call (.Attribute (.Name "self" px) "_read_char" apos) [] [] pos) env) Q NoE ⟨h, G, D, tk, O⟩ := by
  have nd := F.nd
  have nd3 : [x, dx, sa].Nodup := (List.nodup_cons.mp nd).2
  have ng3 : ∀ a ∈ [x, dx, sa], g.get? a = none := fun a ha => by
    have : a ∈ ((Lp1 C x dx box sa pb tx p).map (·.1)) := ha
    obtain ⟨q, hq, rfl⟩ := List.mem_map.mp this
    exact F.ng q (.tail _ hq)
  have kg := F.sub
  have nd' : dx ≠ x := by rintro rfl; simp at nd3
  obtain ⟨o1, e1, t1, tw1, hna⟩ := F.hd2
  refine clM (nmL F hv (fun pl => gM (R.K.sub kg) F.hd1 ⟨o1, e1, hna⟩ nd' R.K.nR (R.K.mR.sub kg) <| cw0 (R.K.mR.sub kg) <| rc_spec T R kg (room.less (by decide)) h3 h4 F.tl.led nd3 ng3 fun t h₁ tk₁ hs hled => ?_) hk hl) rfl hfew hline
  have F' : Fm g env.locals l (Lp1 C x dx box sa pb tx p ++ [i]) h := F.perm (List.perm_append_singleton _ _)
  refine k t h₁ tk₁ ((Fm.back F' hs (D' := Lp1 C x dx box sa pb tx (p + (chr1 tx p).length)) rfl ?_).perm (List.perm_append_singleton _ _).symm)
  cases hdp : tx.drop p with
  | nil => rw [chr1_nil hdp] at hled ⊢; exact hled
  | cons c r =>
    rw [chr1_cons hdp] at hled ⊢
    have e2 : (if ([c] : List Nat) == [10] then 1 else 0) = (if c == 10 then 1 else 0) := by
      by_cases q : c = 10 <;> simp [q]
    rw [e2, ← lnAt_succ hdp] at hled
    exact hled
theorem tL0 {a : Addr} {Q : Bool → Shared → Prop} (ha : At h a (PL [])) (k : ∀ tk', Q false ⟨h, G, D, tk', O⟩) : Wp w A (truthy (.ref a)) Q E ⟨h, G, D, tk, O⟩ := by
  rw [Wp_eq]
  exact wpAny_truthy_list (s := ⟨h, G, D, tk, O⟩) ha.isList (by simp) (k _)
/-- if ch == '\\': ch = self._read_char() -/
theorem escW {p c : Nat} {r : List Nat} {i : Addr × Pd} {t : Tok} {p1 p2 p3 p4 px apos pos p5 p6 : Pos} {kd : Nat} {Q : Flow → Shared → Prop} (T : Tf mg mb g) (R : Rig g C N mN fI fR fT box sa pb tx) (F : Fm g env.locals l (i :: Lp1 C x dx box sa pb tx (p + 1)) h) (room : Room A 3)
    (h3 : mg "len" = none) (h4 : mb "len" = some (.builtin "len")) (hv : lk l "self" = some (.ref x)) (hc : lk l "ch" = some (.str (ST [c]) t)) (hd : tx.drop p = c :: r)
    (k : ∀ p' t' h' tk' l', tx.drop p' = (esc c r).2 → p < p' → p' ≤ tx.length → lk l' "ch" = some (.str (ST (esc c r).1) t') → (∀ y : Str, y ≠ "ch" → lk l' y = lk l y) → Fm g env.locals l' (i :: Lp1 C x dx box sa pb tx p') h' → Q .next ⟨h', G, D, tk', O⟩)
    (hk : env.scope.kind = .function := by rfl) (hl : env.kindOf "self" = some .local := by rfl) (hlc : env.kindOf "ch" = some .local := by rfl) (hline : (apos.endLine == pos.line) = true := by rfl)
    (hp : (env.scope.kind == .class || (env.scope.kind == .module && env.locals != env.globals)) = false := by rfl)
    (hsw : swapsWith (.Call (.Attribute (.Name "self" px) "_read_char" apos) [] [] pos) (some (.Name "ch" p4)) p5.line env = pure false := by rfl)
    (hfew : ((backTo pos (starEach [] env)).all (fun x => !x.1) && (backToKw pos (keywordEach [] env)).all (fun x => x.1.isSome)
      && decide (([] : List Expr).length + ([] : List Keyword).length + (if ([] : List Keyword).isEmpty then 0 else 1) < 30)) = true := by rfl) :
    Wp w A (exec (.If (.Compare (.Name "ch" p1) [.Eq] [.Constant (.str "\\") kd p2] p3) [.Assign [.Name "ch" p4] (.Call (.Attribute (.Name "self" px) "_read_char" apos) [] [] pos) p5] [] p6) env) Q NoE ⟨h, G, D, tk, O⟩ := by
  obtain ⟨hlt, hd1⟩ := drop_lt hd
  refine wIf <| wTst <| nmL F hc (cS (l := [92]) rfl fun _ _ => eqS ⟨_, rfl, ?_⟩) hk hlc
  by_cases h92 : c = 92
  · subst h92
    rw [if_pos (by decide)]
    refine wCons <| wAsg (mcRc T R F room h3 h4 hv (fun t₁ h₁ tk₁ F₁ => stL F₁ (fun h₂ tk₂ F₂ => nx_next <| wNil ?_) hlc hp) hk hl hline hfew) hsw
    have hne : ∀ y : Str, y ≠ "ch" → lk ((("ch" : Str), Value.str (ST (chr1 tx (p + 1))) t₁) :: l) y = lk l y := fun y hy => by rw [← lk_cons]; exact if_neg hy
    cases hr : r with
    | nil =>
      rw [hr] at hd1
      have e1 := chr1_nil hd1
      rw [e1] at F₂ hne
      have ee : esc 92 r = ([], []) := by rw [hr]; rfl
      rw [ee] at k
      exact k (p + 1) t₁ h₂ tk₂ _ hd1 (by omega) (by omega) rfl hne F₂
    | cons d r' =>
      rw [hr] at hd1
      have e1 := chr1_cons hd1
      rw [e1] at F₂ hne
      have ee : esc 92 r = ([d], r') := by rw [hr]; rfl
      rw [ee] at k
      obtain ⟨hlt2, hd2⟩ := drop_lt hd1
      exact k (p + 1 + 1) t₁ h₂ tk₂ _ hd2 (by omega) (by omega) rfl hne F₂
  · rw [if_neg (by simpa using h92)]
    have e : esc c r = ([c], r) := by unfold esc; rw [if_neg (by simpa using h92)]
    rw [e] at k
    exact wNil <| k _ t h _ l hd1 (by omega) (by omega) hc (fun _ _ => rfl) F
set_option maxHeartbeats 4000000 in
theorem gt_spec {p : Nat} {Q : Value → Shared → Prop} (T : Tf mg mb g) (R : Rig g C N mN fI fR fT box sa pb tx) (k : Sub g h) (room : Room A 4)
    (h3 : mg "len" = none) (h4 : mb "len" = some (.builtin "len")) (h5 : mg "iter" = none) (h6 : mb "iter" = some (.builtin "iter")) (led : ∀ a ∈ Lp1 C x dx box sa pb tx p, At h a.1 a.2) (nd : [x, dx, sa].Nodup) (off : ∀ a ∈ [x, dx, sa], g.get? a = none)
    (hQ : ∀ t h' tk' p', tx.drop p' = (tokn (tx.drop p)).2 → p' ≤ tx.length → Sub (minus h [x, dx, sa]) h' → (∀ a ∈ Lp1 C x dx box sa pb tx p', At h' a.1 a.2) → Q (.str (ST (tokn (tx.drop p)).1) t) ⟨h', G, D, tk', O⟩) (hp : p ≤ tx.length) :
    codeAny (model pr w) A (.call (.ref fT) ⟨[.ref x], []⟩) (Rq Q E) ⟨h, G, D, tk, O⟩ := by
  refine enterM (Lp1 C x dx box sa pb tx p) [("self", .ref x)] T R.K.mT k room.depth led nd fun h₁ cd tk₁ X => ?_
  have room' := room.deeper (n := 3) (env := envC "_netrclex.get_token" (metAt 2).2.2 [] h.objs.size fT (.ref cd))
  have kg : Sub g (minus h [x, dx, sa]) := subMinus k off
  have nd' : dx ≠ x := by
    rintro rfl; simp at nd
  obtain ⟨o1, e1, t1, tw1, hna⟩ := X.hd1
  have kk := kg.trans X.sub
  refine ifNo <| wTV <| wAt <| nmL X rfl <| gA (R.K.sub kk) X.hd ⟨o1, e1, hna⟩ nd' rfl fun _ => tL0 (R.pbk.sub kk) fun _ => ⟨rfl, ?_⟩
  refine wCons <| wAsg <| cS (l := []) rfl fun _ _ => stL X fun h₂ tk₂ X₂ => nx_next ?_
  obtain ⟨o2, e2, t2, tw2, hna2⟩ := X₂.hd1
  have kk₂ := kg.trans X₂.sub
  refine wCons <| wAsg <| clB (T.sub kk₂) h5 h6 <| ar1 <| wAt <| nmL X₂ rfl <| gB (R.K.sub kk₂) X₂.hd ⟨o2, e2, hna2⟩ nd' R.K.nR (R.K.mR.sub kk₂) fun bm h₃ tk₃ hbm hs₃ hat₃ => ar1 <| cS (l := []) rfl fun ts _ => ar0 ?_
  have X₃ := X₂.newA (P := fun o => o = methodObj (.ref fR) (.ref x)) hs₃ hbm ⟨_, hat₃, rfl⟩
  refine iterF hat₃ fun it h₄ hit hs₄ hat₄ => ?_
  obtain ⟨g₄, hg₄, X₄, ⟨_, hbm₄, rfl⟩⟩ := X₃.shut
  have X₅ := X₄.newA (P := CIa bm ts) hs₄ hit ⟨_, hat₄, rfl⟩
  refine stL X₅ fun h₆ tk₆ X₆ => nx_next ?_
  have kg₄ : Sub g g₄ := kg.trans hg₄
  have T₄ := T.sub kg₄
  have R₄ := R.sub kg₄
  have hend : ∀ p' l M (h' : Heap) tk' t, p' ≤ tx.length → Fm g₄ h.objs.size l (M :: Lp1 C x dx box sa pb tx p') h' → tokn (tx.drop p) = ((tokn (tx.drop p)).1, tx.drop p') → Q (.str (ST (tokn (tx.drop p)).1) t) ⟨h', G, D, tk', O⟩ := by
    intro p' l M h' tk' t hp' F e
    refine hQ t h' tk' p' (by rw [e]) hp' (hg₄.trans F.sub) F.tl.led
  clear X X₂ X₃ X₄ X₅ hat₃ hat₄ hs₃ hs₄ hit hbm
  have hfin : ∀ p' tok t l (M : Addr × Pd) (h' : Heap) tk', p' ≤ tx.length → Fm g₄ h.objs.size l (M :: Lp1 C x dx box sa pb tx p') h' → tokn (tx.drop p) = (tok, tx.drop p') → Q (.str (ST tok) t) ⟨h', G, D, tk', O⟩ := by
    intro p' tok t l M h' tk' hp' F e
    have := hend p' l M h' tk' t hp' F (by rw [e])
    rw [e] at this; exact this
  clear hend
  generalize hgoal : tokn (tx.drop p) = goal at hfin
  let Nm3 (tok : List Nat) (t : Tok) : List (Str × Value) := [("token", .str (ST tok) t), ("fiter", .ref it), ("self", .ref x)]
  let Jo : Nat → Heap → Prop := fun n h' => (∃ p t, p ≤ tx.length ∧ Fm g₄ h.objs.size (Nm3 [] t) ((it, CIa bm ts) :: Lp1 C x dx box sa pb tx p) h' ∧ tokn (tx.drop p) = goal ∧ n = (tx.drop p).length + 1) ∨
    (∃ tok t, Fm g₄ h.objs.size (Nm3 tok t) ((it, CIe) :: Lp1 C x dx box sa pb tx tx.length) h' ∧ goal = (tok, []) ∧ n = 0)
  refine wCons <| Wp.mono1 (Q := fun fl s₁ => match fl with
    | .ret v => Q v s₁
    | .next => ∃ tok t p' h' tk' M, s₁ = ⟨h', G, D, tk', O⟩ ∧ p' ≤ tx.length ∧ Fm g₄ h.objs.size (Nm3 tok t) (M :: Lp1 C x dx box sa pb tx p') h' ∧ goal = (tok, tx.drop p')
    | _ => False) (forC <| nmL X₆ rfl ⟨_, _, it, _, _, _, rfl, rfl, (let ⟨_, e, q⟩ := X₆.hd; by rw [q] at e; exact e), Jo, (tx.drop p).length + 1, .inl ⟨p, _, hp, X₆.on _ rfl, hgoal, rfl⟩, ?_⟩) ?_
  · rintro n h' tk' (⟨p, t, hp, F, hg, rfl⟩ | ⟨tok, t, F, hg, rfl⟩)
    · refine nxRc T₄ R₄ F hbm₄ room' h3 h4 (fun c r tc h₁ tk₁ hd F₁ => stL F₁ fun h₂ tk₂ F₂ => ?_) (fun h₁ tk₁ hd F₁ => ?_)
      · obtain ⟨hlt, hd1⟩ := drop_lt hd
        rw [hd, tokn_cons] at hg
        have hlen : (tx.drop p).length = r.length + 1 := by rw [hd]; rfl
        obtain ⟨oa, ea, ta, twa, hnaa⟩ := F₂.hd2
        have kk₂ := kg₄.trans F₂.sub
        refine wCons <| wIf <| wTst <| nmL F₂ rfl <| wAt <| nmL F₂ rfl <| gA (R.K.sub kk₂) F₂.hd1 ⟨oa, ea, hnaa⟩ nd' rfl fun _ => inS ⟨_, rfl, ?_⟩
        cases hw : isW c with
        | true =>
          rw [if_pos hw] at hg
          rw [if_pos (show [10, 9, 13, 32].contains c = true from hw)]
          refine wCons <| wCont <| nx_cont <| nx_cont ⟨(tx.drop (p + 1)).length + 1, by rw [hd1]; omega, h₂, _, rfl, .inl ⟨p + 1, _, hlt, F₂.on _ rfl, by rw [hd1]; exact hg, rfl⟩⟩
        | false =>
          rw [if_neg (by rw [hw]; decide)] at hg
          rw [if_neg (show ¬ ([10, 9, 13, 32].contains c = true) by rw [show [10, 9, 13, 32].contains c = false from hw]; decide)]
          refine wNil <| nx_next <| wCons <| wIf <| wTst <| nmL F₂ rfl <| cS (l := [34]) rfl fun _ _ => eqS ⟨_, rfl, ?_⟩
          have fin : ∀ (tok : List Nat) (t : Tok) (h' : Heap) (tk' : Nat), Fm g₄ h.objs.size (Nm3 tok t) ((it, CIe) :: Lp1 C x dx box sa pb tx tx.length) h' → goal = (tok, []) → ∃ m, m < (tx.drop p).length + 1 ∧ ∃ h tk, (⟨h', G, D, tk', O⟩ : Shared) = ⟨h, G, D, tk, O⟩ ∧ Jo m h :=
            fun tok t h' tk' Z e => ⟨0, by omega, h', tk', rfl, .inr ⟨tok, t, Z, e, rfl⟩⟩
          by_cases h34 : c = 34
          · subst h34
            rw [if_pos (by decide)] at hg ⊢
            let Jq : Nat → Heap → Prop := fun n h' => ∃ p tok t, p ≤ tx.length ∧ tok.length ≤ p ∧ Fm g₄ h.objs.size (Nm3 tok t) ((it, CIa bm ts) :: Lp1 C x dx box sa pb tx p) h' ∧ quo (tx.drop p) tok = goal ∧ n = (tx.drop p).length
            refine wCons <| forC <| nmL F₂ rfl ⟨_, _, it, _, _, _, rfl, rfl, (let ⟨_, e, q⟩ := F₂.hd; by rw [q] at e; exact e), Jq, (tx.drop (p + 1)).length, ⟨p + 1, [], _, hlt, by simp, F₂.on _ rfl, by rw [hd1]; exact hg, rfl⟩, ?_⟩
            rintro n h' tk' ⟨p, tok, t, hp, hto, F, hg, rfl⟩
            refine nxRc T₄ R₄ F hbm₄ room' h3 h4 (fun c r tc h₁ tk₁ hd F₁ => stL F₁ fun h₂ tk₂ F₂ => ?_) (fun h₁ tk₁ hd F₁ => ?_)
            · obtain ⟨hlt, hd1⟩ := drop_lt hd
              rw [hd, quo_cons] at hg
              have hlen : (tx.drop p).length = r.length + 1 := by rw [hd]; rfl
              refine wCons <| wIf <| wTst <| nmL F₂ rfl <| cS (l := [34]) rfl fun _ _ => eqS ⟨_, rfl, ?_⟩
              by_cases h34 : c = 34
              · subst h34
                rw [if_pos (by decide)] at hg ⊢
                exact wCons <| wRet <| nmL F₂ rfl <| nx_ret <| nx_ret <| hfin (p + 1) tok t _ _ _ _ hlt F₂ (by rw [hd1]; exact hg.symm)
              · rw [if_neg (by simpa using h34)] at hg ⊢
                refine wCons <| escW T₄ R₄ F₂ room' h3 h4 rfl rfl hd fun p' t' h₃ tk₃ l' e1 e2 e3 e4 e5 F₃ => nx_next <| wNil <| nx_next ?_
                have el := esc_len c r
                refine wCons <| wAug <| ldL F₃ ((e5 _ (by decide)).trans rfl) <| nmL F₃ e4 <| iaddS (by have := R.len; rw [sizeLine_eq]; omega) fun _ _ => stL F₃ fun h₄ tk₄ F₄ => nx_next <| wNil ?_
                refine ⟨(tx.drop p').length, by simp only [List.length_drop]; omega, _, _, rfl, p', _, _, e3, by rw [List.length_append]; omega, F₄.only _ (kn1 rfl (kn1 ((e5 _ (by decide)).trans rfl) (kn1 ((e5 _ (by decide)).trans rfl) kn0))), by rw [e1]; exact hg, rfl⟩
            · rw [hd] at hg
              have : p = tx.length := by
                have := congrArg List.length hd
                simp at this; omega
              subst this
              exact nx_next <| wNil <| nx_next <| wNil <| fin tok t h₁ tk₁ F₁ hg.symm
          · rw [if_neg (by simpa using h34)] at hg ⊢
            refine wCons <| escW T₄ R₄ F₂ room' h3 h4 rfl rfl hd fun p₁ t₁ h₃ tk₃ l₁ e1 e2 e3 e4 e5 F₃ => nx_next ?_
            have el := esc_len c r
            refine wCons <| wAug <| ldL F₃ ((e5 _ (by decide)).trans rfl) <| nmL F₃ e4 <| iaddS (by rw [sizeLine_eq]; simp; omega) fun _ _ => stL F₃ fun h₄ tk₄ F₄ => nx_next ?_
            have F₅ : Fm _ _ (Nm3 ([] ++ (esc c r).1) _) _ _ := F₄.only _ (kn1 rfl (kn1 ((e5 _ (by decide)).trans rfl) (kn1 ((e5 _ (by decide)).trans rfl) kn0)))
            let Jp : Nat → Heap → Prop := fun n h' => ∃ p tok t, p ≤ tx.length ∧ tok.length ≤ p ∧ Fm g₄ h.objs.size (Nm3 tok t) ((it, CIa bm ts) :: Lp1 C x dx box sa pb tx p) h' ∧ pla (tx.drop p) tok = goal ∧ n = (tx.drop p).length
            refine wCons <| forC <| nmL F₅ rfl ⟨_, _, it, _, _, _, rfl, rfl, (let ⟨_, e, q⟩ := F₅.hd; by rw [q] at e; exact e), Jp, (tx.drop p₁).length, ⟨p₁, _, _, e3, by rw [List.nil_append]; omega, F₅, by rw [e1]; exact hg, rfl⟩, ?_⟩
            clear F₂ F₃ F₄ F₅
            rintro n h' tk' ⟨p, tok, t, hp, hto, F, hg, rfl⟩
            refine nxRc T₄ R₄ F hbm₄ room' h3 h4 (fun c r tc h₁ tk₁ hd F₁ => stL F₁ fun h₂ tk₂ F₂ => ?_) (fun h₁ tk₁ hd F₁ => ?_)
            · obtain ⟨hlt, hd1⟩ := drop_lt hd
              rw [hd, pla_cons] at hg
              have hlen : (tx.drop p).length = r.length + 1 := by rw [hd]; rfl
              obtain ⟨oa, ea, ta, twa, hnaa⟩ := F₂.hd2
              have kk₂ := kg₄.trans F₂.sub
              refine wCons <| wIf <| wTst <| nmL F₂ rfl <| wAt <| nmL F₂ rfl <| gA (R.K.sub kk₂) F₂.hd1 ⟨oa, ea, hnaa⟩ nd' rfl fun _ => inS ⟨_, rfl, ?_⟩
              cases hw : isW c with
              | true =>
                rw [if_pos hw] at hg
                rw [if_pos (show [10, 9, 13, 32].contains c = true from hw)]
                exact wCons <| wRet <| nmL F₂ rfl <| nx_ret <| nx_ret <| hfin (p + 1) tok t _ _ _ _ hlt F₂ (by rw [hd1]; exact hg.symm)
              | false =>
                rw [if_neg (by rw [hw]; decide)] at hg
                rw [if_neg (show ¬ ([10, 9, 13, 32].contains c = true) by rw [show [10, 9, 13, 32].contains c = false from hw]; decide)]
                refine wCons <| escW T₄ R₄ F₂ room' h3 h4 rfl rfl hd fun p' t' h₃ tk₃ l' e1 e2 e3 e4 e5 F₃ => nx_next <| wNil <| nx_next ?_
                have el := esc_len c r
                refine wCons <| wAug <| ldL F₃ ((e5 _ (by decide)).trans rfl) <| nmL F₃ e4 <| iaddS (by have := R.len; rw [sizeLine_eq]; omega) fun _ _ => stL F₃ fun h₄ tk₄ F₄ => nx_next <| wNil ?_
                refine ⟨(tx.drop p').length, by simp only [List.length_drop]; omega, _, _, rfl, p', _, _, e3, by rw [List.length_append]; omega, F₄.only _ (kn1 rfl (kn1 ((e5 _ (by decide)).trans rfl) (kn1 ((e5 _ (by decide)).trans rfl) kn0))), by rw [e1]; exact hg, rfl⟩
            · rw [hd] at hg
              have : p = tx.length := by
                have := congrArg List.length hd
                simp at this; omega
              subst this
              exact nx_next <| wNil <| nx_next <| wNil <| fin tok t h₁ tk₁ F₁ hg.symm
      · rw [hd] at hg
        exact ⟨[], _, p, h₁, tk₁, _, rfl, hp, F₁, by rw [hd]; exact hg.symm⟩
    · obtain ⟨oi, ei, rfl⟩ := F.hd
      refine next_ci_end room'.2.2 ei fun h₁ hs₁ => ⟨tok, _, tx.length, h₁, _, _, rfl, Nat.le_refl _, F.keeps hs₁, by rw [hg]; simp⟩
  · rintro fl s₁ z
    cases fl with
    | ret v => exact nx_ret z
    | next =>
      obtain ⟨tok, t, p', h', tk', M, rfl, hp', F, hg⟩ := z
      exact nx_next <| wCons <| wRet <| nmL F rfl <| nx_ret <| hfin p' tok t _ M h' tk' hp' F hg
    | cont => exact z.elim
    | brk => exact z.elim
end
end Mine
end
/-! ## Mo -/
section
open PySem PySem.W PyProof.Rows PySem.Calls
namespace Mine
section
variable {w : World} {A : Around} {E : Value → Shared → Prop} {h : Heap} {G : Array GenState} {D : Drawn} {tk : Nat} {O : OsState} {env : Env} {g : Heap} {l : List (Str × Value)} {mg mb : Str → Option Value}
  {C N fI fR fT : Addr} {mN : Str → Option Value} {tx : List Nat}
theorem Fm.backI {g h h' : Heap} {L x dx : Addr} {l : List (Str × Value)} {M : List (Addr × Pd)} {P P' R R' : Pd} (F : Fm g L l ((x, P) :: (dx, P') :: M) h) (hs : Sub (minus h [x, dx]) h') (a : At h' x R) (b : At h' dx R') : Fm g L l ((x, R) :: (dx, R') :: M) h' :=
  Fm.back (D := [(x, P), (dx, P')]) (D' := [(x, R), (dx, R')]) F hs rfl (mem2 a b)
theorem Room.make {n : Nat} {vals : List Value} (r : Room A (n + 1)) : Room (A.under (.builtin "type.__call__" ⟨.ref C :: vals, []⟩)) n := by
  refine ⟨?_, ?_, r.2.2⟩
  · have := r.1; rw [depth_under_make]; omega
  · have := r.2.1
    show A.units + (Code.cUnits (.builtin "type.__call__" ⟨.ref C :: vals, []⟩)) + 10 * n < _
    have : Code.cUnits (.builtin "type.__call__" ⟨.ref C :: vals, []⟩) ≤ 10 := by
      show 1 + 3 * (Code.frames (.builtin "type.__call__" ⟨.ref C :: vals, []⟩)) ≤ 10
      have : Code.frames (.builtin "type.__call__" ⟨.ref C :: vals, []⟩) = 0 := by rfl
      omega
    omega
set_option maxHeartbeats 2000000 in
theorem mk_spec {fp : Value} {Q : Value → Shared → Prop} (T : Tf mg mb g) (K : Kl g C N mN fI fR fT) (k : Sub g h) (room : Room A 3)
    (hQ : ∀ x dx pb h' tk' t tw, h.get? x = none → h.get? dx = none → h.get? pb = none → [x, dx, pb].Nodup → Sub h h' → At h' x (IX C dx) →
      At h' dx (NA [("pushback", .ref pb), ("whitespace", .str (ST [10, 9, 13, 32]) tw), ("instream", fp), ("lineno", .int 1 t)]) → At h' pb (PL []) → Q (.ref x) ⟨h', G, D, tk', O⟩) :
    Wp w A (call (.ref C) [fp]) Q E ⟨h, G, D, tk, O⟩ := by
  rw [Wp_eq]
  have Kh := K.sub k
  obtain ⟨nm, q, bs, sn, sub, col, dd, k0, k1, k2, k3, k5, hC⟩ := Kh.cls.obj
  obtain ⟨oI, pm, cdI, doc, hoI, hcI, hdI, hcrI⟩ := id Kh.mI
  refine wpAny_call_obj_init PySem.F.objNew hC Kh.cls.ns Kh.nI hoI hcI fun h₁ x dx Mk => ?_
  obtain ⟨o, hx, hc, hnc, hd⟩ := Mk.inst
  have hdx := Mk.dict o hx
  have hsub : Sub h h₁ := Mk.keeps
  have ax : At h₁ x (IX C dx) := ⟨o, hx, hc, hnc, hdx⟩
  have adx : At h₁ dx (NA []) ∧ dx ≠ x := by
    rcases hd with ⟨hn0, _⟩ | ⟨d', hd', hne, od, es, ep, e1, e2, e3, e4, e5⟩
    · rw [hn0] at hdx; cases hdx
    · obtain rfl := Option.some.inj (hd'.symm.trans hdx)
      exact ⟨⟨od, e1, _, es, ep, e2, e3, e4, e5, (fun y v e => nomatch (show none = some v from e)), (fun y hy => absurd rfl hy)⟩, hne⟩
  have kg : Sub g h₁ := k.trans hsub
  refine wpAny_call (codeAny_mono (R := Rq (fun r s' => r = .none ∧ Q (.ref x) s') NoE) ?_ fun r s' z => ?_)
  · refine enterM [(x, IX C dx), (dx, NA [])] [("fp", fp), ("self", .ref x)] T K.mI kg room.make.depth (mem2 ax adx.1) (by simp; exact fun e => adx.2 e.symm) fun h₂ cd tk₂ X => ?_
    have off : ∀ a ∈ [x, dx], g.get? a = none := by
      intro a ha
      rcases List.mem_cons.mp ha with rfl | ha
      · exact k.none Mk.newX
      · rw [List.mem_singleton] at ha; subst ha; exact k.none Mk.newD
    have kg' : Sub g (minus h₁ [x, dx]) := subMinus kg off
    have kh' : Sub h (minus h₁ [x, dx]) := subMinus hsub (by
      intro a ha
      rcases List.mem_cons.mp ha with rfl | ha
      · exact Mk.newX
      · rw [List.mem_singleton] at ha; subst ha; exact Mk.newD)
    refine wCons <| wAsA <| cI fun t1 _ => nmL X rfl <| sA (K.sub (kg'.trans X.sub)) X.hd X.hd1 adx.2 fun h₃ tk₃ a3 b3 s3 => nx_next ?_
    have X₃ := X.backI s3 a3 b3
    refine wCons <| wAsA <| nmL X₃ rfl <| nmL X₃ rfl <| sA (K.sub (kg'.trans X₃.sub)) X₃.hd X₃.hd1 adx.2 fun h₄ tk₄ a4 b4 s4 => nx_next ?_
    have X₄ := X₃.backI s4 a4 b4
    refine wCons <| wAsA <| cS (l := [10, 9, 13, 32]) rfl fun tw _ => nmL X₄ rfl <| sA (K.sub (kg'.trans X₄.sub)) X₄.hd X₄.hd1 adx.2 fun h₅ tk₅ a5 b5 s5 => nx_next ?_
    have X₅ := X₄.backI s5 a5 b5
    refine wCons <| wAsA <| lstM <| ar0 ⟨_, _, rfl, by simp, fun pb h₆ hpb hs₆ hat₆ => ?_⟩
    have X₆ := X₅.newA hs₆ hpb hat₆
    refine nmL X₆ rfl <| sA (K.sub (kg'.trans X₆.sub)) X₆.hd1 X₆.hd2 adx.2 fun h₇ tk₇ a7 b7 s7 => nx_next <| wNil ?_
    have X₇ := (X₆.rot3.rot3).backI s7 a7 b7
    refine ⟨rfl, hQ x dx pb h₇ tk₇ t1 tw Mk.newX Mk.newD (X₇.gnone (.tail _ (.tail _ (.head _))) kh') X₇.nd (kh'.trans X₇.sub) X₇.hd X₇.hd1 X₇.hd2⟩
  · rcases r with e | fl
    · exact z.elim
    · cases fl with
      | ret v => exact z
      | next => exact z.elim
      | cont => exact z.elim
      | brk => exact z.elim
end
end Mine
end
/-! ## Sm -/
section
open PySem PySem.W PyProof.Rows PySem.Calls
namespace Mine
def CE (v : Option Value) : Pd := fun o => o.data = .cell v
/-- the code table of a function that makes a function at pos -/
def TB (pos : Pos) (o : Option Addr) : Pd := fun ob => ∃ ps : Array Value, ob = tabObj ps ∧ TriplesOk ps.toList ∧ codeAmong pos ps.toList = o.map .ref
/-- a def of the top, its code known -/
structure FnC (g : Heap) (mg : Str → Option Value) (i : Nat) (x : Str) (f c : Addr) : Prop where
  nm : mg x = some (.ref f)
  ex : ∃ o pm doc, g.get? f = some o ∧ o.data = .func (docDef x (fnAt i).1 (fnAt i).2.1 (fnAt i).2.2 pm (.ref c) doc) ∧ g.CodeRec (.ref c) x
theorem FnC.sub {g h : Heap} {mg : Str → Option Value} {i : Nat} {x : Str} {f c : Addr} (H : FnC g mg i x f c) (k : Sub g h) : FnC h mg i x f c :=
  let ⟨o, pm, doc, a, b, d⟩ := H.ex; ⟨H.nm, o, pm, doc, k _ _ a, b, d.keeps k⟩
theorem FnC.fn {g : Heap} {mg : Str → Option Value} {i : Nat} {x : Str} {f c : Addr} (H : FnC g mg i x f c) : Fn g mg i x f := let ⟨o, pm, doc, a, b, d⟩ := H.ex; ⟨H.nm, o, pm, c, doc, a, b, d⟩
section
variable {w : World} {A : Around} {E : Value → Shared → Prop} {h : Heap} {G : Array GenState} {D : Drawn} {tk : Nat} {O : OsState} {env : Env} {g : Heap} {l : List (Str × Value)} {M : List (Addr × Pd)} {mg mb : Str → Option Value}
  {C N fI fR fT : Addr} {mN : Str → Option Value} {tx : List Nat}
theorem enterK {i : Nat} {x : Str} {f c : Addr} {vals : List Value} {Q : Value → Shared → Prop} (Dl : List (Addr × Pd)) (binds bl : List (Str × Value)) (cs : List (Str × Addr)) (Mc : List (Addr × Pd)) (T : Tf mg mb g) (H : FnC g mg i x f c) (k : Sub g h) (hroom : A.depth < recursionLimit)
    (led : ∀ a ∈ Dl, At h a.1 a.2) (nd : (Dl.map (·.1)).Nodup)
    (kk : ∀ h₁ tk', Fm (minus h (Dl.map (·.1))) h.objs.size bl (Mc ++ Dl) h₁ → Wp w (A.deeper (envOfC x (fnAt i).2.2 h.objs.size f (.ref c))) (execs (fnAt i).2.1 (envOfC x (fnAt i).2.2 h.objs.size f (.ref c)))
      (fun fl s' => Q (retOf fl) s') (fun _ _ => False) ⟨h₁, G, D, tk', O⟩)
    (hcs : cellsFrom (h.objs.size + 1) (fnAt i).2.2.names [] = cs := by rfl)
    (hlk : cs.map (fun p => cs.lookup p.1) = cs.map (fun p => some p.2) := by rfl)
    (hMc : cs.map (fun p => (p.2, CE (bindC (envOfC x (fnAt i).2.2 h.objs.size f (.ref c)).kindOf binds (fun _ => none) p.1))) = Mc := by rfl)
    (hbl : bl.map (fun p => bindL (envOfC x (fnAt i).2.2 h.objs.size f (.ref c)).kindOf binds (fun _ => none) p.1) = bl.map (fun p => some p.2) := by rfl)
    (hbind : ∀ pm doc, bindArgs (docDef x (fnAt i).1 (fnAt i).2.1 (fnAt i).2.2 pm (.ref c) doc) ⟨vals, []⟩ = pure binds := by intro _ _; rfl)
    (hkind : ∀ x ∈ binds, (fnAt i).2.2.names.lookup x.1 = some .local ∨ ((fnAt i).2.2.names.lookup x.1 = some .cell ∧ ((cellsFrom (h.objs.size + 1) (fnAt i).2.2.names []).lookup x.1).isSome = true))
    (hco : (fnAt i).2.2.isCoroutine = false := by rfl) (hgen : (fnAt i).2.2.isGenerator = false := by rfl) (hk : (fnAt i).2.2.kind = .function := by rfl) :
    Wp w A (call (.ref f) vals) Q E ⟨h, G, D, tk, O⟩ := by
  obtain ⟨o, pm, doc, ho, hdat, hc⟩ := H.ex
  have all : ∀ {α β : Type} (l : List α) (F G : α → β), l.map F = l.map G → ∀ p ∈ l, F p = G p := by
    intro α β l F G e p hp
    induction l with
    | nil => cases hp
    | cons q r ih =>
      simp only [List.map_cons, List.cons.injEq] at e
      rcases List.mem_cons.mp hp with rfl | hp
      · exact e.1
      · exact ih e.2 hp
  rw [Wp_eq]
  refine wpAny_call (call_cells_ret (s := ⟨h, G, D, tk, O⟩) hroom (k _ _ ho) hdat (T.nl.keeps k) (hc.keeps k) (hbind pm doc) hkind (fun h₁ tk₁ F X => ?_) hco hgen hk)
  have lt : ∀ a ∈ Dl, a.1 < h.objs.size := fun a ha => let ⟨_, e, _⟩ := led a ha; Heap.lt_size e
  rw [hcs] at X
  have hin : ∀ p ∈ Mc, ∃ q ∈ cs, p = (q.2, CE (bindC (envOfC x (fnAt i).2.2 h.objs.size f (.ref c)).kindOf binds (fun _ => none) q.1)) := fun p hp => by
    rw [← hMc] at hp
    obtain ⟨q, hq, e⟩ := List.mem_map.mp hp
    exact ⟨q, hq, e.symm⟩
  have above : ∀ p ∈ Mc, h.objs.size < p.1 := fun p hp => by
    obtain ⟨q, hq, rfl⟩ := hin p hp
    exact X.above q.1 q.2 hq
  have F' : Fm (minus h (Dl.map (·.1))) h.objs.size bl (Mc ++ Dl) h₁ := by
    refine ⟨⟨_, F.ns, fun y v e => ?_⟩, (minus_sub _ _).trans F.keep, (minus_sub _ _).none (fresh_none h), fun a ha => ?_, fun a ha => ?_, fun a ha => ?_, ?_⟩
    · exact all bl _ _ hbl (y, v) (mem_of_lookup e)
    · rcases List.mem_append.mp ha with ha | ha
      · obtain ⟨q, hq, rfl⟩ := hin a ha
        obtain ⟨oc, e, d⟩ := X.cell q.1 q.2 (all cs _ _ hlk q hq)
        exact ⟨oc, e, d⟩
      · exact (led a ha).sub F.keep
    · rcases List.mem_append.mp ha with ha | ha
      · exact Nat.ne_of_gt (above a ha)
      · exact Nat.ne_of_lt (lt a ha)
    · rcases List.mem_append.mp ha with ha | ha
      · exact (minus_sub _ _).none (Heap.get?_none_of_le (Nat.le_of_lt (above a ha)))
      · exact get_minus_in (List.mem_map_of_mem ha)
    · rw [List.map_append]
      refine List.nodup_append.mpr ⟨?_, nd, fun a ha b hb e => ?_⟩
      · rw [← hMc, List.map_map]
        exact List.pairwise_map.mpr X.apart
      · obtain ⟨p, hp, rfl⟩ := List.mem_map.mp ha
        obtain ⟨q, hq, rfl⟩ := List.mem_map.mp hb
        exact absurd (Nat.lt_trans (above p hp) (e ▸ lt q hq)) (Nat.lt_irrefl _)
  have z := kk h₁ tk₁ F'
  rw [Wp_eq] at z
  refine wpAny_mono z (fun fl s' q => ?_) fun _ _ q => q.elim
  cases fl <;> exact q
theorem nmC {x : Str} {pos : Pos} {c : Addr} {v : Value} {Q : Value → Shared → Prop} (hv : At h c (CE (some v))) (k : Q v ⟨h, G, D, tk, O⟩) (hc : env.cells.lookup x = some c := by rfl)
    (hk : env.scope.kind = .function := by rfl) (hl : env.kindOf x = some .cell := by rfl) (hd : (x == ("__debug__" : Str)) = false := by decide) :
    Wp w A (eval (.Name x pos) env) Q E ⟨h, G, D, tk, O⟩ := by rw [Wp_eq]; exact wpAny_Name (wpAny_loadName_cell (s := ⟨h, G, D, tk, O⟩) hk hl hc hv k) hd
theorem ldCe {x : Str} {c : Addr} {v : Value} {Q : Value → Shared → Prop} (hv : At h c (CE (some v))) (k : Q v ⟨h, G, D, tk, O⟩) (hc : env.cells.lookup x = some c := by rfl)
    (hk : env.scope.kind = .function := by rfl) (hl : env.kindOf x = some .cell := by rfl) :
    Wp w A (loadName env x) Q E ⟨h, G, D, tk, O⟩ := by rw [Wp_eq]; exact wpAny_loadName_cell (s := ⟨h, G, D, tk, O⟩) hk hl hc hv k
theorem stCe {x : Str} {c : Addr} {v : Value} {v₀ : Option Value} {Q : Unit → Shared → Prop} (hv : At h c (CE v₀)) (k : ∀ h', At h' c (CE (some v)) → Heap.SameBut c h h' → Q () ⟨h', G, D, tk, O⟩) (hc : env.cells.lookup x = some c := by rfl)
    (hk : env.scope.kind = .function := by rfl) (hl : env.kindOf x = some .cell := by rfl) :
    Wp w A (storeName env x v) Q E ⟨h, G, D, tk, O⟩ := by rw [Wp_eq]; exact wpAny_storeName_cell (s := ⟨h, G, D, tk, O⟩) hk hl hc hv fun h' a b => k h' a b
/-- C(e) -/
theorem clC {y : Str} {p pos : Pos} {e : Expr} {args : List Expr} {Q : Value → Shared → Prop} (T : Tf mg mb h) (K : Kl g C N mN fI fR fT) (hm : mg y = some (.ref C))
    (k : Wp w A (spliced (backTo pos (starEach (e :: args) env))) (fun vs s₁ => Sub g s₁.heap ∧ Wp w A (call (.ref C) vs) Q E s₁) E ⟨h, G, D, tk, O⟩)
    (hs : starEach (e :: args) env = (false, eval e env) :: starEach args env := by rfl) (hplain : (backTo pos (starEach args env)).any (·.1) = false := by rfl)
    (hg : env.globals = mainGlobals := by rfl) (hk : env.scope.kind = .function := by rfl) (hl : env.kindOf y = some .globalImplicit := by rfl) (hd : (y == ("__debug__" : Str)) = false := by decide) :
    Wp w A (eval (.Call (.Name y p) (e :: args) [] pos) env) Q E ⟨h, G, D, tk, O⟩ := by
  simp only [Wp_eq] at *
  refine wpAny_Call_NameR (Name_function_global hk hl (loadGlobal_global (hg ▸ T.gl) hm ?_) hd)
  exact callWith_cls K.cls k hs hplain
/-- a def within -/
theorem df {name : Str} {params : Arguments} {body : List Stmt} {scope : Scope} {pos : Pos} {c P : Addr} {o : Option Addr} {clos : List (Str × Addr)} {Q : Flow → Shared → Prop} (T : Tf mg mb h) (hb : h.BuiltinsAt mg P) (hgP : mainGlobals ≠ P) (C0 : CodeHd h c P) (hP : At h P (TB pos o)) (hoc : ∀ c', o = some c' → h.CodeRec (.ref c') (qualnameIn env name name))
    (k : ∀ f c' h' tk', h.get? f = none → f ≠ P → Heap.ExtBut P h h' → At h' P (TB pos (some c')) → (∀ c, o = some c → c' = c) → (o = none → h.get? c' = none ∧ c' ≠ P ∧ c' ≠ f) → h'.CodeRec (.ref c') (qualnameIn env name name) → (∃ o, h'.get? f = some o) → (∀ g', Sub g' h' → (∃ o, g'.get? f = some o) → g'.CodeRec (.ref c') (qualnameIn env name name) → Met g' name (qualnameIn env name name) (params, body, scope) clos f) → Wp w A (storeName env name (.ref f)) (fun _ => Q .next) E ⟨h', G, D, tk', O⟩)
    (hcl : closureFor scope env = pure clos := by rfl) (hcode : env.code = .ref c := by rfl) (hg : env.globals = mainGlobals := by rfl)
    (hd0 : params.defaults = [] := by rfl) (hk0 : params.kw_defaults = [] := by rfl) (ha : annTrees params none env = [] := by rfl) :
    Wp w A (exec (.FunctionDef name params body [] none [] scope none name pos) env) Q E ⟨h, G, D, tk, O⟩ := by
  simp only [Wp_eq] at *
  obtain ⟨_, eP, ps, rfl, tr, ca⟩ := hP
  have PLt : @LT.lt Nat _ P h.objs.size := Heap.lt_size eP
  refine nestDef_K hd0 hk0 ha ?_
  cases o with
  | none =>
    refine makeFunction_K (mg := mg) (s := ⟨h, G, D, tk, O⟩) hcl hg T.gl hcode C0 eP tr ca hgP hb fun c' ctv doc h' tk' hx hge hlt hrec htb => ?_
    have hge' : @LE.le Nat _ h.objs.size c' := hge
    have hlt' : @LT.lt Nat _ c' h'.objs.size := hlt
    have hfP : h'.objs.size ≠ P := by omega
    refine k h'.objs.size c' _ tk' (Heap.get?_none_of_le (by omega)) hfP (fun b ob hb e => Heap.get?_push_of_some _ (hx b ob hb e)) ⟨_, Heap.get?_push_of_some _ htb, _, rfl, ?_, ?_⟩ (fun _ e => nomatch e) (fun _ => ⟨Heap.get?_none_of_le hge, Nat.ne_of_gt (Nat.lt_of_lt_of_le PLt hge'), Nat.ne_of_lt hlt'⟩) ?_ ⟨_, Heap.get?_push_size _ rfl⟩ (fun g' sg ⟨og, eg⟩ cr => by
      have := sg _ _ eg
      rw [Heap.get?_push_size _ rfl] at this
      cases this
      exact ⟨_, _, c', (doc, ctv), eg, rfl, rfl, cr⟩)
    · rw [Array.toList_append]; exact TriplesOk_snoc _ _ _ _ tr
    · rw [Array.toList_append]; exact codeAmong_snoc _ tr ca
    · exact hrec.keeps fun b ob e => Heap.get?_push_of_some _ e
  | some c' =>
    refine makeFunction_hit (mg := mg) (s := ⟨h, G, D, tk, O⟩) (cv := .ref c') hcl hg T.gl hcode C0 eP tr ca hb fun ctv doc h' tk' hx hge => ?_
    have hge' : @LE.le Nat _ h.objs.size h'.objs.size := hge
    refine k h'.objs.size c' _ tk' (Heap.get?_none_of_le hge') (Nat.ne_of_gt (Nat.lt_of_lt_of_le PLt hge')) (fun b ob hb e => Heap.get?_push_of_some _ (hx b ob e)) ⟨_, Heap.get?_push_of_some _ (hx _ _ eP), _, rfl, tr, ca⟩ (fun c e => by cases e; rfl) (fun e => nomatch e) ?_ ⟨_, Heap.get?_push_size _ rfl⟩ (fun g' sg ⟨og, eg⟩ cr => by
      have := sg _ _ eg
      rw [Heap.get?_push_size _ rfl] at this
      cases this
      exact ⟨_, _, c', (doc, ctv), eg, rfl, rfl, cr⟩)
    exact ((hoc c' rfl).keeps hx).keeps fun b ob e => Heap.get?_push_of_some _ e
end
end Mine
end
/-! ## Ls -/
section
open PySem PySem.W PyProof.Rows PySem.Calls
namespace Mine
theorem Fm.toEnd {g h : Heap} {L : Addr} {l : List (Str × Value)} {p : Addr × Pd} {M : List (Addr × Pd)} (F : Fm g L l (p :: M) h) : Fm g L l (M ++ [p]) h := F.perm (List.perm_append_singleton p M)
theorem Fm.news {g h h' : Heap} {L : Addr} {l : List (Str × Value)} {M : List (Addr × Pd)} (F : Fm g L l M h) (hs : Sub h h') (N : List (Addr × Pd)) (fr : ∀ p ∈ N, h.get? p.1 = none) (nd : (N.map (·.1)).Nodup) (at_ : ∀ p ∈ N, At h' p.1 p.2) : Fm g L l (N ++ M) h' := by
  have F' := F.keeps hs
  refine ⟨F'.ns, F'.sub, F'.off, fun p hp => ?_, fun p hp => ?_, fun p hp => ?_, ?_⟩
  · rcases List.mem_append.mp hp with hp | hp
    · exact at_ p hp
    · exact F'.led p hp
  · rcases List.mem_append.mp hp with hp | hp
    · intro e
      obtain ⟨oL, z⟩ := F.ns.there
      rw [← e, fr p hp] at z; cases z
    · exact F.nL p hp
  · rcases List.mem_append.mp hp with hp | hp
    · exact F.sub.none (fr p hp)
    · exact F.ng p hp
  · rw [List.map_append]
    refine List.nodup_append.mpr ⟨nd, F.nd, fun a ha b hb e => ?_⟩
    obtain ⟨p, hp, rfl⟩ := List.mem_map.mp ha
    obtain ⟨q, hq, rfl⟩ := List.mem_map.mp hb
    obtain ⟨o, z, _⟩ := F.led q hq
    rw [← e, fr p hp] at z; cases z
/-- behind a call that turned D to D', made N to be turned on, and r to lie still -/
theorem Fm.takeN {g h h' r : Heap} {L : Addr} {l : List (Str × Value)} {D D' M : List (Addr × Pd)} (F : Fm g L l (D ++ M) h) (hs : Sub (minus h (D.map (·.1))) h') (e : D'.map (·.1) = D.map (·.1)) (led : ∀ p ∈ D', At h' p.1 p.2)
    (N : List (Addr × Pd)) (fr : ∀ p ∈ N, h.get? p.1 = none) (nd : (N.map (·.1)).Nodup) (at_ : ∀ p ∈ N, At h' p.1 p.2)
    (hr : Sub r h') (hd : ∀ b o, r.get? b = some o → h.get? b = none ∨ g.get? b = some o) (hn : ∀ p ∈ N, r.get? p.1 = none) : ∃ g', Sub g g' ∧ Sub r g' ∧ Fm g' L l (N ++ (D' ++ M)) h' := by
  have F₁ := F.back hs e led
  have ledh : ∀ p ∈ D' ++ M, ∃ o, h.get? p.1 = some o := fun p hp => by
    rcases List.mem_append.mp hp with hp | hp
    · have : p.1 ∈ D.map (·.1) := by rw [← e]; exact List.mem_map_of_mem hp
      obtain ⟨q, hq, z⟩ := List.mem_map.mp this
      obtain ⟨o, e1, _⟩ := F.led q (List.mem_append_left _ hq)
      exact ⟨o, z ▸ e1⟩
    · obtain ⟨o, e1, _⟩ := F.led p (List.mem_append_right _ hp)
      exact ⟨o, e1⟩
  have F₂ : Fm g L l (N ++ (D' ++ M)) h' := by
    refine ⟨F₁.ns, F₁.sub, F₁.off, fun p hp => ?_, fun p hp => ?_, fun p hp => ?_, ?_⟩
    · rcases List.mem_append.mp hp with hp | hp
      · exact at_ p hp
      · exact F₁.led p hp
    · rcases List.mem_append.mp hp with hp | hp
      · intro e
        obtain ⟨oL, z⟩ := F.ns.there
        rw [← e, fr p hp] at z; cases z
      · exact F₁.nL p hp
    · rcases List.mem_append.mp hp with hp | hp
      · exact F.sub.none (fr p hp)
      · exact F₁.ng p hp
    · rw [List.map_append]
      refine List.nodup_append.mpr ⟨nd, F₁.nd, fun a ha b hb e => ?_⟩
      obtain ⟨p, hp, rfl⟩ := List.mem_map.mp ha
      obtain ⟨q, hq, rfl⟩ := List.mem_map.mp hb
      obtain ⟨o, z⟩ := ledh q hq
      rw [← e, fr p hp] at z; cases z
  obtain ⟨g', s, F', q⟩ := F₂.freeze (.refl _)
  refine ⟨g', s, fun b o eb => q b o (hr b o eb) ?_ fun p hp z => ?_, F'⟩
  · rintro rfl
    rcases hd _ _ eb with z' | z'
    · obtain ⟨oL, z⟩ := F.ns.there; rw [z'] at z; cases z
    · rw [F.off] at z'; cases z'
  · rcases List.mem_append.mp hp with hp | hp
    · rw [← z, hn p hp] at eb; cases eb
    · rcases hd _ _ eb with z' | z'
      · obtain ⟨o', z''⟩ := ledh p hp; rw [z, z'] at z''; cases z''
      · rw [← z, F₁.ng p hp] at z'; cases z'
/-- what of g is not of h, or is of k -/
def lessB (g h k : Heap) : Heap := cut g fun i => (h.get? i).isSome && (k.get? i).isNone
theorem get_lessB {g h k : Heap} {b : Addr} {o : Obj} (e : g.get? b = some o) (n : h.get? b = none ∨ k.get? b = some o) : (lessB g h k).get? b = some o := by
  unfold lessB
  rw [get_cut]
  rcases n with n | n <;> rw [n] <;> simp <;> exact e
theorem lessB_sub (g h k : Heap) : Sub (lessB g h k) g := fun b o e => by
  unfold lessB at e
  rw [get_cut] at e
  split at e
  · cases e
  · exact e
theorem lessB_hd {g h k : Heap} (kg : Sub k g) : ∀ b o, (lessB g h k).get? b = some o → h.get? b = none ∨ k.get? b = some o := fun b o e => by
  have e' := lessB_sub _ _ _ _ _ e
  unfold lessB at e
  rw [get_cut] at e
  split at e
  · cases e
  · rename_i q
    cases q1 : h.get? b with
    | none => exact .inl rfl
    | some o1 =>
      cases q2 : k.get? b with
      | none => rw [q1, q2] at q; exact absurd rfl q
      | some o2 =>
        right
        have := kg b o2 q2
        rw [e'] at this; exact this.symm ▸ rfl
theorem lessB_mono {g g' h k : Heap} (s : Sub g g') : Sub (lessB g h k) (lessB g' h k) := fun b o e => by
  have e' := s _ _ (lessB_sub _ _ _ _ _ e)
  unfold lessB at e ⊢
  rw [get_cut] at e ⊢
  split at e
  · cases e
  · rename_i q; rw [if_neg q]; exact e'
theorem At.lessB {g h k : Heap} {a : Addr} {P : Pd} (x : At g a P) (n : h.get? a = none) : At (Mine.lessB g h k) a P := let ⟨o, e, q⟩ := x; ⟨o, get_lessB e (.inl n), q⟩
theorem Fm.absorbB {g h h' : Heap} {L P : Addr} {l : List (Str × Value)} {M : List (Addr × Pd)} {R R' : Pd} (F : Fm g L l ((P, R) :: M) h) (hx : Heap.ExtBut P h h') (a : At h' P R') : ∃ g', Sub g g' ∧ Fm g' L l ((P, R') :: M) h' ∧ ∀ b o, h.get? b = none → h'.get? b = some o → b ≠ P → g'.get? b = some o := by
  obtain ⟨o, e, q⟩ := a
  obtain ⟨g', s, F', z⟩ := (F.upd e q hx).freeze (.refl _)
  refine ⟨g', s, F', fun b o e e' ne => z b o e' ?_ fun p hp => ?_⟩
  · rintro rfl; obtain ⟨oL, z⟩ := F.ns.there; rw [e] at z; cases z
  · rintro rfl
    rcases List.mem_cons.mp hp with rfl | hp
    · exact ne rfl
    · obtain ⟨o', z, _⟩ := F.led p (.tail _ hp); rw [e] at z; cases z
def rdPos : Pos := ⟨63, 4, 66, 20⟩
def rdQ : Str := "_law_stream.<locals>._law_read"
/-- what _law_stream leaves -/
structure Box (r : Heap) (C box sa : Addr) (tx : List Nat) : Prop where
  ex : ∃ bdx fr cl cs ct tt, At r box (IX C bdx) ∧ At r bdx (NA [("read", .ref fr)]) ∧ bdx ≠ box ∧ Met r "_law_read" rdQ rdT cl fr ∧ cl.lookup ("seat" : Str) = some cs ∧ cl.lookup ("text" : Str) = some ct ∧ r.IsCell ct (some (.str (ST tx) tt)) ∧ r.IsCell cs (some (.ref sa))
section
variable {w : World} {A : Around} {E : Value → Shared → Prop} {h : Heap} {G : Array GenState} {D : Drawn} {tk : Nat} {O : OsState} {env : Env} {g : Heap} {l : List (Str × Value)} {M : List (Addr × Pd)} {mg mb : Str → Option Value}
  {C N fI fR fT : Addr} {mN : Str → Option Value} {tx : List Nat}
set_option maxHeartbeats 4000000 in
theorem stream_spec {f c P : Addr} {o : Option Addr} {tt : Tok} {Q : Value → Shared → Prop} (T : Tf mg mb g) (H : FnC g mg 9 "_law_stream" f c) (K : Kl g C N mN fI fR fT) (hC : mg "_netrclex" = some (.ref C)) (C0 : CodeHd g c P) (hb : g.BuiltinsAt mg P) (hgP : mainGlobals ≠ P)
    (hP : At h P (TB rdPos o)) (off : g.get? P = none) (hoc : ∀ c', o = some c' → g.CodeRec (.ref c') rdQ) (k : Sub g h) (room : Room A 4)
    (hQ : ∀ tu box sa c' h' tk' r, Sub (minus h [P]) h' → At h' P (TB rdPos (some c')) → (∀ c, o = some c → c' = c) → Sub r h' → (∀ b o, r.get? b = some o → h.get? b = none ∨ g.get? b = some o) → At r tu (TU [.ref box, .ref sa]) → Box r C box sa tx →
      r.CodeRec (.ref c') rdQ → At h' sa (SE 0) → h.get? sa = none → r.get? sa = none → Q (.ref tu) ⟨h', G, D, tk', O⟩) :
    Wp w A (call (.ref f) [.str (ST tx) tt]) Q E ⟨h, G, D, tk, O⟩ := by
  refine enterK [(P, TB rdPos o)] [("text", .str (ST tx) tt)] [] [("seat", h.objs.size + 1 + 1), ("text", h.objs.size + 1)] [(h.objs.size + 1 + 1, CE none), (h.objs.size + 1, CE (some (.str (ST tx) tt)))] T H k room.depth (mem1 hP) (by simp) (fun h₁ tk₁ X => ?_) (hkind := fun y hy => ?_)
  rotate_left
  · rw [List.mem_singleton] at hy; subst hy; exact .inr ⟨rfl, rfl⟩
  have room' := room.deeper (n := 3) (env := envOfC "_law_stream" (fnAt 9).2.2 h.objs.size f (.ref c))
  have kg : Sub g (minus h [P]) := subMinus k (by simpa using off)
  have X : Fm (minus h [P]) h.objs.size [] [(h.objs.size + 1 + 1, CE none), (h.objs.size + 1, CE (some (.str (ST tx) tt))), (P, TB rdPos o)] h₁ := X
  have kk := kg.trans X.sub
  refine wCons <| wAsg <| clC (T.sub kk) K hC <| ar1 <| cN <| ar0 ⟨kk, mk_spec T K kk room' fun x dx pb h₂ tk₂ t tw nx1 nx2 nx3 nnd hs₂ a1 a2 a3 => ?_⟩
  have hne : dx ≠ x := by rintro rfl; simp at nnd
  have X₂ := X.news hs₂ [(x, IX C dx), (dx, NA _)] (mem2 nx1 nx2) (by simp; exact fun e => hne e.symm) (mem2 a1 a2)
  refine stL X₂ fun h₃ tk₃ X₃ => nx_next ?_
  clear X X₂ a1 a2 a3 nx1 nx2 nx3 hs₂ nnd
  refine wCons <| wAsg <| lstM <| ar1 <| cI fun t0 _ => ar0 ⟨_, _, rfl, by simp, fun sa h₄ hsa hs₄ hat₄ => ?_⟩
  have X₄ := X₃.newA (P := SE 0) hs₄ hsa (by obtain ⟨o, e, n, rfl⟩ := hat₄; exact ⟨_, e, t0, rfl, n, rfl⟩)
  refine stCe X₄.hd3 fun h₅ hat₅ hsb₅ => nx_next ?_
  have X₅ := X₄.updA3 hat₅ hsb₅
  have kk₅ := kg.trans X₅.sub
  have hP₅ : At h₅ P (TB rdPos o) := X₅.led (P, TB rdPos o) (.tail _ (.tail _ (.tail _ (.tail _ (.tail _ (.head _))))))
  refine wCons <| df (P := P) (c := c) (o := o) (T.sub kk₅) ?_ hgP (C0.keeps kk₅) hP₅ (fun c' e => (hoc c' e).keeps kk₅) fun fr c' h₆ tk₆ hfr hfP hx hat₆ hc1 hc2 hcr hfo hmet => ?_
  · obtain ⟨bm, ob, b1, b2, b3, b4, b5, b6⟩ := hb
    exact ⟨bm, ob, b1, b2, b3, b4, kk₅ _ _ b5, b6⟩
  have X₅' : Fm _ _ _ ((P, TB rdPos o) :: [(sa, SE 0), (x, IX C dx), (dx, NA [("pushback", .ref pb), ("whitespace", .str (ST [10, 9, 13, 32]) tw), ("instream", .none), ("lineno", .int 1 t)]), (h.objs.size + 1 + 1, CE (some (.ref sa))), (h.objs.size + 1, CE (some (.str (ST tx) tt)))]) _ := X₅.perm ((List.perm_append_singleton (P, TB rdPos o) _).symm)
  have hat₆ : At h₆ P (TB rdPos (some c')) := hat₆
  obtain ⟨g₆, hg₆, X₆, fz₆⟩ := X₅'.absorbB hx hat₆
  have kg₆ := kg.trans hg₆
  have cr₆ : g₆.CodeRec (.ref c') rdQ := by
    cases ho : o with
    | none =>
      obtain ⟨q1, q2, q3⟩ := hc2 ho
      obtain ⟨c₂, oc, vs, t, e2, hoc', hd, hv⟩ := hcr
      cases e2
      exact ⟨c', oc, vs, t, rfl, fz₆ _ _ q1 hoc' q2, hd, hv⟩
    | some c₁ =>
      rw [hc1 c₁ ho]
      exact (hoc c₁ ho).keeps kg₆
  have fo₆ : ∃ of, g₆.get? fr = some of := let ⟨of, e⟩ := hfo; ⟨of, fz₆ _ _ hfr e hfP⟩
  refine stL X₆ fun h₇ tk₇ X₇ => nx_next ?_
  have X₇' : Fm _ _ _ [(sa, SE 0), (x, IX C dx), (dx, NA [("pushback", .ref pb), ("whitespace", .str (ST [10, 9, 13, 32]) tw), ("instream", .none), ("lineno", .int 1 t)]), (h.objs.size + 1 + 1, CE (some (.ref sa))), (h.objs.size + 1, CE (some (.str (ST tx) tt))), (P, TB rdPos (some c'))] _ := X₇.toEnd
  have X₈ := X₇'.rot3.rot3
  have kk₈ := kg₆.trans X₈.sub
  refine wCons <| wAsA <| nmL X₈ rfl <| nmL X₈ rfl <| sA (K.sub kk₈) X₈.hd X₈.hd1 hne fun h₉ tk₉ a9 b9 s9 => nx_next ?_
  have X₉ := X₈.backI s9 a9 b9
  refine wCons <| wRet <| tupM <| ar1 <| nmL X₉ rfl <| ar1 <| nmC X₉.hd3 <| ar0 ⟨_, _, rfl, by simp, fun tu h₁₀ htu hs₁₀ hat₁₀ => nx_ret ?_⟩
  have X₁₀ := X₉.newA hs₁₀ htu hat₁₀
  obtain ⟨g', hg', F', z⟩ := X₁₀.freeze (M' := [(sa, SE 0), (P, TB rdPos (some c'))]) (.cons _ (.cons _ (.cons _ (.cons_cons _ (.cons _ (.cons _ (.cons_cons _ .slnil)))))))
  have hfree : ∀ (M : List (Addr × Pd)) l, Fm g₆ h.objs.size l M h₁₀ → ∀ p ∈ M, p.1 ≠ P → h.get? p.1 = none := fun M l F p hp hne => by
    have := hg₆.none (F.ng p hp)
    rw [get_minus, if_neg (by simpa using hne)] at this
    exact this
  have hf5 : ∀ b, h₅.get? b = none → b ≠ P → h.get? b = none := fun b e hne => by
    cases q : h.get? b with
    | none => rfl
    | some ob => rw [X₅.sub _ _ (get_minus_of q (by simpa using hne))] at e; cases e
  have nd := X₁₀.nd
  simp only [List.map_cons, List.map_nil, List.nodup_cons, List.mem_cons, List.not_mem_nil, or_false, not_or] at nd
  obtain ⟨n1, n2, n3, n4, n5, n6, n7⟩ := nd
  have fz : ∀ (M : List (Addr × Pd)) l, Fm g₆ h.objs.size l M h₁₀ → ∀ p ∈ M, p.1 ≠ sa → p.1 ≠ P → At (lessB g' h g) p.1 p.2 := fun M l F p hp h1 h2 => by
    obtain ⟨ob, e, q⟩ := F.led p hp
    exact ⟨ob, get_lessB (z p.1 ob e (F.nL p hp) (mem2 (P := fun q => q.1 ≠ p.1) (Ne.symm h1) (Ne.symm h2))) (.inl (hfree M l F p hp h2)), q⟩
  have cr' : (lessB g₆ h g).CodeRec (.ref c') rdQ := by
    obtain ⟨c₂, oc, vs, t, e2, hoc', hd, hv⟩ := cr₆
    cases e2
    refine ⟨c', oc, vs, t, rfl, get_lessB hoc' ?_, hd, hv⟩
    cases ho : o with
    | none =>
      obtain ⟨q1, q2, q3⟩ := hc2 ho
      exact .inl (hf5 _ q1 q2)
    | some c₁ =>
      right
      have e1 := hc1 c₁ ho
      subst e1
      obtain ⟨c₃, oc₃, _, _, e3, hoc₃, _⟩ := hoc c' ho
      cases e3
      have := kg₆ _ _ hoc₃
      rw [hoc'] at this; cases this; exact hoc₃
  have met' : Met (lessB g₆ h g) "_law_read" rdQ rdT [("text", h.objs.size + 1), ("seat", h.objs.size + 1 + 1)] fr := by
    obtain ⟨of, e⟩ := fo₆
    exact hmet _ ((lessB_sub _ _ _).trans X₆.sub) ⟨of, get_lessB e (.inl (hf5 _ hfr hfP))⟩ cr'
  refine hQ tu x sa c' h₁₀ _ (lessB g' h g) ((hg₆.trans hg').trans F'.sub) F'.hd1 hc1 ((lessB_sub _ _ _).trans F'.sub) (lessB_hd (kg₆.trans hg')) (fz _ _ X₁₀ _ (.head _) ?_ ?_) ⟨dx, fr, _, h.objs.size + 1 + 1, h.objs.size + 1, tt, fz _ _ X₁₀ _ (.tail _ (.head _)) ?_ ?_, ?_, hne, met'.sub (lessB_mono hg'), rfl, rfl, fz _ _ X₁₀ _ (.tail _ (.tail _ (.tail _ (.tail _ (.tail _ (.head _)))))) ?_ ?_, fz _ _ X₁₀ _ (.tail _ (.tail _ (.tail _ (.tail _ (.head _))))) ?_ ?_⟩ (cr'.keeps (lessB_mono hg')) F'.hd (hfree _ _ X₁₀ _ (.tail _ (.tail _ (.tail _ (.head _)))) ?_) ?_
  all_goals first
    | exact n1.2.2.1 | exact n1.2.2.2.2.2 | exact n2.2.1 | exact n2.2.2.2.2 | exact n4.2.2 | exact n5.2 | exact n6 | exact Ne.symm n4.1 | exact Ne.symm n4.2.1 | skip
  · obtain ⟨ob, e, q⟩ := fz _ _ X₁₀ _ (.tail _ (.tail _ (.head _))) n3.1 n3.2.2.2
    exact ⟨ob, e, q.weak rfl⟩
  · exact (lessB_sub _ _ _).none (F'.ng (sa, SE 0) (.head _))
end
end Mine
end
/-! ## Ct -/
section
open PySem PySem.W PyProof.Rows PySem.Calls
namespace Mine
open StrLaws Builtin Builtin.Str
theorem occ_size (s : Str) (c hi limit : Nat) (hh : hi = s.length) : ∀ (k lo : Nat) (st : Array Nat × Nat), st.2 ≤ lo → st.1.size + k ≤ limit →
    (forIn (List.range' lo k) st (occBody s ⟨#[c]⟩ hi limit)).run.fst.size = st.1.size + (List.range' lo k).countP (fun i => decide (s.cps.toList[i]? = some c))
  | 0, lo, st, _, _ => by simp
  | k + 1, lo, st, h1, h2 => by
    rw [List.range'_succ, List.forIn_cons, List.countP_cons]
    unfold occBody
    have key : (lo + (⟨#[c]⟩ : Str).length ≤ hi ∧ subAt s ⟨#[c]⟩ lo = true) ↔ s.cps.toList[lo]? = some c := by rw [hh]; exact subAt_one s c lo
    by_cases hc : s.cps.toList[lo]? = some c
    · obtain ⟨a, b⟩ := key.mpr hc
      rw [if_pos ⟨⟨⟨by omega, h1⟩, a⟩, b⟩]
      have ih := occ_size s c hi limit hh k (lo + 1) (st.1.push lo, lo + (⟨#[c]⟩ : Str).length) (by show lo + 1 ≤ lo + 1; omega) (by simp; omega)
      show (forIn (List.range' (lo + 1) k) _ (occBody s ⟨#[c]⟩ hi limit)).run.fst.size = _
      rw [ih]
      rw [decide_eq_true hc]
      simp; omega
    · rw [if_neg fun z => hc (key.mp ⟨z.1.2, z.2⟩)]
      have ih := occ_size s c hi limit hh k (lo + 1) (st.1, st.2) (by show st.2 ≤ lo + 1; omega) (by show st.1.size + k ≤ limit; omega)
      show (forIn (List.range' (lo + 1) k) _ (occBody s ⟨#[c]⟩ hi limit)).run.fst.size = _
      rw [ih]
      rw [decide_eq_false hc]
      simp
theorem count_range (x : List Nat) (c : Nat) : (List.range' 0 (x.length + 1)).countP (fun i => decide (x[i]? = some c)) = x.count c := by
  have h1 : (List.range' 0 (x.length + 1)).countP (fun i => decide (x[i]? = some c)) = (List.range x.length).countP (fun i => decide (x[i]? = some c)) := by
    rw [← List.range_eq_range', List.range_succ, List.countP_append]
    simp
  rw [h1]
  induction x with
  | nil => rfl
  | cons a r ih =>
    rw [List.length_cons, List.range_succ_eq_map, List.countP_cons, List.countP_map, List.count_cons]
    have : (List.range r.length).countP ((fun i => decide ((a :: r)[i]? = some c)) ∘ Nat.succ) = (List.range r.length).countP (fun i => decide (r[i]? = some c)) := by
      apply List.countP_congr
      intro i hi
      simp
    rw [this]
    have ih' := ih (by
      rw [← List.range_eq_range', List.range_succ, List.countP_append]
      simp)
    rw [ih']
    by_cases e : a = c <;> simp [e]
theorem count_one (x : List Nat) (c : Nat) : Txt.count (ST x) (ST [c]) = x.count c := by
  unfold Txt.count
  have e : (occurrences (ST x) (ST [c]) 0 (ST x).length ((ST x).length + 1)).length = x.count c := by
    rw [occ_eq, Array.length_toList, show ST [c] = ⟨#[c]⟩ from rfl, occ_size (ST x) c (ST x).length _ rfl _ 0 (#[], 0) (Nat.le_refl _) (by simp)]
    rw [ST_len]
    simp only [Array.size_empty, Nat.zero_add, Nat.sub_zero]
    exact count_range x c
  first | exact congrArg _ e | (rw [e]) | exact_mod_cast e
end Mine
end
/-! ## Re -/
section
open PySem PySem.W PyProof.Rows PySem.Calls
namespace Mine
def Chain (tx : List Nat) : Nat → List (List Nat × Nat) → Prop
  | _, [] => True
  | p, (t, e) :: r => tokn (tx.drop p) = (t, tx.drop e) ∧ e ≤ tx.length ∧ Chain tx e r
section
variable {w : World} {A : Around} {E : Value → Shared → Prop} {h : Heap} {G : Array GenState} {D : Drawn} {tk : Nat} {O : OsState} {env : Env} {g : Heap} {l : List (Str × Value)} {M : List (Addr × Pd)} {mg mb : Str → Option Value}
  {C N fI fR fT : Addr} {mN : Str → Option Value} {tx : List Nat}
theorem addL {a b : Addr} {vs us : List Value} {Q : Value → Shared → Prop} (ha : At h a (PL vs)) (hb : At h b (PL us)) (hl : vs.length + us.length ≤ 100000) (k : ∀ c h', h.get? c = none → Sub h h' → At h' c (PL (vs ++ us)) → Q (.ref c) ⟨h', G, D, tk, O⟩) :
    Wp w A (binaryOp .Add (.ref a) (.ref b)) Q E ⟨h, G, D, tk, O⟩ := by
  rw [Wp_eq]
  obtain ⟨_, e1, n1, rfl⟩ := ha
  obtain ⟨_, e2, n2, rfl⟩ := hb
  refine P.add_list (s := ⟨h, G, D, tk, O⟩) e1 e2 (k _ _ (fresh_none _) (sub_push _ _) ⟨_, Heap.get?_push_size _ rfl, 0, by simp⟩) (by rw [sizeLine_eq]; simp; omega)
theorem cntS {o e : Expr} {apos pos : Pos} {x : List Nat} {Q : Value → Shared → Prop} {s : Shared}
    (k : Wp w A (eval o env) (fun ov s₁ => ∃ t h₁ tk₁, ov = .str (ST x) t ∧ s₁ = ⟨h₁, G, D, tk₁, O⟩ ∧ Wp w A (eval e env) (fun v s₂ => ∃ u c h₂ tk₂, v = .str (ST [c]) u ∧ s₂ = ⟨h₂, G, D, tk₂, O⟩ ∧ ∀ t' tk', Q (.int (x.count c) t') ⟨h₂, G, D, tk', O⟩) E s₁) E s)
    (hbase : attributeBase o "count" env (eval o env) = eval o env := by rfl) (hs : starEach [e] env = [(false, eval e env)] := by rfl) (hline : (apos.endLine == pos.line) = true := by rfl) :
    Wp w A (eval (.Call (.Attribute o "count" apos) [e] [] pos) env) Q E s := by
  simp only [Wp_eq] at *
  refine Call_method1 hbase hs hline (wpAny_mono k (fun ov s₁ z => ?_) fun _ _ e => e)
  obtain ⟨t, h₁, tk₁, rfl, rfl, z⟩ := z
  refine SB.count (wpAny_mono z (fun v s₂ z => ?_) fun _ _ e => e)
  obtain ⟨u, c, h₂, tk₂, rfl, rfl, z⟩ := z
  refine ⟨_, _, rfl, ?_⟩
  rw [count_one]
  exact z _ _
theorem enterD {i : Nat} {x : Str} {f : Addr} {vals : List Value} {Q : Value → Shared → Prop} (Dl : List (Addr × Pd)) (binds : List (Str × Value)) (T : Tf mg mb g) (H : Fn g mg i x f) (k : Sub g h) (hroom : A.depth < recursionLimit)
    (led : ∀ a ∈ Dl, At h a.1 a.2) (nd : (Dl.map (·.1)).Nodup)
    (kk : ∀ h₁ c tk', Fm (minus h (Dl.map (·.1))) h.objs.size binds Dl h₁ → Wp w (A.deeper (envOf x (fnAt i).2.2 h.objs.size f (.ref c))) (execs (fnAt i).2.1 (envOf x (fnAt i).2.2 h.objs.size f (.ref c)))
      (fun fl s' => Q (retOf fl) s') (fun _ _ => False) ⟨h₁, G, D, tk', O⟩)
    (hbind : ∀ pm c doc, bindArgs (docDef x (fnAt i).1 (fnAt i).2.1 (fnAt i).2.2 pm (.ref c) doc) ⟨vals, []⟩ = pure binds.reverse := by intro _ _ _; rfl)
    (hloc : (binds.all fun y => decide ((fnAt i).2.2.names.lookup y.1 = some .local)) = true := by rfl)
    (hco : (fnAt i).2.2.isCoroutine = false := by rfl) (hgen : (fnAt i).2.2.isGenerator = false := by rfl) (hk : (fnAt i).2.2.kind = .function := by rfl)
    (hcell : ((fnAt i).2.2.names.all fun y => decide (y.2 ≠ .cell)) = true := by rfl) : Wp w A (call (.ref f) vals) Q E ⟨h, G, D, tk, O⟩ := by
  obtain ⟨o, pm, c, doc, ho, hdat, hc⟩ := H.ex
  rw [Wp_eq]
  refine wpAny_call (call_plain_ret hroom (k _ _ ho) hdat (T.nl.keeps k) (hc.keeps k) (hbind pm c doc) (fun y hy => locs hloc y (List.mem_reverse.mp hy)) (fun h₁ F₁ => ?_) hco hgen hk
    (fun y hy => of_decide_eq_true (List.all_eq_true.mp hcell y hy)))
  have F₀ : Fm h h.objs.size binds [] h₁ := Fm.start F₁ (by rw [List.reverse_reverse]; rfl)
  have lt : ∀ a ∈ Dl, a.1 < h.objs.size := fun a ha => let ⟨_, e, _⟩ := led a ha; Heap.lt_size e
  have F : Fm (minus h (Dl.map (·.1))) h.objs.size binds Dl h₁ :=
    ⟨F₀.ns, (minus_sub _ _).trans F₀.sub, (minus_sub _ _).none (fresh_none h), fun a ha => (led a ha).sub F₀.sub, fun a ha => Nat.ne_of_lt (lt a ha), fun a ha => get_minus_in (List.mem_map_of_mem ha), nd⟩
  have z := kk h₁ c (tk + binds.reverse.length) F
  rw [Wp_eq] at z
  refine wpAny_mono z (fun fl s' q => ?_) fun _ _ q => q
  cases fl <;> exact q
theorem Fm.fromEnd {g h : Heap} {L : Addr} {l : List (Str × Value)} {p : Addr × Pd} {M : List (Addr × Pd)} (F : Fm g L l (M ++ [p]) h) : Fm g L l (p :: M) h := F.perm (List.perm_append_singleton p M).symm
theorem Chain.get {tx : List Nat} : ∀ {ds : List (List Nat × Nat)} {p i : Nat} {t : List Nat} {e : Nat}, Chain tx p (ds.drop i) → ds[i]? = some (t, e) → tokn (tx.drop p) = (t, tx.drop e) ∧ e ≤ tx.length ∧ Chain tx e (ds.drop (i + 1)) := by
  intro ds p i t e hc hi
  have : ds.drop i = (t, e) :: ds.drop (i + 1) := by
    obtain ⟨hl, he⟩ := List.getElem?_eq_some_iff.mp hi
    rw [List.drop_eq_getElem_cons hl, he]
  rw [this] at hc
  exact hc
/-- between two tokens -/
def RInv (g : Heap) (L C x dx box sa pb P : Addr) (tx : List Nat) (tv : Value) (c' da dl : Addr) (ds : List (List Nat × Nat)) (it : Addr) (i : Nat) (h : Heap) : Prop :=
  ∃ p, p ≤ tx.length ∧ Chain tx p (ds.drop i) ∧ Fm g L [("lexer", .ref x), ("seat", .ref sa), ("box", .ref box), ("due", .ref da), ("text", tv)] ((it, LI dl i) :: (Lp1 C x dx box sa pb tx p ++ [(P, TB rdPos (some c'))])) h
set_option maxHeartbeats 4000000 in
theorem reads_spec {f fs c P da : Addr} {o : Option Addr} {tt : Tok} {ds : List (List Nat × Nat)} {Q : Value → Shared → Prop} (T : Tf mg mb g) (H : Fn g mg 15 "_law_reads" f) (HS : FnC g mg 9 "_law_stream" fs c) (K : Kl g C N mN fI fR fT) (hC : mg "_netrclex" = some (.ref C)) (C0 : CodeHd g c P) (hb : g.BuiltinsAt mg P) (hgP : mainGlobals ≠ P)
    (h3 : mg "len" = none) (h4 : mb "len" = some (.builtin "len")) (h5 : mg "iter" = none) (h6 : mb "iter" = some (.builtin "iter"))
    (hP : At h P (TB rdPos o)) (off : g.get? P = none) (hoc : ∀ c', o = some c' → g.CodeRec (.ref c') rdQ) (k : Sub g h) (room : Room A 6)
    (htx : tx.length ≤ 100000) (hda : PtsAt g da ds) (hdl : ds.length ≤ 1000) (hch : Chain tx 0 (ds ++ [([], tx.length), ([], tx.length)]))
    (hQ : ∀ c' h' tk' r, Sub (minus h [P]) h' → At h' P (TB rdPos (some c')) → Sub r h' → (∀ b o, r.get? b = some o → h.get? b = none ∨ g.get? b = some o) → r.CodeRec (.ref c') rdQ → Q (.bool true) ⟨h', G, D, tk', O⟩) :
    Wp w A (call (.ref f) [.str (ST tx) tt, .ref da]) Q E ⟨h, G, D, tk, O⟩ := by
  refine enterD [(P, TB rdPos o)] [("due", .ref da), ("text", .str (ST tx) tt)] T H k room.depth (mem1 hP) (by simp) fun h₁ cd tk₁ X => ?_
  have room' := room.deeper (n := 5) (env := envOf "_law_reads" (fnAt 15).2.2 h.objs.size f (.ref cd))
  have kg : Sub g (minus h [P]) := subMinus k (by simpa using off)
  have kk := kg.trans X.sub
  refine wCons <| asgT room'.2.2 <| clU (T.sub kk) HS.fn <| ar1 <| nmL X rfl <| ar0 ⟨kk, ?_⟩
  refine stream_spec T HS K hC C0 hb hgP X.hd off hoc kk (room'.less (by decide)) fun tu box sa c' h₂ tk₂ r hs₂ hP₂ hc1 hr hd hat hbox hcr hsa hsa0 hsar => ?_
  have X' : Fm _ _ _ ([(P, TB rdPos o)] ++ []) _ := X
  obtain ⟨g₂, hg₂, hr₂, X₂⟩ := X'.takeN (D' := [(P, TB rdPos (some c'))]) hs₂ rfl (mem1 hP₂) [(sa, SE 0)] (mem1 hsa0) (by simp) (mem1 hsa) hr (fun b o e => by
    rcases hd b o e with z | z
    · exact .inl z
    · exact .inr (kg _ _ z)) (mem1 hsar)
  refine ⟨_, _, _, _, rfl, rfl, hat.sub hr, rfl, fun h₃ hs₃ => ?_⟩
  have X₃ := X₂.keeps hs₃
  refine ioN <| stL X₃ fun h₄ tk₄ X₄ => ioN <| stL X₄ fun h₅ tk₅ X₅ => io0 <| nx_next ?_
  have hX0 : Sub (minus h [P]) h₁ := X.sub
  have hX1 : At h₁ P (TB rdPos o) := X.hd
  clear X X' X₂ X₃ X₄ hs₃
  have kg₂ := kg.trans hg₂
  have kk₅ := kg₂.trans X₅.sub
  refine wCons <| wAsg <| clC (T.sub kk₅) K hC <| ar1 <| nmL X₅ rfl <| ar0 ⟨kk₅, mk_spec T K kk₅ (room'.less (by decide)) fun x dx pb h₆ tk₆ t tw nx1 nx2 nx3 nnd hs₆ a1 a2 a3 => ?_⟩
  have hne : dx ≠ x := by rintro rfl; simp at nnd
  have X₆ := X₅.news hs₆ [(pb, PL []), (x, IX C dx), (dx, NL box pb 1)] (mem3 nx3 nx1 nx2) (by simp at nnd ⊢; exact ⟨⟨fun e => nnd.1.2 e.symm, fun e => nnd.2 e.symm⟩, nnd.1.1⟩) (mem3 a3 a1 (by obtain ⟨o, e, q⟩ := a2; exact ⟨o, e, _, _, q.weak rfl⟩))
  obtain ⟨g₇, hg₇, X₇, hpb⟩ := X₆.shut
  have kg₇ := kg₂.trans hg₇
  have R : Rig g₇ C N mN fI fR fT box sa pb tx := by
    obtain ⟨bdx, fr, cl, cs, ct, t9, r1, r2, r3, r4, r5, r6, r7, r8⟩ := hbox.ex
    have kr := hr₂.trans hg₇
    exact ⟨K.sub kg₇, ⟨bdx, fr, cl, cs, ct, t9, rdQ, r1.sub kr, r2.sub kr, r3, r4.sub kr, r5, r6, r7.keeps kr, r8.keeps kr⟩, hpb, htx⟩
  refine stL X₇ fun h₈ tk₈ X₈ => nx_next ?_
  clear X₅ X₆ X₇ a1 a2 a3 nx1 nx2 nx3 hs₆ nnd
  obtain ⟨dv, hdv, hda2⟩ := hda
  have kk₈ := kg₇.trans X₈.sub
  refine wCons <| forL room'.2.2 <| wBin <| nmL X₈ rfl <| lstM <| ar1 <| tupM <| ar1 <| cS (l := []) rfl fun t1 _ => ar1 <| clB (T.sub kk₈) h3 h4 <| ar1 <| nmL X₈ rfl <| ar0 <| lenS (by rw [sizeLine_eq]; omega) fun t2 _ => ar0 ⟨_, _, rfl, by simp, fun u1 h₉ hu1 hs₉ hat₉ => ?_⟩
  have X₉ := X₈.newA hs₉ hu1 hat₉
  obtain ⟨g₉, hg₉, Y₉, au1⟩ := X₉.shut
  have kk₉ := kg₇.trans (hg₉.trans Y₉.sub)
  refine ar1 <| tupM <| ar1 <| cS (l := []) rfl fun t3 _ => ar1 <| clB (T.sub kk₉) h3 h4 <| ar1 <| nmL Y₉ rfl <| ar0 <| lenS (by rw [sizeLine_eq]; omega) fun t4 _ => ar0 ⟨_, _, rfl, by simp, fun u2 h₁₀ hu2 hs₁₀ hat₁₀ => ?_⟩
  have X₁₀ := Y₉.newA hs₁₀ hu2 hat₁₀
  obtain ⟨g₁₀, hg₁₀, Y₁₀, au2⟩ := X₁₀.shut
  refine ar0 ⟨_, _, rfl, by simp, fun lb h₁₁ hlb hs₁₁ hat₁₁ => ?_⟩
  have Y₁₁ := Y₁₀.keeps hs₁₁
  have kg₁₀ : Sub g g₁₀ := kg₇.trans (hg₉.trans hg₁₀)
  refine addL (hdv.sub (kg₁₀.trans Y₁₁.sub)) hat₁₁ (by rw [hda2.1]; simp; omega) fun dl h₁₂ hdl12 hs₁₂ hat₁₂ => ?_
  have X₁₂ := Y₁₁.newA hs₁₂ hdl12 hat₁₂
  obtain ⟨g₁₂, hg₁₂, Y₁₂, adl⟩ := X₁₂.shut
  have kg₁₂ := kg₁₀.trans hg₁₂
  have hA : A2 (PtAt g₁₂) (dv ++ [.ref u1, .ref u2]) (ds ++ [([], tx.length), ([], tx.length)]) := by
    have z := ((hda2.mono fun _ _ => PtAt.sub kg₁₂).snoc (y := ([], tx.length)) ⟨u1, t1, t2, rfl, au1.sub (hg₁₀.trans hg₁₂)⟩).snoc (y := ([], tx.length)) ⟨u2, t3, t4, rfl, au2.sub hg₁₂⟩
    simpa using z
  have R₁₂ := R.sub ((hg₉.trans hg₁₀).trans hg₁₂)
  have T₁₂ := T.sub kg₁₂
  clear X₈ X₉ Y₉ X₁₀ Y₁₀ Y₁₁ X₁₂ hs₉ hat₉ hu1 hs₁₀ hat₁₀ hu2 hs₁₁ hat₁₁ hlb hs₁₂ hat₁₂ hdl12
  generalize hds : ds ++ [([], tx.length), ([], tx.length)] = ds' at hA hch
  generalize hvs : dv ++ [Value.ref u1, Value.ref u2] = vs at hA adl
  refine ⟨_, _, dl, vs, rfl, rfl, adl.sub Y₁₂.sub, RInv g₁₂ h.objs.size C x dx box sa pb P tx (.str (ST tx) tt) c' da dl ds', ?_, ?_, ?_, ?_⟩
  · intro it h' hit hs hat
    exact ⟨0, Nat.zero_le _, hch, (Y₁₂.newA hs hit hat).on _ rfl⟩
  · rintro it i h' ⟨p, -, -, F⟩
    exact ⟨adl.sub F.sub, F.hd⟩
  · rintro it i h' h'' tk' v ⟨p, hp, hc, F⟩ hvi hit hsb
    obtain ⟨⟨tkn, e⟩, hdi, hPt⟩ := hA.get' hvi
    obtain ⟨ch1, ch2, ch3⟩ := hc.get hdi
    obtain ⟨ta, t1, t2, rfl, hta⟩ := hPt
    have F₁ := F.updA hit hsb
    refine ltT hit <| asT room'.2.2 (hta.sub F₁.sub) rfl fun h₂ hs₂ => ioN <| stL (F₁.keeps hs₂) fun h₃ tk₃ F₃ => ioN <| stL F₃ fun h₄ tk₄ F₄ => io0 ?_
    clear F F₁ F₃ hit hsb
    have F₅ : Fm g₁₂ h.objs.size _ (Lp1 C x dx box sa pb tx p ++ [(P, TB rdPos (some c')), (it, LI dl (i + 1))]) h₄ := F₄.toEnd
    have nd5 := F₅.nd
    have nd3 : [x, dx, sa].Nodup := (List.nodup_append.mp (by simpa [Lp1, Lg] using nd5 : ([x, dx, sa] ++ [P, it]).Nodup)).1
    have ng3 : ∀ a ∈ [x, dx, sa], g₁₂.get? a = none := fun a ha => by
      have : a ∈ ((Lp1 C x dx box sa pb tx p).map (·.1)) := ha
      obtain ⟨q, hq, rfl⟩ := List.mem_map.mp this
      exact F₅.ng q (List.mem_append_left _ hq)
    have led3 : ∀ a ∈ Lp1 C x dx box sa pb tx p, At h₄ a.1 a.2 := fun a ha => F₅.led a (List.mem_append_left _ ha)
    obtain ⟨o1, e1, tl1, tw1, hna⟩ := F₅.hd1
    refine wCons <| wIf <| wTBo <| wOr1 <| wTst <| clM <| nmL F₄ rfl fun pl => gM (R₁₂.K.sub F₅.sub) F₅.hd ⟨o1, e1, hna⟩ hne R₁₂.K.nT (R₁₂.K.mT.sub F₅.sub) <| cw0 (R₁₂.K.mT.sub F₅.sub) <| gt_spec T₁₂ R₁₂ F₅.sub (room'.less (by decide)) h3 h4 h5 h6 led3 nd3 ng3 (fun tt h₆ tk₆ p' hp1 hp2 hs₆ hled₆ => ?_) hp
    rw [ch1] at hp1 ⊢
    have hpe : p' = e := by
      have := congrArg List.length hp1
      simp at this; omega
    subst hpe
    have F₆ := Fm.back F₅ hs₆ (D' := Lp1 C x dx box sa pb tx p') rfl hled₆
    refine nmL F₆ rfl <| neS ⟨_, rfl, ?_⟩
    rw [show (tkn != tkn) = false by simp, if_neg (by decide)]
    obtain ⟨o2, e2, u2, hil⟩ := F₆.hd2
    refine wOr1 <| wTst <| wSub <| nmL F₆ rfl <| cI fun _ _ => itI (i := 0) ⟨o2, e2, hil⟩ rfl (by decide) <| nmL F₆ rfl <| neI ⟨_, rfl, ?_⟩
    rw [show ((p' : Int) != (p' : Int)) = false by simp, if_neg (by decide)]
    refine wOr0 ?_
    rw [if_neg (by decide)]
    refine wNil <| nx_next ?_
    obtain ⟨o3, e3, tl3, tw3, hna3⟩ := F₆.hd1
    refine wCons <| wIf <| wTst <| wAt <| nmL F₆ rfl <| gA (R₁₂.K.sub F₆.sub) F₆.hd ⟨o3, e3, hna3⟩ hne rfl fun _ => wBin <| cI fun _ _ => cntS (x := tx.take p') <| slT <| nmL F₆ rfl <| nmL F₆ rfl ⟨_, _, _, _, _, _, rfl, rfl, rfl, by rw [sizeLine_eq]; omega, fun h₇ t7 tk₇ hs₇ => ⟨_, _, _, rfl, rfl, cS (l := [10]) rfl fun _ _ => ⟨_, _, _, _, rfl, rfl, fun _ _ => addI fun _ _ => neI ⟨_, rfl, ?_⟩⟩⟩⟩
    have e9 : (((lnAt tx p' : Nat) : Int) != (1 + ((tx.take p').count 10 : Int))) = false := by
      unfold lnAt; simp
    rw [e9, if_neg (by decide)]
    refine wNil <| nx_next <| wNil <| go_next ⟨p', hp2, ch3, ?_⟩
    exact (Fm.fromEnd (M := Lp1 C x dx box sa pb tx p' ++ [(P, TB rdPos (some c'))]) (p := (it, LI dl (i + 1))) (F₆.keeps hs₇)).on _ rfl
  · rintro it h' h'' tk' ⟨p, -, -, F⟩ hx
    have F₁ := F.drop hx
    refine nx_next <| wCons <| wRet <| cB <| nx_ret ?_
    refine hQ c' h'' _ r ((((hg₂.trans hg₇).trans (hg₉.trans hg₁₀)).trans hg₁₂).trans F₁.sub) (F₁.led (P, TB rdPos (some c')) (.tail _ (.tail _ (.tail _ (.head _))))) ((((hr₂.trans hg₇).trans (hg₉.trans hg₁₀)).trans hg₁₂).trans F₁.sub) (fun b ob e => ?_) hcr
    rcases hd b ob e with z | z
    · left
      cases q : h.get? b with
      | none => rfl
      | some o' =>
        by_cases hbP : b = P
        · obtain ⟨_, z', _⟩ := hX1
          rw [hbP, z'] at z; cases z
        · rw [hX0 _ _ (get_minus_of q (by simpa using hbP))] at z; cases z
    · exact .inr z
end
end Mine
end
/-! ## Lc -/
section
open PySem PySem.W PyProof.Rows PySem.Calls
namespace Mine
section
variable {w : World} {A : Around} {h : Heap} {G : Array GenState} {D : Drawn} {tk : Nat} {O : OsState} {env : Env} {g : Heap} {l : List (Str × Value)} {M : List (Addr × Pd)} {mg mb : Str → Option Value}
theorem Wp.any {α : Type} {t : Sem α} {Q : α → Shared → Prop} {E : Value → Shared → Prop} {s : Shared} (k : Wp w A t Q E s) : wpAny (model pr w) A t Q E s := by rw [Wp_eq] at k; exact k
theorem Wp.of {α : Type} {t : Sem α} {Q : α → Shared → Prop} {E : Value → Shared → Prop} {s : Shared} (k : wpAny (model pr w) A t Q E s) : Wp w A t Q E s := by rw [Wp_eq]; exact k
/-- the tests of a comprehension -/
def tests (ifs : List Expr) (env : Env) : Sem Bool := forIn ifs true fun c r => if r = true then do let ok ← isTrue c env (eval c env); pure (ForInStep.yield ok) else pure (ForInStep.yield r)
theorem ts0 {Q : Bool → Shared → Prop} {s : Shared} (k : Q true s) : Wp w A (tests [] env) Q NoE s := by rw [Wp_eq]; exact wpAny_tests_nil k
theorem ts1 {c : Expr} {Q : Bool → Shared → Prop} {s : Shared} (k : Wp w A (isTrue c env (eval c env)) Q NoE s) : Wp w A (tests [c] env) Q NoE s := by rw [Wp_eq] at *; exact wpAny_tests_one k
theorem compLoopW {elt target iter : Expr} {ifs : List Expr} {scope : Scope} {pos : Pos} {it acc : Value} {s : Shared} {R : Result → Shared → Prop} (I : Nat → Shared → Prop)
    (turn : ∀ n s, I n s → Wp w A (pyNext it) (fun r s₁ => match r with
      | none => R (.ok .next) s₁
      | some v => Wp w A (letOwnedTupleGo target it v) (fun _ s₁' => Wp w A (assign target env v) (fun _ s₂ => Wp w A (tests ifs env) (fun ok s₃ =>
            if ok = true then Wp w A (eval elt env) (fun x s₄ => Wp w A (call (.builtin "list.append") [acc, x]) (fun _ s₅ => ∃ m, m < n ∧ I m s₅) NoE s₄) NoE s₃ else ∃ m, m < n ∧ I m s₃) NoE s₂) NoE s₁') NoE s₁) NoE s)
    (n : Nat) (h : I n s) : codeAny (model pr w) A (.compLoop (.ListComp elt [⟨target, iter, ifs, 0⟩] scope pos) 0 it acc env) R s := by
  simp only [Wp_eq] at turn
  refine codeAny_loop rfl I (fun n s hI => ?_) n h
  show wpAny _ A ((compTurn (.ListComp elt [⟨target, iter, ifs, 0⟩] scope pos) 0 it acc env).onRaise (fun x => do noteFrame x env; theTreesLotGoes x)) _ _ s
  refine wpAny_noted ?_
  rw [compTurn_list]
  refine wpAny_bind (wpAny_standAt (wpAny_bind (wpAny_mono (turn n s hI) (fun r s₁ h₁ => ?_) fun _ _ h' => h'.elim)))
  cases r with
  | none => exact wpAny_pure h₁
  | some v =>
    refine wpAny_bind (wpAny_mono h₁ (fun _ s₁' h₁' => ?_) fun _ _ h' => h'.elim)
    refine wpAny_bind (wpAny_mono h₁' (fun _ s₂ h₂ => wpAny_bind (wpAny_mono h₂ (fun ok s₃ h₃ => ?_) fun _ _ h' => h'.elim)) fun _ _ h' => h'.elim)
    cases ok with
    | false => exact wpAny_pure ⟨rfl, h₃⟩
    | true =>
      exact wpAny_bind (wpAny_bind (wpAny_mono h₃ (fun x s₄ h₄ => wpAny_bind (wpAny_mono h₄ (fun _ s₅ h₅ => wpAny_pure (wpAny_pure ⟨rfl, h₅⟩)) fun _ _ h' => h'.elim)) fun _ _ h' => h'.elim))
/-- append to the list that a comprehension makes -/
theorem apL {a : Addr} {vs : List Value} {x : Value} {Q : Value → Shared → Prop} (ha : At h a (PL vs)) (hl : vs.length ≤ 100000) (k : ∀ h', At h' a (PL (vs ++ [x])) → Heap.SameBut a h h' → Q .none ⟨h', G, D, tk, O⟩) :
    Wp w A (call (.builtin "list.append") [.ref a, x]) Q NoE ⟨h, G, D, tk, O⟩ := by
  rw [Wp_eq]
  refine wpAny_list_append_plain (s := ⟨h, G, D, tk, O⟩) ha.list (fun h' hp hsb => ?_) (by rw [sizeLine_eq]; simp; omega)
  refine k h' (At.ofList ?_) hsb
  simpa using hp
/-- a list comprehension: its own names are at C, its list at D -/
theorem lcG {elt target iter : Expr} {ifs : List Expr} {scope : Scope} {cl : List (Str × Addr)} {pos : Pos} {Q : Value → Shared → Prop}
    (k : Wp w A (eval iter env) (fun v s₁ => Wp w A (pyIter v) (fun itv s₂ => ∃ h₂ tk₂ I, s₂ = ⟨h₂, G, D, tk₂, O⟩ ∧ itv = .ref I ∧ (∀ (h : Heap) (tk : Nat) (Q : Value → Shared → Prop), Sub h₂ h → Q (.ref I) ⟨h, G, D, tk, O⟩ → Wp w A (pyIter (.ref I)) Q NoE ⟨h, G, D, tk, O⟩) ∧
      ∃ (J : Addr → Addr → Nat → Heap → Prop) (n₀ : Nat),
        (∀ C a h₃, h₂.get? C = none → h₂.get? a = none → C ≠ a → Sub h₂ h₃ → At h₃ a (PL []) → Nm h₃ C [] → J C a n₀ h₃) ∧
        (∀ C a n h tk, J C a n h → Wp w A (pyNext (.ref I)) (fun r s₁ => match r with
          | none => ∃ h' tk', s₁ = ⟨h', G, D, tk', O⟩ ∧ Nm h' C [] ∧ ∀ h'', Heap.SameBut C h' h'' → Q (.ref a) ⟨h'', G, D, tk', O⟩
          | some v => Wp w A (letOwnedTupleGo target (.ref I) v) (fun _ s₁' => Wp w A (assign target (compEnvC scope cl C env) v) (fun _ s₂ => Wp w A (tests ifs (compEnvC scope cl C env)) (fun ok s₃ =>
            if ok = true then Wp w A (eval elt (compEnvC scope cl C env)) (fun x s₄ => Wp w A (call (.builtin "list.append") [.ref a, x]) (fun _ s₅ => ∃ m, m < n ∧ ∃ h' tk', s₅ = ⟨h', G, D, tk', O⟩ ∧ J C a m h') NoE s₄) NoE s₃
            else ∃ m, m < n ∧ ∃ h' tk', s₃ = ⟨h', G, D, tk', O⟩ ∧ J C a m h') NoE s₂) NoE s₁') NoE s₁) NoE ⟨h, G, D, tk, O⟩)) NoE s₁) NoE ⟨h, G, D, tk, O⟩)
    (hclos : closureFor scope env = pure cl := by rfl) (hcell : (scope.names.all fun y => decide (y.2 ≠ .cell)) = true := by rfl) (hkind : scope.kind = .function := by rfl)
    (hnames : (scope.names.all fun y => decide (y.2 = .local → scope.names.lookup y.1 = some .local)) = true := by rfl)
    (hs : ∀ x, foldedSetIterable iter env x = pure x := by intro _; rfl) :
    Wp w A (eval (.ListComp elt [⟨target, iter, ifs, 0⟩] scope pos) env) Q NoE ⟨h, G, D, tk, O⟩ := by
  refine Wp.of ?_
  rw [eval_ListComp]
  refine wpAny_comprehension_free (use := none) (cl := cl) rfl hs hclos hkind (fun y hy => of_decide_eq_true (List.all_eq_true.mp hnames y hy)) ?_
  refine wpAny_mono k.any (fun v s₁ k₁ => ?_) fun _ _ e => e.elim
  refine wpAny_mono k₁.any (fun itv s₂ k₂ => ?_) fun _ _ e => e.elim
  obtain ⟨h₂, tk₂, I, rfl, rfl, hself, J, n₀, j0, jt⟩ := k₂
  refine wpAny_newObj_type (wpAny_newFunctionEnv (fun y hy => of_decide_eq_true (List.all_eq_true.mp hcell y hy)) (by intro y hy; simp at hy) (fun h₁ hns₁ hsb₁ => ?_) hkind)
  dsimp only at hns₁ hsb₁ ⊢
  generalize hH2 : h₂.push { cls := .type "list", dict := none, data := .seq ([] : List Value).toArray } = H2 at hns₁ hsb₁ ⊢
  have hC : H2.objs.size = h₂.objs.size + 1 := by rw [← hH2, Heap.size_push]
  have hne : H2.objs.size ≠ h₂.objs.size := by rw [hC]; omega
  have sub2 : Sub H2 h₁ := fun b o e => hsb₁.extBut b o (Nat.ne_of_lt (Heap.lt_size e)) (Heap.get?_push_of_some _ e)
  have sub1 : Sub h₂ h₁ := fun b o e => sub2 b o (by rw [← hH2]; exact Heap.get?_push_of_some _ e)
  have hat : At h₁ h₂.objs.size (PL []) := ⟨_, sub2 _ _ (by rw [← hH2]; exact Heap.get?_push_size _ rfl), _, rfl⟩
  have J0 := j0 H2.objs.size h₂.objs.size h₁ (Heap.get?_none_of_le (by omega)) (fresh_none _) hne sub1 hat ⟨_, hns₁, fun x v e => nomatch (show none = some v from e)⟩
  have loop : ∀ tk₁, codeAny (model pr w) A (.compLoop (.ListComp elt [⟨target, iter, ifs, 0⟩] scope pos) 0 (.ref I) (.ref h₂.objs.size) (compEnvC scope cl H2.objs.size env)) (compPost (model pr w) A NoE none Q (.ref h₂.objs.size) H2.objs.size) ⟨h₁, G, D, tk₁, O⟩ := by
    intro tk₁
    refine compLoopW (fun n s => ∃ h tk, s = ⟨h, G, D, tk, O⟩ ∧ J H2.objs.size h₂.objs.size n h) ?_ n₀ ⟨h₁, tk₁, rfl, J0⟩
    rintro n s ⟨hi, tki, rfl, hJ⟩
    refine (jt _ _ n hi tki hJ).mono1 fun r s₁ z => ?_
    cases r with
    | none =>
      obtain ⟨h', tk', rfl, ⟨m, hm, _⟩, z⟩ := z
      exact ⟨m, hm, fun h'' hs'' => z h'' hs''⟩
    | some v => exact z
  have hpi := hself h₁ (tk₂ + ([] : List (Str × Value)).length) (fun it' s' => codeAny (model pr w) A (.compLoop (.ListComp elt [⟨target, iter, ifs, 0⟩] scope pos) 0 it' (.ref h₂.objs.size) (compEnvC scope cl H2.objs.size env)) (compPost (model pr w) A NoE none Q (.ref h₂.objs.size) H2.objs.size) s') sub1 (loop _)
  exact codeAny_compStart_list (loop _) (wpAny_mono hpi.any (fun _ _ z => z) fun _ _ e => e.elim)
theorem Fm.c0 {g h : Heap} {C : Addr} (n : Nm h C []) (s : Sub g h) (e : g.get? C = none) : Fm g C [] [] h := ⟨n, s, e, fun _ hp => (nomatch hp), fun _ hp => (nomatch hp), fun _ hp => (nomatch hp), List.nodup_nil⟩
/-- a comprehension over a list, no test -/
theorem lcL {elt target iter : Expr} {scope : Scope} {cl : List (Str × Addr)} {pos : Pos} {Q : Value → Shared → Prop} (hh : A.handled = none)
    (k : Wp w A (eval iter env) (fun v s₁ => ∃ h₁ tk₁ a vs, s₁ = ⟨h₁, G, D, tk₁, O⟩ ∧ v = .ref a ∧ At h₁ a (PL vs) ∧ vs.length ≤ 10000 ∧ ∃ Inv : Nat → List Value → Heap → Prop, Inv 0 [] h₁ ∧
      (∀ C a' I i ys g' h tk v, Sub h₁ g' → Inv i ys g' → vs[i]? = some v → Fm g' C [] [(I, LI a (i + 1)), (a', PL ys)] h →
        Wp w A (letOwnedTupleGo target (.ref I) v) (fun _ s => Wp w A (assign target (compEnvC scope cl C env) v) (fun _ s => Wp w A (eval elt (compEnvC scope cl C env)) (fun x s => ∃ h' tk' g'' l, s = ⟨h', G, D, tk', O⟩ ∧ Sub g' g'' ∧
          Fm g'' C l [(I, LI a (i + 1)), (a', PL ys)] h' ∧ Inv (i + 1) (ys ++ [x]) g'') NoE s) NoE s) NoE ⟨h, G, D, tk, O⟩) ∧
      (∀ a' ys g' h' tk', Sub h₁ g' → Inv vs.length ys g' → ys.length = vs.length → Sub g' h' → h₁.get? a' = none → g'.get? a' = none → At h' a' (PL ys) → Q (.ref a') ⟨h', G, D, tk', O⟩)) NoE ⟨h, G, D, tk, O⟩)
    (hclos : closureFor scope env = pure cl := by rfl) (hcell : (scope.names.all fun y => decide (y.2 ≠ .cell)) = true := by rfl) (hkind : scope.kind = .function := by rfl)
    (hnames : (scope.names.all fun y => decide (y.2 = .local → scope.names.lookup y.1 = some .local)) = true := by rfl)
    (hs : ∀ x, foldedSetIterable iter env x = pure x := by intro _; rfl) :
    Wp w A (eval (.ListComp elt [⟨target, iter, [], 0⟩] scope pos) env) Q NoE ⟨h, G, D, tk, O⟩ := by
  refine lcG (cl := cl) (k.mono1 fun v s₁ z => ?_) hclos hcell hkind hnames hs
  obtain ⟨h₁, tk₁, a, vs, rfl, rfl, hat, hlen, Inv, i0, it, ie⟩ := z
  refine Wp.of (wpAny_pyIter_list (s := ⟨h₁, G, D, tk₁, O⟩) hat.isList ?_)
  have hI : At (h₁.push { cls := .type "list_iterator", data := .fields #[.ref a, .int 0 0] }) h₁.objs.size (LI a 0) := ⟨_, Heap.get?_push_size _ rfl, rfl, rfl⟩
  have hIn : h₁.get? h₁.objs.size = none := fresh_none _
  have hIs : Sub h₁ (h₁.push { cls := .type "list_iterator", data := .fields #[.ref a, .int 0 0] }) := sub_push _ _
  generalize h₁.objs.size = I at hI hIn ⊢
  generalize (h₁.push { cls := .type "list_iterator", data := .fields #[.ref a, .int 0 0] }) = h₂ at hI hIs ⊢
  refine ⟨h₂, _, I, rfl, rfl, fun h tk Q hsub q => Wp.of (wpAny_pyIter_listiter (s := ⟨h, G, D, tk, O⟩) (hI.sub hsub).isIter q), fun C a' n h => ∃ i ys g' l, i ≤ vs.length ∧ n = vs.length - i ∧ ys.length = i ∧ Sub h₁ g' ∧ Inv i ys g' ∧ h₁.get? a' = none ∧ Fm g' C l [(I, LI a i), (a', PL ys)] h, vs.length, ?_, ?_⟩
  · intro C a' h₃ hC ha' hne hsub hat' hn
    have hC1 : h₁.get? C = none := hIs.none hC
    have ha1 : h₁.get? a' = none := hIs.none ha'
    have CI : I ≠ C := by rintro rfl; obtain ⟨o, e, _⟩ := hI; rw [hC] at e; cases e
    have aI : I ≠ a' := by rintro rfl; obtain ⟨o, e, _⟩ := hI; rw [ha'] at e; cases e
    refine ⟨0, [], h₁, [], Nat.zero_le _, rfl, rfl, .refl _, i0, ha1, hn, hIs.trans hsub, hC1, mem2 (hI.sub hsub) hat', mem2 (P := fun p => p.1 ≠ C) CI (Ne.symm hne), mem2 (P := fun p => h₁.get? p.1 = none) hIn ha1, by simp; exact aI⟩
  · rintro C a' n h tk ⟨i, ys, g', l, hi, rfl, hyl, hsub, hinv, ha1, F⟩
    by_cases hlt : i < vs.length
    · obtain ⟨v, hv⟩ : ∃ v, vs[i]? = some v := ⟨vs[i], by simp [hlt]⟩
      refine Wp.of (wpAny_pyNext_list_item (s := ⟨h, G, D, tk, O⟩) (show At h I (LI a i) from F.hd).isIter (hat.sub (hsub.trans F.sub)).isList (by simpa using hv) fun h' hit' hsb => ?_)
      have F₁ := (F.updA (P' := LI a (i + 1)) (.ofIter hit') hsb).on [] rfl
      refine (it C a' I i ys g' h' tk v hsub hinv hv F₁).mono1 fun _ s z => z.mono1 fun _ s z => ts0 ?_
      rw [if_pos rfl]
      refine z.mono1 fun x s z => ?_
      obtain ⟨h₅, tk₅, g'', l', rfl, hg'', F₅, hinv'⟩ := z
      refine apL F₅.hd1 (by omega) fun h₆ hat₆ hsb₆ => ⟨vs.length - (i + 1), by omega, h₆, tk₅, rfl, i + 1, ys ++ [x], g'', l', hlt, rfl, by simp [hyl], hsub.trans hg'', hinv', ha1, F₅.updA1 hat₆ hsb₆⟩
    · obtain rfl : i = vs.length := by omega
      refine Wp.of (wpAny_pyNext_list_end (s := ⟨h, G, D, tk, O⟩) hh (show At h I (LI a vs.length) from F.hd).isIter (hat.sub (hsub.trans F.sub)).isList (by simp) fun h' he => ?_)
      have F₁ := F.drop he
      refine ⟨h', _, rfl, (F₁.on [] rfl).ns, fun h'' hs'' => ?_⟩
      refine ie a' ys g' h'' _ hsub hinv hyl (fun b o e => ?_) ha1 (F₁.ng _ (.head _)) ?_
      · exact (hs''.2 b fun q => by rw [q, F₁.off] at e; cases e).trans (F₁.sub b o e)
      · obtain ⟨o, e, q⟩ := F₁.hd
        exact ⟨o, (hs''.2 _ (F₁.nL _ (.head _))).trans e, q⟩
/-- a comprehension over a range -/
theorem lcR {elt iter : Expr} {y : Str} {py : Pos} {ifs : List Expr} {scope : Scope} {cl : List (Str × Addr)} {pos : Pos} {Q : Value → Shared → Prop} (hh : A.handled = none)
    (k : Wp w A (eval iter env) (fun v s₁ => ∃ h₁ tk₁ a n, s₁ = ⟨h₁, G, D, tk₁, O⟩ ∧ v = .ref a ∧ At h₁ a (RG n) ∧ n ≤ 10000 ∧ ∃ Inv : Nat → List Value → Heap → Prop, Inv 0 [] h₁ ∧
      (∀ C a' I i ys g' h tk t, Sub h₁ g' → Inv i ys g' → i < n → Fm g' C [(y, .int i t)] [(I, RI (i + 1) n), (a', PL ys)] h →
        Wp w A (tests ifs (compEnvC scope cl C env)) (fun ok s => if ok = true then Wp w A (eval elt (compEnvC scope cl C env)) (fun x s => ∃ h' tk' g'' l, s = ⟨h', G, D, tk', O⟩ ∧ Sub g' g'' ∧
          Fm g'' C l [(I, RI (i + 1) n), (a', PL ys)] h' ∧ Inv (i + 1) (ys ++ [x]) g'') NoE s
          else ∃ h' tk' g'' l, s = ⟨h', G, D, tk', O⟩ ∧ Sub g' g'' ∧ Fm g'' C l [(I, RI (i + 1) n), (a', PL ys)] h' ∧ Inv (i + 1) ys g'') NoE ⟨h, G, D, tk, O⟩) ∧
      (∀ a' ys g' h' tk', Sub h₁ g' → Inv n ys g' → ys.length ≤ n → Sub g' h' → h₁.get? a' = none → g'.get? a' = none → At h' a' (PL ys) → Q (.ref a') ⟨h', G, D, tk', O⟩)) NoE ⟨h, G, D, tk, O⟩)
    (hclos : closureFor scope env = pure cl := by rfl) (hcell : (scope.names.all fun y => decide (y.2 ≠ .cell)) = true := by rfl) (hkind : scope.kind = .function := by rfl)
    (hnames : (scope.names.all fun y => decide (y.2 = .local → scope.names.lookup y.1 = some .local)) = true := by rfl)
    (hl : scope.names.lookup y = some .local := by rfl)
    (hs : ∀ x, foldedSetIterable iter env x = pure x := by intro _; rfl) :
    Wp w A (eval (.ListComp elt [⟨.Name y py, iter, ifs, 0⟩] scope pos) env) Q NoE ⟨h, G, D, tk, O⟩ := by
  refine lcG (cl := cl) (k.mono1 fun v s₁ z => ?_) hclos hcell hkind hnames hs
  obtain ⟨h₁, tk₁, a, n, rfl, rfl, ⟨o, hat, t, u, v, rfl⟩, hlen, Inv, i0, it, ie⟩ := z
  have hsz : Builtin.Range.rangeSize 0 (n : Int) 1 = n := by rw [rangeSize_one]; split <;> omega
  refine Wp.of (wpAny_pyIter_range (s := ⟨h₁, G, D, tk₁, O⟩) hat (small_one (by omega) (by omega) (by omega) (by omega)) ?_)
  rw [hsz]
  have hI : At (h₁.push { cls := .type "range_iterator", data := .fields #[rawInt 0, rawInt n, rawInt 1] }) h₁.objs.size (RI 0 n) := ⟨_, Heap.get?_push_size _ rfl, by simp [RI]⟩
  have hIn : h₁.get? h₁.objs.size = none := fresh_none _
  have hIs : Sub h₁ (h₁.push { cls := .type "range_iterator", data := .fields #[rawInt 0, rawInt n, rawInt 1] }) := sub_push _ _
  generalize h₁.objs.size = I at hI hIn ⊢
  generalize (h₁.push { cls := .type "range_iterator", data := .fields #[rawInt 0, rawInt n, rawInt 1] }) = h₂ at hI hIs ⊢
  refine ⟨h₂, _, I, rfl, rfl, fun h tk Q hsub q => ?_, fun C a' m h => ∃ i ys g' l, i ≤ n ∧ m = n - i ∧ ys.length ≤ i ∧ Sub h₁ g' ∧ Inv i ys g' ∧ h₁.get? a' = none ∧ Fm g' C l [(I, RI i n), (a', PL ys)] h, n, ?_, ?_⟩
  · obtain ⟨_, e, rfl⟩ := hI.sub hsub
    exact Wp.of (wpAny_pyIter_rangeiter (s := ⟨h, G, D, tk, O⟩) e q)
  · intro C a' h₃ hC ha' hne hsub hat' hn
    have hC1 : h₁.get? C = none := hIs.none hC
    have ha1 : h₁.get? a' = none := hIs.none ha'
    have CI : I ≠ C := by rintro rfl; obtain ⟨o, e, _⟩ := hI; rw [hC] at e; cases e
    have aI : I ≠ a' := by rintro rfl; obtain ⟨o, e, _⟩ := hI; rw [ha'] at e; cases e
    refine ⟨0, [], h₁, [], Nat.zero_le _, rfl, Nat.le_refl _, .refl _, i0, ha1, hn, hIs.trans hsub, hC1, mem2 (hI.sub hsub) hat', mem2 (P := fun p => p.1 ≠ C) CI (Ne.symm hne), mem2 (P := fun p => h₁.get? p.1 = none) hIn ha1, by simp; exact aI⟩
  · rintro C a' m h tk ⟨i, ys, g', l, hi, rfl, hyl, hsub, hinv, ha1, F⟩
    obtain ⟨_, e, rfl⟩ := F.hd
    by_cases hlt : i < n
    · refine Wp.of (wpAny_pyNext_range_item (s := ⟨h, G, D, tk, O⟩) e (by omega) fun h' hit' hsb => ?_)
      have F₁ := (F.updA (P' := RI (i + 1) n) ⟨_, hit', by unfold RI; rw [show ((n : Int) - ((i + 1 : Nat) : Int)) = (n : Int) - i - 1 by omega]; rfl⟩ hsb).on [] rfl
      refine ltN <| asN <| stL (env := compEnvC scope cl C env) F₁ (fun h₂ tk₂ F₂ => ?_) (lookup_relabel_local hl) (by rw [show (compEnvC scope cl C env).scope.kind = .function from hkind]; rfl)
      refine (it C a' I i ys g' h₂ tk₂ tk hsub hinv hlt F₂).mono1 fun ok s z => ?_
      cases ok with
      | true =>
        rw [if_pos rfl] at z ⊢
        refine z.mono1 fun x s z => ?_
        obtain ⟨h₅, tk₅, g'', l', rfl, hg'', F₅, hinv'⟩ := z
        refine apL F₅.hd1 (by omega) fun h₆ hat₆ hsb₆ => ⟨n - (i + 1), by omega, h₆, tk₅, rfl, i + 1, ys ++ [x], g'', l', hlt, rfl, by simp; omega, hsub.trans hg'', hinv', ha1, F₅.updA1 hat₆ hsb₆⟩
      | false =>
        rw [if_neg (by decide)] at z ⊢
        obtain ⟨h₅, tk₅, g'', l', rfl, hg'', F₅, hinv'⟩ := z
        exact ⟨n - (i + 1), by omega, h₅, tk₅, rfl, i + 1, ys, g'', l', hlt, rfl, by omega, hsub.trans hg'', hinv', ha1, F₅⟩
    · obtain rfl : i = n := by omega
      refine Wp.of (wpAny_pyNext_range_end (s := ⟨h, G, D, tk, O⟩) hh e (by omega) fun h' he => ?_)
      have F₁ := F.drop he
      refine ⟨h', _, rfl, (F₁.on [] rfl).ns, fun h'' hs'' => ?_⟩
      refine ie a' ys g' h'' _ hsub hinv hyl (fun b o e => ?_) ha1 (F₁.ng _ (.head _)) ?_
      · exact (hs''.2 b fun q => by rw [q, F₁.off] at e; cases e).trans (F₁.sub b o e)
      · obtain ⟨o, e, q⟩ := F₁.hd
        exact ⟨o, (hs''.2 _ (F₁.nL _ (.head _))).trans e, q⟩
/-! signs of a text -/
def SI (asc : Bool) (x : List Nat) (t : Tok) (i : Nat) : Pd := fun o => o.cls = .type (if asc then "str_ascii_iterator" else "str_iterator") ∧ o.data = .fields #[.str (ST x) t, .int i 0]
theorem itSi {x : List Nat} {t : Tok} {Q : Value → Shared → Prop} (k : ∀ I asc h', h.get? I = none → Sub h h' → At h' I (SI asc x t 0) → Q (.ref I) ⟨h', G, D, tk, O⟩) : Wp w A (pyIter (.str (ST x) t)) Q NoE ⟨h, G, D, tk, O⟩ := by
  refine Wp.of ?_
  cases ha : (ST x).cps.all (· < 128)
  · exact wpAny_pyIter_wide (s := ⟨h, G, D, tk, O⟩) ha (k _ false _ (fresh_none _) (sub_push _ _) ⟨_, Heap.get?_push_size _ rfl, rfl, rfl⟩)
  · exact wpAny_pyIter_ascii (s := ⟨h, G, D, tk, O⟩) ha (k _ true _ (fresh_none _) (sub_push _ _) ⟨_, Heap.get?_push_size _ rfl, rfl, rfl⟩)
theorem slfSi {I : Addr} {asc : Bool} {x : List Nat} {t : Tok} {i : Nat} {Q : Value → Shared → Prop} (hI : At h I (SI asc x t i)) (k : Q (.ref I) ⟨h, G, D, tk, O⟩) : Wp w A (pyIter (.ref I)) Q NoE ⟨h, G, D, tk, O⟩ := by
  refine Wp.of ?_
  obtain ⟨o, e, c, d⟩ := hI
  cases asc
  · exact wpAny_pyIter_striter_wide (s := ⟨h, G, D, tk, O⟩) ⟨o, e, c, d⟩ k
  · exact wpAny_pyIter_striter_ascii (s := ⟨h, G, D, tk, O⟩) ⟨o, e, c, d⟩ k
theorem nxSi {I : Addr} {asc : Bool} {x : List Nat} {t : Tok} {i c : Nat} {Q : Option Value → Shared → Prop} (hI : At h I (SI asc x t i)) (hc : x[i]? = some c) (k : ∀ h' u tk', At h' I (SI asc x t (i + 1)) → Heap.SameBut I h h' → Q (some (.str (ST [c]) u)) ⟨h', G, D, tk', O⟩) : Wp w A (pyNext (.ref I)) Q NoE ⟨h, G, D, tk, O⟩ := by
  refine Wp.of ?_
  obtain ⟨o, e, cc, d⟩ := hI
  have hx : (ST x).cps[i]? = some c := by simpa [ST] using hc
  cases asc
  · exact wpAny_pyNext_wide_item (s := ⟨h, G, D, tk, O⟩) ⟨o, e, cc, d⟩ hx fun h' ⟨o', e', c', d'⟩ hs => k h' _ _ ⟨o', e', c', d'⟩ hs
  · exact wpAny_pyNext_ascii_item (s := ⟨h, G, D, tk, O⟩) ⟨o, e, cc, d⟩ hx fun h' ⟨o', e', c', d'⟩ hs => k h' _ _ ⟨o', e', c', d'⟩ hs
theorem enSi {I : Addr} {asc : Bool} {x : List Nat} {t : Tok} {i : Nat} {Q : Option Value → Shared → Prop} (hh : A.handled = none) (hI : At h I (SI asc x t i)) (hc : x[i]? = none) (k : ∀ h', Heap.ExtBut I h h' → Q none ⟨h', G, D, tk, O⟩) : Wp w A (pyNext (.ref I)) Q NoE ⟨h, G, D, tk, O⟩ := by
  refine Wp.of ?_
  obtain ⟨o, e, cc, d⟩ := hI
  have hx : (ST x).cps[i]? = none := by simpa [ST] using hc
  cases asc
  · exact wpAny_pyNext_wide_end (s := ⟨h, G, D, tk, O⟩) hh ⟨o, e, cc, d⟩ hx k
  · exact wpAny_pyNext_ascii_end (s := ⟨h, G, D, tk, O⟩) hh ⟨o, e, cc, d⟩ hx k
/-- a comprehension over a text, no test -/
theorem lcS {elt iter : Expr} {y : Str} {py : Pos} {scope : Scope} {cl : List (Str × Addr)} {pos : Pos} {Q : Value → Shared → Prop} (hh : A.handled = none)
    (k : Wp w A (eval iter env) (fun v s₁ => ∃ h₁ tk₁ x t, s₁ = ⟨h₁, G, D, tk₁, O⟩ ∧ v = .str (ST x) t ∧ x.length ≤ 10000 ∧ ∃ Inv : Nat → List Value → Heap → Prop, Inv 0 [] h₁ ∧
      (∀ C a' I asc i ys g' h tk c u, Sub h₁ g' → Inv i ys g' → x[i]? = some c → Fm g' C [(y, .str (ST [c]) u)] [(I, SI asc x t (i + 1)), (a', PL ys)] h →
        Wp w A (eval elt (compEnvC scope cl C env)) (fun x' s => ∃ h' tk' g'' l, s = ⟨h', G, D, tk', O⟩ ∧ Sub g' g'' ∧
          Fm g'' C l [(I, SI asc x t (i + 1)), (a', PL ys)] h' ∧ Inv (i + 1) (ys ++ [x']) g'') NoE ⟨h, G, D, tk, O⟩) ∧
      (∀ a' ys g' h' tk', Sub h₁ g' → Inv x.length ys g' → ys.length = x.length → Sub g' h' → h₁.get? a' = none → g'.get? a' = none → At h' a' (PL ys) → Q (.ref a') ⟨h', G, D, tk', O⟩)) NoE ⟨h, G, D, tk, O⟩)
    (hclos : closureFor scope env = pure cl := by rfl) (hcell : (scope.names.all fun y => decide (y.2 ≠ .cell)) = true := by rfl) (hkind : scope.kind = .function := by rfl)
    (hnames : (scope.names.all fun y => decide (y.2 = .local → scope.names.lookup y.1 = some .local)) = true := by rfl)
    (hl : scope.names.lookup y = some .local := by rfl)
    (hs : ∀ x, foldedSetIterable iter env x = pure x := by intro _; rfl) :
    Wp w A (eval (.ListComp elt [⟨.Name y py, iter, [], 0⟩] scope pos) env) Q NoE ⟨h, G, D, tk, O⟩ := by
  refine lcG (cl := cl) (k.mono1 fun v s₁ z => ?_) hclos hcell hkind hnames hs
  obtain ⟨h₁, tk₁, x, t, rfl, rfl, hlen, Inv, i0, it, ie⟩ := z
  refine itSi fun I asc h₂ hIn hIs hI => ?_
  refine ⟨h₂, _, I, rfl, rfl, fun h tk Q hsub q => slfSi (hI.sub hsub) q, fun C a' m h => ∃ i ys g' l, i ≤ x.length ∧ m = x.length - i ∧ ys.length = i ∧ Sub h₁ g' ∧ Inv i ys g' ∧ h₁.get? a' = none ∧ Fm g' C l [(I, SI asc x t i), (a', PL ys)] h, x.length, ?_, ?_⟩
  · intro C a' h₃ hC ha' hne hsub hat' hn
    have hC1 : h₁.get? C = none := hIs.none hC
    have ha1 : h₁.get? a' = none := hIs.none ha'
    have CI : I ≠ C := by rintro rfl; obtain ⟨o, e, _⟩ := hI; rw [hC] at e; cases e
    have aI : I ≠ a' := by rintro rfl; obtain ⟨o, e, _⟩ := hI; rw [ha'] at e; cases e
    refine ⟨0, [], h₁, [], Nat.zero_le _, rfl, rfl, .refl _, i0, ha1, hn, hIs.trans hsub, hC1, mem2 (hI.sub hsub) hat', mem2 (P := fun p => p.1 ≠ C) CI (Ne.symm hne), mem2 (P := fun p => h₁.get? p.1 = none) hIn ha1, by simp; exact aI⟩
  · rintro C a' m h tk ⟨i, ys, g', l, hi, rfl, hyl, hsub, hinv, ha1, F⟩
    by_cases hlt : i < x.length
    · obtain ⟨c, hc⟩ : ∃ c, x[i]? = some c := ⟨x[i], by simp [hlt]⟩
      refine nxSi F.hd hc fun h' u tk' hit' hsb => ?_
      have F₁ := (F.updA hit' hsb).on [] rfl
      refine ltN <| asN <| stL (env := compEnvC scope cl C env) F₁ (fun h₂ tk₂ F₂ => ts0 ?_) (lookup_relabel_local hl) (by rw [show (compEnvC scope cl C env).scope.kind = .function from hkind]; rfl)
      rw [if_pos rfl]
      refine (it C a' I asc i ys g' h₂ tk₂ c u hsub hinv hc F₂).mono1 fun x' s z => ?_
      obtain ⟨h₅, tk₅, g'', l', rfl, hg'', F₅, hinv'⟩ := z
      refine apL F₅.hd1 (by omega) fun h₆ hat₆ hsb₆ => ⟨x.length - (i + 1), by omega, h₆, tk₅, rfl, i + 1, ys ++ [x'], g'', l', hlt, rfl, by simp [hyl], hsub.trans hg'', hinv', ha1, F₅.updA1 hat₆ hsb₆⟩
    · obtain rfl : i = x.length := by omega
      refine enSi hh F.hd (by simp) fun h' he => ?_
      have F₁ := F.drop he
      refine ⟨h', _, rfl, (F₁.on [] rfl).ns, fun h'' hs'' => ?_⟩
      refine ie a' ys g' h'' _ hsub hinv hyl (fun b o e => ?_) ha1 (F₁.ng _ (.head _)) ?_
      · exact (hs''.2 b fun q => by rw [q, F₁.off] at e; cases e).trans (F₁.sub b o e)
      · obtain ⟨o, e, q⟩ := F₁.hd
        exact ⟨o, (hs''.2 _ (F₁.nL _ (.head _))).trans e, q⟩
end
end Mine
end
/-! ## Jn -/
section
open PySem PySem.W PyProof.Rows PySem.Calls
namespace Mine
def SV (v : Value) (x : List Nat) : Prop := ∃ t, v = .str (ST x) t
theorem join_flat (xs : List (List Nat)) : Txt.join (ST []) (xs.map ST) = ST xs.flatten := by
  unfold Txt.join Builtin.Str.glued
  have key : ∀ (r : List (List Nat)) (acc : Array Nat), ((r.map ST).foldl (fun acc p => acc ++ (ST []).cps ++ p.cps) acc) = acc ++ r.flatten.toArray := by
    intro r
    induction r with
    | nil => intro acc; simp
    | cons a r ih => intro acc; rw [List.map_cons, List.foldl_cons, ih]; simp
  cases xs with
  | nil => rfl
  | cons a r =>
    show (⟨((r.map ST).foldl _ (ST a).cps)⟩ : Str) = _
    rw [key]
    simp [ST]
theorem strsAre_of : ∀ {vs : List Value} {xs : List (List Nat)}, A2 SV vs xs → StrsAre vs (xs.map ST)
  | [], [], _ => .nil
  | v :: r, x :: ys, h => by
    obtain ⟨t, e⟩ := h.2 0 v x rfl rfl
    subst e
    exact .cons _ _ (strsAre_of ⟨by simpa using h.1, fun i a b ha hb => h.2 (i + 1) a b (by simpa using ha) (by simpa using hb)⟩)
  | [], _ :: _, h => by have := h.1; simp at this
  | _ :: _, [], h => by have := h.1; simp at this
section
variable {w : World} {A : Around} {E : Value → Shared → Prop} {h : Heap} {G : Array GenState} {D : Drawn} {tk : Nat} {O : OsState} {env : Env}
theorem jnS {e : Expr} {kd : Nat} {cp apos pos : Pos} {Q : Value → Shared → Prop}
    (k : ∀ tk, Wp w A (eval e env) (fun v s₁ => ∃ h₁ tk₁ a vs xs, s₁ = ⟨h₁, G, D, tk₁, O⟩ ∧ v = .ref a ∧ At h₁ a (PL vs) ∧ A2 SV vs xs ∧ xs.flatten.length ≤ 1000000 ∧ ∀ t' tk', Q (.str (ST xs.flatten) t') ⟨h₁, G, D, tk', O⟩) E ⟨h, G, D, tk, O⟩)
    (hs : starEach [e] env = [(false, eval e env)] := by rfl) (hp : (backTo pos (starEach [e] env)).any (·.1) = false := by rfl) (hbase : attributeBase (.Constant (.str "") kd cp) "join" env (eval (.Constant (.str "") kd cp) env) = eval (.Constant (.str "") kd cp) env := by rfl)
    (hfew : ((backTo pos (starEach [e] env)).all (fun x => !x.1) && (backToKw pos (keywordEach [] env)).all (fun x => x.1.isSome)
      && decide ([e].length + ([] : List Keyword).length + (if ([] : List Keyword).isEmpty then 0 else 1) < 30)) = true := by rfl)
    (hline : (apos.endLine == pos.line) = true := by rfl) :
    Wp w A (eval (.Call (.Attribute (.Constant (.str "") kd cp) "join" apos) [e] [] pos) env) Q E ⟨h, G, D, tk, O⟩ := by
  refine clM (cS (l := []) rfl fun t₀ tk₀ pl => Wp.of (GM.join ?_)) hbase hfew hline
  refine cwB (first := [.str (ST []) t₀]) (ar1 ((k tk₀).mono1 fun v s₁ z => ar0 ?_) (by rw [hs]; rfl)) hp (by rw [hs]; rfl)
  obtain ⟨h₁, tk₁, a, vs, xs, rfl, rfl, hat, hA, hl, z⟩ := z
  refine Wp.of (join_list (s := ⟨h₁, G, D, tk₁, O⟩) hat.isList (strsAre_of hA) ?_ fun t' k' => ?_)
  · have : ((xs.map ST).map (·.length)).sum = xs.flatten.length := by
      rw [List.length_flatten, List.map_map]
      congr 1
    rw [this, ST_len, List.length_nil, Nat.mul_zero]
    omega
  · rw [join_flat]; exact z _ _
/-- sum of a list of numbers -/
theorem preSum_eq (ns : List Nat) (xs : Array (Int × Tok)) (he : xs.toList.map (·.1) = ns.map (fun n : Nat => (n : Int))) : ∀ j, preSum (numAt xs) j = ((ns.take j).sum : Nat)
  | 0 => by simp [preSum]
  | j + 1 => by
    rw [preSum, preSum_eq ns xs he j]
    have hl : xs.size = ns.length := by have := congrArg List.length he; simpa using this
    unfold numAt
    by_cases hj : j < ns.length
    · have h1 : (xs.toList.map (·.1))[j]? = some ((ns[j] : Nat) : Int) := by rw [he]; simp [hj]
      have h2 : xs[j]?.map (·.1) = some ((ns[j] : Nat) : Int) := by simpa using h1
      have e3 : (ns.take (j + 1)).sum = (ns.take j).sum + ns[j] := by
        rw [List.take_add_one, List.getElem?_eq_getElem hj, List.sum_append]; simp [-List.take_append_getElem]
      rw [h2, e3]
      show ((ns.take j).sum : Int) + (ns[j] : Int) = _
      omega
    · have h2 : xs[j]? = none := by simp; omega
      rw [h2, List.take_add_one, List.getElem?_eq_none (by omega)]
      simp
theorem items_of : ∀ {vs : List Value} {ns : List Nat}, A2 NI vs ns → ∃ xs : Array (Int × Tok), intItems xs = vs.toArray ∧ xs.toList.map (·.1) = ns.map (fun n : Nat => (n : Int))
  | [], [], _ => ⟨#[], by simp [intItems], rfl⟩
  | v :: r, n :: ys, h => by
    obtain ⟨t, e⟩ := h.2 0 v n rfl rfl
    subst e
    obtain ⟨xs, h1, h2⟩ := items_of (vs := r) (ns := ys) ⟨by simpa using h.1, fun i a b ha hb => h.2 (i + 1) a b (by simpa using ha) (by simpa using hb)⟩
    refine ⟨⟨((n : Int), t) :: xs.toList⟩, ?_, by simp [h2]⟩
    have h1' := congrArg Array.toList h1
    simp [intItems] at h1' ⊢
    exact h1'
  | [], _ :: _, h => by have := h.1; simp at this
  | _ :: _, [], h => by have := h.1; simp at this
theorem smL {a : Addr} {vs : List Value} {ns : List Nat} {Q : Value → Shared → Prop} (hh : A.handled = none) (ha : At h a (PL vs)) (hA : A2 NI vs ns) (hs : ns.sum < 2 ^ 60) (k : ∀ h' t tk', Sub h h' → Q (.int (ns.sum : Nat) t) ⟨h', G, D, tk', O⟩) : Wp w A (call (.builtin "sum") [.ref a]) Q E ⟨h, G, D, tk, O⟩ := by
  obtain ⟨xs, h1, h2⟩ := items_of hA
  have hl : xs.size = ns.length := by have := congrArg List.length h2; simpa using this
  have ps := preSum_eq ns xs h2
  have tk_le : ∀ j, (ns.take j).sum ≤ ns.sum := fun j => by
    conv => rhs; rw [← List.take_append_drop j ns, List.sum_append]
    omega
  have il := ha.isList
  rw [← h1] at il
  refine Wp.of (sum_intList (s := ⟨h, G, D, tk, O⟩) hh il (fun j hj => ⟨?_, ?_⟩) fun h' tk' t' hk => ?_)
  · have e1 : numAt xs j = ((ns.take (j + 1)).sum : Nat) - ((ns.take j).sum : Nat) := by
      rw [← ps, ← ps, preSum]; omega
    have := tk_le (j + 1); have := tk_le j
    unfold InLong; omega
  · rw [ps]
    have := tk_le (j + 1)
    unfold InLong; omega
  · rw [ps, hl, List.take_length]
    exact k h' t' tk' hk
/-- list.extend -/
theorem exL {a b : Addr} {vs us : List Value} {Q : Value → Shared → Prop} (ha : At h a (PL vs)) (hb : At h b (PL us)) (hl : vs.length + us.length ≤ 100000) (k : ∀ h', At h' a (PL (vs ++ us)) → Heap.SameBut a h h' → Q .none ⟨h', G, D, tk, O⟩) :
    Wp w A (call (.builtin "list.extend") [.ref a, .ref b]) Q E ⟨h, G, D, tk, O⟩ := by
  obtain ⟨_, e1, n1, rfl⟩ := ha
  obtain ⟨_, e2, n2, rfl⟩ := hb
  have hsz' : vs.toArray.size + us.toArray.size ≤ sizeLine := by rw [sizeLine_eq]; simp; omega
  refine Wp.of (call_meets (s := ⟨h, G, D, tk, O⟩) PySem.F.slot_list_extend ⟨_, e1, rfl⟩ PySem.F.entry_list_extend (PySem.F.args_list_extend_2 _ _) (AutoSeq1.list_extend_list_list_0 a vs.toArray n1 b us.toArray n2 (extend_door hsz') (Nat.le_trans (Nat.le_add_right _ _) hsz')) ⟨e1, e2, ?_⟩)
  refine k _ ⟨_, Heap.get?_update_self _ e1 (by rw [mapSeq_app]; rfl), ?_⟩ (Heap.SameBut.update ..)
  rw [mapSeq_app]
  refine ⟨if ((vs.toArray ++ us.toArray).size == vs.toArray.size) = true then n1 else n1 + 1, ?_⟩
  rw [show vs.toArray ++ us.toArray = (vs ++ us).toArray by simp]
theorem exE {o e : Expr} {apos pos epos : Pos} {Q : Flow → Shared → Prop}
    (k : Wp w A (eval o env) (fun ov s₁ => ∃ a vs h₁ tk₁, ov = .ref a ∧ s₁ = ⟨h₁, G, D, tk₁, O⟩ ∧ At h₁ a (PL vs) ∧ Wp w A (eval e env) (fun y s₂ => ∃ h₂ tk₂ b vs us, s₂ = ⟨h₂, G, D, tk₂, O⟩ ∧ y = .ref b ∧ At h₂ a (PL vs) ∧ At h₂ b (PL us) ∧ vs.length + us.length ≤ 100000 ∧
      ∀ h', At h' a (PL (vs ++ us)) → Heap.SameBut a h₂ h' → Q .next ⟨h', G, D, tk₂, O⟩) E s₁) E ⟨h, G, D, tk, O⟩)
    (hs : starEach [e] env = [(false, eval e env)] := by rfl) (hp : (backTo pos (starEach [e] env)).any (·.1) = false := by rfl) (hbase : attributeBase o "extend" env (eval o env) = eval o env := by rfl)
    (hfew : ((backTo pos (starEach [e] env)).all (fun x => !x.1) && (backToKw pos (keywordEach [] env)).all (fun x => x.1.isSome)
      && decide ([e].length + ([] : List Keyword).length + (if ([] : List Keyword).isEmpty then 0 else 1) < 30)) = true := by rfl)
    (hline : (apos.endLine == pos.line) = true := by rfl)
    (hi : interactive env = false := by rfl) (hsw : swapsWith (.Call (.Attribute o "extend" apos) [e] [] pos) none epos.line env = pure false := by rfl) :
    Wp w A (exec (.Expr (.Call (.Attribute o "extend" apos) [e] [] pos) epos) env) Q E ⟨h, G, D, tk, O⟩ := by
  refine Wp.of (wpAny_Expr (Wp.any ?_) hi hsw)
  refine clM (k.mono1 fun ov s₁ z pl => ?_) hbase hfew hline
  obtain ⟨a, vs, h₁, tk₁, rfl, rfl, hat, z⟩ := z
  refine Wp.of (getMethod_list_of (s := ⟨h₁, G, D, tk₁, O⟩) PySem.F.slot_list_extend PySem.F.type_list_extend hat.isList ?_ ?_)
  · obtain ⟨_, e1, n1, rfl⟩ := hat
    exact ⟨_, e1, rfl⟩
  · refine cwB (first := [.ref a]) (ar1 (z.mono1 fun v s₁ z => ar0 ?_) (by rw [hs]; rfl)) hp (by rw [hs]; rfl)
    obtain ⟨h₂, tk₂, b, vs', us, rfl, rfl, a1, a2, hl, z⟩ := z
    exact exL a1 a2 hl z
end
end Mine
end
/-! ## Fi -/
section
open PySem PySem.W PyProof.Rows PySem.Calls
namespace Mine
/-! the file, plain -/
structure FS where
  tx : List Nat
  rd : List (List Nat × Nat)
  td : List (List Nat × Nat)
  at' : Nat
def wordOf (ss : List Sn) : List Nat := ss.map (·.c)
def innerOf (ss : List Sn) (ms : List Nat) : List Nat := ((ss.zip ms).map fun z => List.replicate z.2 92 ++ [z.1.c]).flatten
def foldOf (ss : List Sn) : List Nat := (ss.map (·.f)).flatten
def sizeOf' (ss : List Sn) (ms : List Nat) : Nat := ms.sum + (ss.map (·.f.length)).sum
def closOf (last : Bool) (ss : List Sn) : List Nat := match last with
  | true => [92].take (ss.length % 2)
  | false => [34]
def fstep (last : Bool) (s : FS) (x : Wd) : FS := match x.q with
  | true => ⟨s.tx ++ ([34] ++ innerOf x.s (marksOf true x.s) ++ closOf last x.s ++ x.b), s.rd ++ [(wordOf x.s, s.tx.length + 1 + (innerOf x.s (marksOf true x.s) ++ closOf last x.s).length)],
      s.td ++ [(foldOf x.s, s.at' + 1 + sizeOf' x.s (marksOf true x.s) + (closOf last x.s).length)], s.at' + (1 + sizeOf' x.s (marksOf true x.s) + (closOf last x.s ++ x.b).length)⟩
  | false => ⟨s.tx ++ (innerOf x.s (marksOf false x.s) ++ x.b), s.rd ++ [(wordOf x.s, s.tx.length + (innerOf x.s (marksOf false x.s)).length + (x.b.take 1).length)],
      s.td ++ (partsOf x.s (marksOf false x.s) x.b).map (fun p => (p.1, s.at' + p.2)), s.at' + (sizeOf' x.s (marksOf false x.s) + x.b.length)⟩
def fst' (ws : List Wd) : Nat → FS
  | 0 => ⟨[], [], [], 0⟩
  | k + 1 => match ws[k]? with
    | some x => fstep (k + 1 == ws.length) (fst' ws k) x
    | none => fst' ws k
def fileOf (ws : List Wd) : FS := fst' ws ws.length
theorem fst_succ {ws : List Wd} {k : Nat} {x : Wd} (h : ws[k]? = some x) : fst' ws (k + 1) = fstep (k + 1 == ws.length) (fst' ws k) x := by rw [fst', h]
section
variable {w : World} {A : Around} {E : Value → Shared → Prop} {h : Heap} {G : Array GenState} {D : Drawn} {tk : Nat} {O : OsState} {env : Env} {g : Heap} {mg mb : Str → Option Value}
/-- [raw for mark, raw, fold in signs] and its like: the list comes out fresh, all else is kept -/
theorem compSn {R : Value → Sn → Prop} {elt iter : Expr} {p1 p2 p3 tp pos : Pos} {kd : Nat} {scope : Scope} {cl : List (Str × Addr)} {Q : Value → Shared → Prop} (hh : A.handled = none) {sa : Addr} {ss : List Sn} (hl : ss.length ≤ 1000) (hsn : SnsAt h sa ss)
    (ki : Wp w A (eval iter env) (fun v s₁ => ∃ tk₁, v = .ref sa ∧ s₁ = ⟨h, G, D, tk₁, O⟩) NoE ⟨h, G, D, tk, O⟩)
    (ke : ∀ C y t1 t2 t3 M h' tk', Sub h h' → Fm h C [("fold", .str (ST y.f) t3), ("raw", .str (ST [y.c]) t2), ("mark", .int y.m t1)] M h' → y ∈ ss → Wp w A (eval elt (compEnvC scope cl C env)) (fun v s => ∃ tk₂, s = ⟨h', G, D, tk₂, O⟩ ∧ R v y) NoE ⟨h', G, D, tk', O⟩)
    (hQ : ∀ a ys h' tk', h.get? a = none → Sub h h' → At h' a (PL ys) → A2 R ys ss → Q (.ref a) ⟨h', G, D, tk', O⟩)
    (hclos : closureFor scope env = pure cl := by rfl) (hcell : (scope.names.all fun y => decide (y.2 ≠ .cell)) = true := by rfl) (hkind : scope.kind = .function := by rfl)
    (hnames : (scope.names.all fun y => decide (y.2 = .local → scope.names.lookup y.1 = some .local)) = true := by rfl)
    (hl1 : scope.names.lookup ("mark" : Str) = some .local := by rfl) (hl2 : scope.names.lookup ("raw" : Str) = some .local := by rfl) (hl3 : scope.names.lookup ("fold" : Str) = some .local := by rfl)
    (hs : ∀ x, foldedSetIterable iter env x = pure x := by intro _; rfl) :
    Wp w A (eval (.ListComp elt [⟨.Tuple [.Name "mark" p1, .Name "raw" p2, .Name "fold" p3] kd tp, iter, [], 0⟩] scope pos) env) Q NoE ⟨h, G, D, tk, O⟩ := by
  obtain ⟨sv, hsa, hsv⟩ := hsn
  have hp : ∀ C, ((compEnvC scope cl C env).scope.kind == .class || ((compEnvC scope cl C env).scope.kind == .module && (compEnvC scope cl C env).locals != (compEnvC scope cl C env).globals)) = false := fun C => by
    rw [show (compEnvC scope cl C env).scope.kind = .function from hkind]; rfl
  refine lcL (cl := cl) hh (ki.mono1 fun v s₁ z => ?_) hclos hcell hkind hnames hs
  obtain ⟨tk₁, rfl, rfl⟩ := z
  refine ⟨h, tk₁, sa, sv, rfl, rfl, hsa, by rw [hsv.1]; omega, fun i ys g' => g' = h ∧ A2 R ys (ss.take i), ⟨rfl, .nil⟩, ?_, ?_⟩
  · rintro C a' I i ys g' h' tk' v hsub ⟨rfl, hA⟩ hvi F
    obtain ⟨y, hy, ta, t1, t2, t3, rfl, hta⟩ := hsv.get' hvi
    refine ltT F.hd <| asT hh (hta.sub F.sub) rfl fun h₂ hs₂ => ioN <| stL (env := compEnvC scope cl C env) (F.keeps hs₂) (fun h₃ tk₃ F₃ => ioN <| stL (env := compEnvC scope cl C env) F₃ (fun h₄ tk₄ F₄ => ioN <| stL (env := compEnvC scope cl C env) F₄ (fun h₅ tk₅ F₅ => io0 ?_) (lookup_relabel_local hl3) (hp C)) (lookup_relabel_local hl2) (hp C)) (lookup_relabel_local hl1) (hp C)
    refine (ke C y t1 t2 t3 _ h₅ tk₅ F₅.sub F₅ (List.mem_of_getElem? hy)).mono1 fun v s z => ?_
    obtain ⟨tk₆, rfl, hR⟩ := z
    refine ⟨h₅, tk₆, g', _, rfl, .refl _, F₅, rfl, ?_⟩
    rw [List.take_add_one, hy]
    exact hA.snoc hR
  · rintro a' ys g' h' tk' hsub ⟨rfl, hA⟩ hyl hgh ha' hga hat
    rw [hsv.1, List.take_length] at hA
    exact hQ a' ys h' tk' ha' hgh hat hA
theorem A2.map {α β γ : Type} {P : α → γ → Prop} {f : β → γ} {xs : List α} {ys : List β} (h : A2 (fun v y => P v (f y)) xs ys) : A2 P xs (ys.map f) := by
  refine ⟨by simp [h.1], fun i a b ha hb => ?_⟩
  rw [List.getElem?_map] at hb
  obtain ⟨y, hy, rfl⟩ := Option.map_eq_some_iff.mp hb
  exact h.2 i a y ha hy
theorem inner_len : ∀ (ss : List Sn) (ms : List Nat), ms.length = ss.length → (innerOf ss ms).length = ms.sum + ss.length
  | [], [], _ => rfl
  | a :: r, m :: ns, h => by
    have ih := inner_len r ns (by simpa using h)
    unfold innerOf at ih ⊢
    simp only [List.zip_cons_cons, List.map_cons, List.flatten_cons, List.length_append, ih, List.length_replicate, List.length_cons, List.length_nil, List.sum_cons]
    omega
  | [], _ :: _, h => by simp at h
  | _ :: _, [], h => by simp at h
theorem marks_sum (q : Bool) (ss : List Sn) : (marksOf q ss).sum ≤ ss.length := by
  have : ∀ l : List Nat, (∀ m ∈ l, m ≤ 1) → l.sum ≤ l.length := by
    intro l
    induction l with
    | nil => simp
    | cons a r ih => intro h; have := h a (.head _); have := ih fun m hm => h m (.tail _ hm); simp; omega
  rw [← marksOf_len q ss]
  apply this
  intro m hm
  unfold marksOf at hm
  obtain ⟨j, _, rfl⟩ := List.mem_map.mp hm
  unfold markAt
  split
  · cases need q (prevOf ss j) _ <;> decide
  · decide
theorem gs_len {c : Nat} {f : List Nat} (h : gs c f = true) : f.length ≤ 10 := by
  unfold gs at h
  split at h
  · simp at h; rw [h.1]; simp
  · simp only [Bool.and_eq_true] at h
    exact Nat.le_of_ble_eq_true h.1.2
theorem clos_len (b : Bool) (ss : List Sn) : (closOf b ss).length ≤ 1 := by
  unfold closOf
  cases b
  · simp
  · simp; omega
theorem fst_len {ws : List Wd} (hb : ∀ x ∈ ws, x.b.length ≤ 2) (hs : ∀ x ∈ ws, x.s.length ≤ 100) : ∀ i, (fst' ws i).tx.length ≤ 300 * i
  | 0 => by simp [fst']
  | i + 1 => by
    have ih := fst_len hb hs i
    rw [fst']
    split
    · rename_i x hx
      have h1 := hb x (List.mem_of_getElem? hx)
      have h2 := hs x (List.mem_of_getElem? hx)
      have h3 := fun q => inner_len x.s (marksOf q x.s) (marksOf_len _ _)
      have h4 := fun q => marks_sum q x.s
      have h5 := clos_len (i + 1 == ws.length) x.s
      unfold fstep
      split
      · have := h3 true; have := h4 true
        simp only [List.length_append, List.length_cons, List.length_nil]; omega
      · have := h3 false; have := h4 false
        simp only [List.length_append]; omega
    · omega
theorem word_flat (ss : List Sn) : (ss.map fun y => [y.c]).flatten = wordOf ss := by
  unfold wordOf
  induction ss with
  | nil => rfl
  | cons a r ih => simp only [List.map_cons, List.flatten_cons, ih]; rfl
theorem Fm.base {g g' h : Heap} {L : Addr} {l : List (Str × Value)} {M : List (Addr × Pd)} (F : Fm g L l M h) (e : ∀ b, g.get? b = g'.get? b) : Fm g' L l M h :=
  ⟨F.ns, fun b o q => F.sub b o ((e b).trans q), (e _).symm.trans F.off, F.led, F.nL, fun p hp => (e _).symm.trans (F.ng p hp), F.nd⟩
theorem Fm.updM {g h h' : Heap} {L a : Addr} {l : List (Str × Value)} {M₁ M₂ : List (Addr × Pd)} {P P' : Pd} (F : Fm g L l (M₁ ++ (a, P) :: M₂) h) (hat : At h' a P') (hs : Heap.SameBut a h h') : Fm g L l (M₁ ++ (a, P') :: M₂) h' :=
  ((F.perm List.perm_middle.symm).updA hat hs).perm List.perm_middle
theorem A2.app {α β : Type} {R : α → β → Prop} {xs xs' : List α} {ys ys' : List β} (h : A2 R xs ys) (k : A2 R xs' ys') : A2 R (xs ++ xs') (ys ++ ys') := by
  refine ⟨by simp [h.1, k.1], fun i a b ha hb => ?_⟩
  by_cases hi : i < xs.length
  · rw [List.getElem?_append_left hi] at ha
    rw [List.getElem?_append_left (h.1 ▸ hi)] at hb
    exact h.2 i a b ha hb
  · rw [List.getElem?_append_right (by omega)] at ha
    rw [List.getElem?_append_right (by rw [← h.1]; omega), ← h.1] at hb
    exact k.2 _ a b ha hb
theorem pstep_len (s : PS) (z : Sn × Nat) : (pstep s z).P.length ≤ s.P.length + 1 := by
  unfold pstep
  repeat' split
  all_goals first | (dsimp only; omega) | simp
theorem pfold_len : ∀ (l : List (Sn × Nat)) (s : PS), (l.foldl pstep s).P.length ≤ s.P.length + l.length
  | [], s => by simp
  | a :: r, s => by
    rw [List.foldl_cons]
    have := pfold_len r (pstep s a)
    have := pstep_len s a
    rw [List.length_cons]; omega
theorem parts_len (ss : List Sn) (ms : List Nat) (b : List Nat) : (partsOf ss ms b).length ≤ ss.length + 1 := by
  have h := pfold_len (ss.zip ms) ⟨[], [], 0, 0⟩
  rw [List.length_zip] at h
  unfold partsOf pend
  simp only [List.length_nil] at h
  split
  · omega
  · simp; omega
theorem rd_len (ws : List Wd) : ∀ i, (fst' ws i).rd.length ≤ i
  | 0 => by simp [fst']
  | i + 1 => by
    have ih := rd_len ws i
    rw [fst']
    split
    · unfold fstep
      split <;> (simp; omega)
    · omega
theorem td_len {ws : List Wd} (hs : ∀ x ∈ ws, x.s.length ≤ 100) : ∀ i, (fst' ws i).td.length ≤ 101 * i
  | 0 => by simp [fst']
  | i + 1 => by
    have ih := td_len hs i
    rw [fst']
    split
    · rename_i x hx
      have h2 := hs x (List.mem_of_getElem? hx)
      have h3 := parts_len x.s (marksOf false x.s) x.b
      unfold fstep
      split <;> (simp; omega)
    · omega
/-- between two words -/
def FInv (h₀ : Heap) (L wa : Addr) (ws : List Wd) (it : Addr) (i : Nat) (h : Heap) : Prop :=
  ∃ g ra da vr vd t u mo wo, Sub h₀ g ∧ Fm g L [("text", .str (ST (fst' ws i).tx) t), ("read", .ref ra), ("told", .ref da), ("words", .ref wa)]
      [(it, RI i ws.length), (ra, PL vr), (da, PL vd), (L + 1 + 1 + 1, CE wo), (L + 1 + 1, CE mo), (L + 1, CE (some (.int (fst' ws i).at' u)))] h ∧
    A2 (PtAt (less g h₀)) vr (fst' ws i).rd ∧ A2 (PtAt (less g h₀)) vd (fst' ws i).td
set_option maxHeartbeats 4000000 in
theorem file_spec {f c fm fp wa : Addr} {ws : List Wd} {Q : Value → Shared → Prop} (T : Tf mg mb g) (H : FnC g mg 14 "_law_file" f c) (HM : Fn g mg 12 "_law_marks" fm) (HP : Fn g mg 13 "_law_parts" fp) (k : Sub g h) (room : Room A 5)
    (h3 : mg "len" = none) (h4 : mb "len" = some (.builtin "len")) (h5 : mg "range" = none) (h6 : mb "range" = some (.type "range")) (h7 : mg "sum" = none) (h8 : mb "sum" = some (.builtin "sum"))
    (hw : WdsAt h wa ws) (hok : ∀ x ∈ ws, (∀ y ∈ x.s, SnOk y) ∧ x.b.length ≤ 2) (hsz : wsz ws ≤ 100)
    (hQ : ∀ tu ra da tt h' tk' r, Sub h h' → Sub r h' → (∀ b o, h.get? b = some o → r.get? b = none) → At r tu (TU [.str (ST (fileOf ws).tx) tt, .ref ra, .ref da]) → PtsAt r ra (fileOf ws).rd → PtsAt r da (fileOf ws).td → Q (.ref tu) ⟨h', G, D, tk', O⟩) :
    Wp w A (call (.ref f) [.ref wa]) Q E ⟨h, G, D, tk, O⟩ := by
  obtain ⟨wv, hwa, hwv⟩ := hw
  refine enterK [] [("words", .ref wa)] [("words", .ref wa)] [("word", h.objs.size + 1 + 1 + 1), ("marks", h.objs.size + 1 + 1), ("at", h.objs.size + 1)] [(h.objs.size + 1 + 1 + 1, CE none), (h.objs.size + 1 + 1, CE none), (h.objs.size + 1, CE none)] T H k room.depth (fun _ hp => (nomatch hp)) List.nodup_nil (fun h₁ tk₁ X => ?_) (hkind := fun y hy => ?_)
  rotate_left
  · rw [List.mem_singleton] at hy; subst hy; exact .inl rfl
  have X : Fm h h.objs.size [("words", .ref wa)] [(h.objs.size + 1 + 1 + 1, CE none), (h.objs.size + 1 + 1, CE none), (h.objs.size + 1, CE none)] h₁ := X.base fun b => by rw [get_minus]; simp
  have room' := room.deeper (n := 4) (env := envOfC "_law_file" (fnAt 14).2.2 h.objs.size f (.ref c))
  refine wCons <| asgT room'.2.2 <| tupM <| ar1 <| cS (l := []) rfl fun t0 _ => ar1 <| lstM <| ar0 ⟨_, _, rfl, by simp, fun ra h₂ hra hs₂ hat₂ => ?_⟩
  have X₂ := X.newA hs₂ hra hat₂
  refine ar1 <| lstM <| ar0 ⟨_, _, rfl, by simp, fun da h₃ hda hs₃ hat₃ => ?_⟩
  have X₃ := X₂.newA hs₃ hda hat₃
  refine ar1 <| cI fun t1 _ => ar0 ⟨_, _, rfl, by simp, fun tu h₄ htu hs₄ hat₄ => ⟨_, _, _, _, rfl, rfl, hat₄, rfl, fun h₅ hs₅ => ?_⟩⟩
  have X₅ := X₃.keeps (hs₄.trans hs₅)
  refine ioN <| stL X₅ fun h₆ tk₆ X₆ => ioN <| stL X₆ fun h₇ tk₇ X₇ => ioN <| stL X₇ fun h₈ tk₈ X₈ => ioN <| stCe (X₈.led (h.objs.size + 1, CE none) (.tail _ (.tail _ (.tail _ (.tail _ (.head _)))))) fun h₉ hat₉ hsb₉ => io0 <| nx_next ?_
  have X₈' : Fm _ _ _ ((h.objs.size + 1, CE none) :: [(da, PL []), (ra, PL []), (h.objs.size + 1 + 1 + 1, CE none), (h.objs.size + 1 + 1, CE none)]) _ := Fm.fromEnd (M := [(da, PL []), (ra, PL []), (h.objs.size + 1 + 1 + 1, CE none), (h.objs.size + 1 + 1, CE none)]) X₈
  have X₉ := (X₈'.updA hat₉ hsb₉).toEnd
  have X₉ : Fm _ _ _ [(ra, PL []), (da, PL []), (h.objs.size + 1 + 1 + 1, CE none), (h.objs.size + 1 + 1, CE none), (h.objs.size + 1, CE (some (.int 0 t1)))] _ := X₉.swap
  clear X X₂ X₃ X₅ X₆ X₇ X₈ X₈' hat₂ hat₃ hat₄ hs₂ hs₃ hs₄ hs₅ hat₉ hsb₉ hra hda htu
  have k₉ := k.trans X₉.sub
  refine wCons <| forR room'.2.2 <| clT (T.sub k₉) h5 h6 <| ar1 <| clB (T.sub k₉) h3 h4 <| ar1 <| nmL X₉ rfl <| ar0 <| lenL (hwa.sub X₉.sub) (by rw [hwv.1]; have := wsz_len ws; omega) fun _ _ => ar0 <| rgN fun rg h₁₀ tk₁₀ hrg hs₁₀ hat₁₀ => ?_
  rw [hwv.1] at hat₁₀
  have X₁₀ := X₉.keeps hs₁₀
  refine ⟨_, _, _, _, rfl, rfl, hat₁₀, by have := wsz_len ws; omega, FInv h h.objs.size wa ws, ?_, ?_, ?_, ?_⟩
  · intro it h' hit hs hat
    exact ⟨h, ra, da, [], [], _, _, _, _, .refl _, (X₁₀.newA hs hit hat).on _ rfl, .nil, .nil⟩
  · rintro it i h' ⟨_, _, _, _, _, _, _, _, _, _, F, -⟩
    exact F.hd
  · rintro it i h' h'' tk' ti ⟨g', ra, da, vr, vd, t, u, mo, wo, hg, F, hr, hd⟩ hi hit hsb
    have F₁ := F.updA hit hsb
    refine ltN <| asN <| stL F₁ fun h₂ tk₂ F₂ => ?_
    obtain ⟨x, hx⟩ : ∃ x, ws[i]? = some x := ⟨ws[i], by simp [hi]⟩
    obtain ⟨v, hv, ta, tb, sa, rfl, hat, hsn⟩ := hwv.get hx
    obtain ⟨hxo, hxb⟩ := hok x (List.mem_of_getElem? hx)
    unfold FInv
    rw [fst_succ hx]
    have hsls : ∀ x ∈ ws, x.s.length ≤ 100 := fun y hy => by
      obtain ⟨j, hj⟩ := List.getElem?_of_mem hy
      have : y.s.length + 1 ≤ wsz ws := by
        obtain ⟨hl, he⟩ := List.getElem?_eq_some_iff.mp hj
        have h1 : ws = ws.take j ++ y :: ws.drop (j + 1) := by
          rw [← he, List.getElem_cons_drop, List.take_append_drop]
        rw [h1]; simp [wsz]; omega
      omega
    have hwl : ws.length ≤ 100 := Nat.le_trans (wsz_len ws) hsz
    have htx := fst_len (fun x hx => (hok x hx).2) hsls i
    have hrd := rd_len ws i
    have htd := td_len hsls i
    generalize fst' ws i = st at F₂ hr hd F F₁ htx hrd htd ⊢
    refine wCons <| asgT room'.2.2 <| wSub <| nmL F₂ rfl <| nmL F₂ rfl <| itL (hwa.sub (hg.trans F₂.sub)) hv (by have := wsz_len ws; omega) ⟨_, _, _, _, rfl, rfl, hat.sub (hg.trans F₂.sub), rfl, fun h₃ hs₃ => ?_⟩
    have F₃ := F₂.keeps hs₃
    refine ioN <| stL F₃ fun h₄ tk₄ F₄ => ioN <| stL F₄ fun h₅ tk₅ F₅ => ioN <| stL F₅ fun h₆ tk₆ F₆ => io0 <| nx_next ?_
    clear F F₁ F₂ F₃ F₄ F₅ hit hsb hs₃
    have k₆ := k.trans (hg.trans F₆.sub)
    refine wCons <| wAsg <| clU (T.sub k₆) HM <| ar1 <| nmL F₆ rfl <| ar1 <| nmL F₆ rfl <| ar0 ⟨k₆, ?_⟩
    have hsl : x.s.length ≤ 100 := hsls x (List.mem_of_getElem? hx)
    refine marks_spec T HM k₆ (room'.less (by decide)) h3 h4 h5 h6 (hsn.sub (hg.trans F₆.sub)) (by omega) fun am mv h₇ tk₇ ham hs₇ hat₇ hmv => ?_
    obtain ⟨g₇, hg₇, F₇, hma⟩ := (F₆.newA hs₇ ham hat₇).shut
    refine stCe (F₇.led (h.objs.size + 1 + 1, CE mo) (.tail _ (.tail _ (.tail _ (.tail _ (.head _)))))) fun h₈ hat₈ hsb₈ => nx_next ?_
    have F₈ := Fm.updM (M₁ := [(it, RI (i + 1) ws.length), (ra, PL vr), (da, PL vd), (h.objs.size + 1 + 1 + 1, CE wo)]) F₇ hat₈ hsb₈
    clear F₆ F₇ hat₇ hs₇ ham hat₈ hsb₈
    have hr := hr.lessP hg₇
    have hd := hd.lessP hg₇
    have hg := hg.trans hg₇
    have k₈ := k.trans (hg.trans F₈.sub)
    refine wCons <| wAsg <| jnS fun tkj => compSn (R := fun v y => SV v [y.c]) room'.2.2 (by omega) (hsn.sub (hg.trans F₈.sub)) (nmL F₈ rfl ⟨_, rfl, rfl⟩) (fun C y t1 t2 t3 M h' tk' hs F _ => nmL F rfl ⟨_, rfl, _, rfl⟩) fun a9 ys9 h₉ tk₉ ha9 hs₉ hat9 hA9 => ⟨_, _, _, ys9, x.s.map (fun y => [y.c]), rfl, rfl, hat9, hA9.map, ?_, fun t9 tk9 => ?_⟩
    · rw [word_flat]; unfold wordOf; simp; omega
    rw [word_flat]
    refine stCe (F₈.keeps hs₉).hd3 fun h₁₀ hat₁₀ hsb₁₀ => nx_next ?_
    have F₁₀ := (F₈.keeps hs₉).updA3 hat₁₀ hsb₁₀
    clear F₈ hat9 hs₉ ha9 hat₁₀ hsb₁₀
    have hmk : ∀ (j : Nat) (z : Sn), x.s[j]? = some z → ∃ m t, mv[j]? = some (.int (m : Nat) t) ∧ (marksOf x.q x.s)[j]? = some m ∧ m ≤ 1 := by
      intro j z hz
      have hj := (List.getElem?_eq_some_iff.mp hz).1
      obtain ⟨m, hm⟩ : ∃ m, (marksOf x.q x.s)[j]? = some m := ⟨(marksOf x.q x.s)[j]'(by rw [marksOf_len]; exact hj), by simp⟩
      obtain ⟨v, hv, t, rfl⟩ := hmv.get hm
      refine ⟨m, t, hv, hm, ?_⟩
      unfold marksOf at hm
      rw [List.getElem?_map] at hm
      obtain ⟨j', hj', rfl⟩ := Option.map_eq_some_iff.mp hm
      unfold markAt
      split
      · cases need x.q (prevOf x.s j') _ <;> decide
      · decide
    have k₁₀ := k.trans (hg.trans F₁₀.sub)
    obtain ⟨sv, hsa, hsv⟩ := id hsn
    refine wCons <| wAsg <| jnS fun tkj => lcR room'.2.2 <| clT (T.sub k₁₀) h5 h6 <| ar1 <| clB (T.sub k₁₀) h3 h4 <| ar1 <| nmL F₁₀ rfl <| ar0 <| lenL (hsa.sub (hg.trans F₁₀.sub)) (by rw [hsv.1]; omega) fun _ _ => ar0 <| rgN fun rg h₁₁ tk₁₁ hrg hs₁₁ hat₁₁ => ?_
    rw [hsv.1] at hat₁₁
    have F₁₁ := F₁₀.keeps hs₁₁
    have cm : At h₁₁ (h.objs.size + 1 + 1) (CE (some (.ref am))) := F₁₁.led (h.objs.size + 1 + 1, CE (some (.ref am))) (.tail _ (.tail _ (.tail _ (.tail _ (.head _)))))
    have cw : At h₁₁ (h.objs.size + 1 + 1 + 1) (CE (some (.str (ST (wordOf x.s)) t9))) := F₁₁.hd3
    refine ⟨h₁₁, tk₁₁, rg, x.s.length, rfl, rfl, hat₁₁, by omega, fun i ys g' => g' = h₁₁ ∧ A2 SV ys (((x.s.zip (marksOf x.q x.s)).take i).map fun z => List.replicate z.2 92 ++ [z.1.c]), ⟨rfl, .nil⟩, ?_, ?_⟩
    · rintro C a' I j ys g' h' tk' tj hsub ⟨rfl, hA⟩ hj F
      obtain ⟨z, hz⟩ : ∃ z, x.s[j]? = some z := ⟨x.s[j], by simp [hj]⟩
      obtain ⟨m, tm, hm1, hm2, hm3⟩ := hmk j z hz
      have hwj : (wordOf x.s)[j]? = some z.c := by unfold wordOf; rw [List.getElem?_map, hz]; rfl
      refine ts0 ?_
      rw [if_pos rfl]
      refine wBin <| wBin <| cS (l := [92]) rfl fun _ _ => wSub <| nmC (cm.sub F.sub) <| nmL F rfl <| itL (hma.sub (F₁₁.sub.trans F.sub)) hm1 (by omega) <| mulS (by omega) fun _ _ => wSub <| nmC (cw.sub F.sub) <| nmL F rfl <| itS hwj (by unfold wordOf; rw [sizeLine_eq]; simp; omega) fun _ _ => addS (by rw [sizeLine_eq]; simp; omega) fun t' tk' => ?_
      refine ⟨h', _, g', _, rfl, .refl _, F, rfl, ?_⟩
      have hzz : (x.s.zip (marksOf x.q x.s))[j]? = some (z, m) := by rw [List.getElem?_zip_eq_some]; exact ⟨hz, hm2⟩
      rw [List.take_add_one, hzz, List.map_append]
      exact hA.snoc ⟨t', rfl⟩
    · rintro a' ys g' h₁₂ tk₁₂ hsub ⟨rfl, hA⟩ hyl hgh ha' hga hat
      have hz : (x.s.zip (marksOf x.q x.s)).take x.s.length = x.s.zip (marksOf x.q x.s) := by
        rw [List.take_of_length_le]; rw [List.length_zip, marksOf_len]; omega
      rw [hz] at hA
      have hil := inner_len x.s (marksOf x.q x.s) (marksOf_len _ _)
      have hms := marks_sum x.q x.s
      refine ⟨h₁₂, _, a', ys, _, rfl, rfl, hat, hA, ?_, fun ti2 tk13 => ?_⟩
      · show (innerOf x.s (marksOf x.q x.s)).length ≤ _
        omega
      refine stL (F₁₁.keeps hgh) fun h₁₃ tk₁₃ F₁₃ => nx_next ?_
      clear F₁₀ F₁₁ cm cw hat hgh hga ha' hat₁₁ hs₁₁ hrg hA
      have F₁₃ : Fm _ _ (("inner", .str (ST (innerOf x.s (marksOf x.q x.s))) ti2) :: _) _ _ := F₁₃
      have k₁₃ := k.trans (hg.trans F₁₃.sub)
      have hfl : ∀ y ∈ x.s, y.f.length ≤ 10 := fun y hy => gs_len (hxo y hy).2
      have hfs : (x.s.map (·.f.length)).sum ≤ 10 * x.s.length := by
        have : ∀ l : List Sn, (∀ y ∈ l, y.f.length ≤ 10) → (l.map (·.f.length)).sum ≤ 10 * l.length := by
          intro l
          induction l with
          | nil => simp
          | cons a r ih => intro h; have := h a (.head _); have := ih fun m hm => h m (.tail _ hm); simp; omega
        exact this _ hfl
      refine wCons <| wAsg <| wBin <| clB (T.sub k₁₃) h7 h8 <| ar1 <| nmC (F₁₃.led (h.objs.size + 1 + 1, CE (some (.ref am))) (.tail _ (.tail _ (.tail _ (.tail _ (.head _)))))) <| ar0 <| smL room'.2.2 (hma.sub F₁₃.sub) hmv (by omega) fun h₁₄ t14 tk14 hs₁₄ => ?_
      have F₁₄ := F₁₃.keeps hs₁₄
      have k₁₄ := k₁₃.trans hs₁₄
      refine clB (T.sub k₁₄) h7 h8 <| ar1 <| compSn (R := fun v y => NI v y.f.length) room'.2.2 (by omega) (hsn.sub (hg.trans F₁₄.sub)) (nmL F₁₄ rfl ⟨_, rfl, rfl⟩) (fun C y t1 t2 t3 M h' tk' hs F hy => ?_) fun a15 ys15 h₁₅ tk₁₅ ha15 hs₁₅ hat15 hA15 => ar0 <| smL room'.2.2 hat15 (A2.map (f := fun y : Sn => y.f.length) hA15) (by omega) fun h₁₆ t16 tk16 hs₁₆ => addI fun _ _ => stL (F₁₄.keeps (hs₁₅.trans hs₁₆)) fun h₁₇ tk₁₇ F₁₇ => nx_next ?_
      · exact clB (T.sub (k₁₄.trans hs)) h3 h4 <| ar1 <| nmL F rfl <| ar0 <| lenS (by have := hfl y hy; rw [sizeLine_eq]; omega) fun u tk => ⟨_, rfl, u, rfl⟩
      rw [show ((((marksOf x.q x.s).sum : Nat) : Int) + (((x.s.map fun y => y.f.length).sum : Nat) : Int)) = ((sizeOf' x.s (marksOf x.q x.s) : Nat) : Int) by unfold sizeOf'; omega] at F₁₇
      clear F₁₃ F₁₄ hs₁₄ hs₁₅ hs₁₆ hat15 ha15 hA15
      have k₁₇ := k.trans (hg.trans F₁₇.sub)
      have hil := inner_len x.s (marksOf x.q x.s) (marksOf_len _ _)
      have hms := marks_sum x.q x.s
      have hwo : (wordOf x.s).length ≤ 100 := by unfold wordOf; simp; omega
      have hlast : decide ((i : Int) < (wv.length : Int) - 1) = !(i + 1 == ws.length) := by
        have := hwv.1
        rw [Bool.eq_iff_iff]; simp; omega
      have hcl := clos_len (i + 1 == ws.length) x.s
      refine wCons <| wIf <| wTV <| nmL F₁₇ rfl <| tB ?_
      cases hq : x.q with
      | true =>
        rw [if_pos rfl]
        have es : fstep (i + 1 == ws.length) st x = ⟨st.tx ++ ([34] ++ innerOf x.s (marksOf x.q x.s) ++ closOf (i + 1 == ws.length) x.s ++ x.b), st.rd ++ [(wordOf x.s, st.tx.length + 1 + (innerOf x.s (marksOf x.q x.s) ++ closOf (i + 1 == ws.length) x.s).length)],
            st.td ++ [(foldOf x.s, st.at' + 1 + sizeOf' x.s (marksOf x.q x.s) + (closOf (i + 1 == ws.length) x.s).length)], st.at' + (1 + sizeOf' x.s (marksOf x.q x.s) + (closOf (i + 1 == ws.length) x.s ++ x.b).length)⟩ := by
          unfold fstep; rw [hq]
        rw [es]
        dsimp only
        clear es
        refine wCons <| wAsg <| Wp.mono1 (Q := fun v s₁ => ∃ t h₁ tk₁, v = .str (ST (closOf (i + 1 == ws.length) x.s)) t ∧ s₁ = ⟨h₁, G, D, tk₁, O⟩ ∧ Sub h₁₇ h₁) (wIfE <| wTst <| nmL F₁₇ rfl <| wBin <| clB (T.sub k₁₇) h3 h4 <| ar1 <| nmL F₁₇ rfl <| ar0 <| lenL (hwa.sub (hg.trans F₁₇.sub)) (by rw [hwv.1]; omega) fun _ _ => cI fun _ _ => subI fun _ _ => ltI ⟨_, rfl, ?_⟩) fun v s₁ z => ?_
        · rw [hlast]
          cases hl : i + 1 == ws.length with
          | false =>
            rw [if_pos (by decide)]
            exact cS (l := [34]) rfl fun t _ => ⟨t, _, _, rfl, rfl, .refl _⟩
          | true =>
            rw [if_neg (by decide)]
            refine slT <| cS (l := [92]) rfl fun _ _ => wBin <| clB (T.sub k₁₇) h3 h4 <| ar1 <| nmL F₁₇ rfl <| ar0 <| lenL (hsa.sub (hg.trans F₁₇.sub)) (by rw [hsv.1]; omega) fun _ _ => cI fun _ _ => modI (by decide) fun _ _ => ?_
            rw [show Int.fmod (sv.length : Int) 2 = ((x.s.length % 2 : Nat) : Int) by rw [hsv.1]; exact fmodN _ 2]
            exact ⟨_, _, _, _, _, _, rfl, rfl, rfl, by rw [sizeLine_eq]; decide, fun h' t' tk' hs => ⟨t', h', tk', rfl, rfl, hs⟩⟩
        obtain ⟨tc, h₁₈, tk₁₈, rfl, rfl, hs₁₈⟩ := z
        generalize closOf (i + 1 == ws.length) x.s = cl at hcl ⊢
        refine stL (F₁₇.keeps hs₁₈) fun h₁₉ tk₁₉ F₁₉ => nx_next ?_
        clear F₁₇ hs₁₈
        have k₁₉ := k.trans (hg.trans F₁₉.sub)
        refine wCons <| apE <| nmL F₁₉ rfl ⟨_, vr, rfl, F₁₉.hd1, tupM <| ar1 <| nmC F₁₉.hd3 <| ar1 <| wBin <| wBin <| clB (T.sub k₁₉) h3 h4 <| ar1 <| nmL F₁₉ rfl <| ar0 <| lenS (by rw [sizeLine_eq]; omega) fun _ _ => cI fun _ _ => addI fun _ _ => clB (T.sub k₁₉) h3 h4 <| ar1 <| wBin <| nmL F₁₉ rfl <| nmL F₁₉ rfl <| addS (by rw [sizeLine_eq]; omega) fun _ _ => ar0 <| lenS (by rw [sizeLine_eq]; simp; omega) fun _ _ => addI fun _ _ => ar0 ⟨_, _, rfl, by simp, fun a' h₂₀ ha' hs₂₀ hat₂₀ => ?_⟩⟩
        obtain ⟨g₂₁, hg₂₁, G₂₁, hat₂₁⟩ := (F₁₉.newA hs₂₀ ha' hat₂₀).shut
        refine ⟨_, _, _, rfl, G₂₁.hd1, by rw [hr.1]; omega, fun h₂₂ hat₂₂ hsb₂₂ => nx_next ?_⟩
        have F₂₂ := G₂₁.updA1 hat₂₂ hsb₂₂
        rw [show ((st.tx.length : Int) + 1 + ((innerOf x.s (marksOf x.q x.s) ++ cl).length : Int)) = ((st.tx.length + 1 + (innerOf x.s (marksOf x.q x.s) ++ cl).length : Nat) : Int) by omega] at hat₂₁
        have ha0 : h.get? a' = none := (hg.trans F₁₉.sub).none ha'
        have hr := (hr.lessP hg₂₁).snoc (y := (wordOf x.s, st.tx.length + 1 + (innerOf x.s (marksOf x.q x.s) ++ cl).length)) ⟨a', _, _, rfl, hat₂₁.lessM ha0⟩
        have hd := hd.lessP hg₂₁
        have hg := hg.trans hg₂₁
        clear F₁₉ G₂₁ hat₂₀ hat₂₁ hs₂₀ ha' ha0 hat₂₂ hsb₂₂
        have k₂₂ := k.trans (hg.trans F₂₂.sub)
        have cat : At h₂₂ (h.objs.size + 1) (CE (some (.int st.at' u))) := F₂₂.led (h.objs.size + 1, CE (some (.int st.at' u))) (.tail _ (.tail _ (.tail _ (.tail _ (.tail _ (.head _))))))
        have hfo : (foldOf x.s).length ≤ 1000 := by unfold foldOf; rw [List.length_flatten, List.map_map]; exact Nat.le_trans hfs (by omega)
        refine wCons <| apE <| nmL F₂₂ rfl ⟨_, vd, rfl, F₂₂.hd2, tupM <| ar1 <| jnS fun tkj => compSn (R := fun v y => SV v y.f) room'.2.2 (by omega) (hsn.sub (hg.trans F₂₂.sub)) (nmL F₂₂ rfl ⟨_, rfl, rfl⟩) (fun C y t1 t2 t3 M h' tk' hs F _ => nmL F rfl ⟨_, rfl, _, rfl⟩) fun a23 ys23 h₂₃ tk₂₃ ha23 hs₂₃ hat23 hA23 => ⟨_, _, _, ys23, x.s.map (·.f), rfl, rfl, hat23, A2.map (f := fun y : Sn => y.f) hA23, ?_, fun t23 tk23 => ?_⟩⟩
        · exact Nat.le_trans hfo (by decide)
        have F₂₃ := F₂₂.keeps hs₂₃
        refine ar1 <| wBin <| wBin <| wBin <| nmC (cat.sub hs₂₃) <| cI fun _ _ => addI fun _ _ => nmL F₂₃ rfl <| addI fun _ _ => clB (T.sub (k₂₂.trans hs₂₃)) h3 h4 <| ar1 <| nmL F₂₃ rfl <| ar0 <| lenS (by rw [sizeLine_eq]; omega) fun _ _ => addI fun _ _ => ar0 ⟨_, _, rfl, by simp, fun a' h₂₄ ha' hs₂₄ hat₂₄ => ?_⟩
        obtain ⟨g₂₅, hg₂₅, G₂₅, hat₂₅⟩ := (F₂₃.newA hs₂₄ ha' hat₂₄).shut
        refine ⟨_, _, _, rfl, G₂₅.hd2, by rw [hd.1]; omega, fun h₂₆ hat₂₆ hsb₂₆ => nx_next ?_⟩
        have F₂₆ := G₂₅.updA2 hat₂₆ hsb₂₆
        rw [show ((st.at' : Int) + 1 + (sizeOf' x.s (marksOf x.q x.s) : Int) + (cl.length : Int)) = ((st.at' + 1 + sizeOf' x.s (marksOf x.q x.s) + cl.length : Nat) : Int) by omega] at hat₂₅
        have ha0 : h.get? a' = none := (hg.trans F₂₃.sub).none ha'
        have hd := (hd.lessP hg₂₅).snoc (y := (foldOf x.s, st.at' + 1 + sizeOf' x.s (marksOf x.q x.s) + cl.length)) ⟨a', _, _, rfl, hat₂₅.lessM ha0⟩
        have hr := hr.lessP hg₂₅
        have hg := hg.trans hg₂₅
        clear F₂₂ F₂₃ G₂₅ hat₂₄ hat₂₅ hs₂₄ hs₂₃ ha' ha0 hat₂₆ hsb₂₆ cat hat23 ha23 hA23 k₂₂
        have k₂₆ := k.trans (hg.trans F₂₆.sub)
        refine wCons <| wAug <| ldL F₂₆ rfl <| wBin <| wBin <| wBin <| cS (l := [34]) rfl fun _ _ => nmL F₂₆ rfl <| addS (by rw [sizeLine_eq]; simp; omega) fun _ _ => nmL F₂₆ rfl <| addS (by rw [sizeLine_eq]; simp; omega) fun _ _ => nmL F₂₆ rfl <| addS (by rw [sizeLine_eq]; simp; omega) fun _ _ => iaddS (by rw [sizeLine_eq]; simp; omega) fun _ _ => stL F₂₆ fun h₂₇ tk₂₇ F₂₇ => nx_next ?_
        have k₂₇ := k.trans (hg.trans F₂₇.sub)
        have cat : At h₂₇ (h.objs.size + 1) (CE (some (.int st.at' u))) := F₂₇.led (h.objs.size + 1, CE (some (.int st.at' u))) (.tail _ (.tail _ (.tail _ (.tail _ (.tail _ (.head _))))))
        refine wCons <| wAug <| ldCe cat <| wBin <| wBin <| cI fun _ _ => nmL F₂₇ rfl <| addI fun _ _ => clB (T.sub k₂₇) h3 h4 <| ar1 <| wBin <| nmL F₂₇ rfl <| nmL F₂₇ rfl <| addS (by rw [sizeLine_eq]; omega) fun _ _ => ar0 <| lenS (by rw [sizeLine_eq]; simp; omega) fun _ _ => addI fun _ _ => iaddI fun u' _ => stCe cat fun h₂₈ hat₂₈ hsb₂₈ => nx_next <| wNil <| nx_next <| wNil <| go_next ?_
        rw [show ((st.at' : Int) + (1 + (sizeOf' x.s (marksOf x.q x.s) : Int) + ((cl ++ x.b).length : Int))) = ((st.at' + (1 + sizeOf' x.s (marksOf x.q x.s) + (cl ++ x.b).length) : Nat) : Int) by omega] at hat₂₈
        have F₂₈ := Fm.updM (M₁ := [(it, RI (i + 1) ws.length), (ra, PL (vr ++ [.ref _])), (da, PL (vd ++ [.ref _])), (h.objs.size + 1 + 1 + 1, CE (some (.str (ST (wordOf x.s)) t9))), (h.objs.size + 1 + 1, CE (some (.ref am)))]) F₂₇ hat₂₈ hsb₂₈
        exact ⟨g₂₅, ra, da, _, _, _, _, _, _, hg, F₂₈.on _ rfl, hr, hd⟩
      | false =>
        rw [if_neg (by decide)]
        have es : fstep (i + 1 == ws.length) st x = ⟨st.tx ++ (innerOf x.s (marksOf x.q x.s) ++ x.b), st.rd ++ [(wordOf x.s, st.tx.length + (innerOf x.s (marksOf x.q x.s)).length + (x.b.take 1).length)],
            st.td ++ (partsOf x.s (marksOf x.q x.s) x.b).map (fun p => (p.1, st.at' + p.2)), st.at' + (sizeOf' x.s (marksOf x.q x.s) + x.b.length)⟩ := by
          unfold fstep; rw [hq]
        rw [es]
        dsimp only
        clear es hlast hcl
        refine wCons <| apE <| nmL F₁₇ rfl ⟨_, vr, rfl, F₁₇.hd1, tupM <| ar1 <| nmC F₁₇.hd3 <| ar1 <| wBin <| wBin <| clB (T.sub k₁₇) h3 h4 <| ar1 <| nmL F₁₇ rfl <| ar0 <| lenS (by rw [sizeLine_eq]; omega) fun _ _ => clB (T.sub k₁₇) h3 h4 <| ar1 <| nmL F₁₇ rfl <| ar0 <| lenS (by rw [sizeLine_eq]; omega) fun _ _ => addI fun _ _ => clB (T.sub k₁₇) h3 h4 <| ar1 <| slT <| nmL F₁₇ rfl <| cI fun _ _ => ⟨_, _, _, _, 1, _, rfl, rfl, rfl, by rw [sizeLine_eq]; omega, fun h₁₉ t₁₉ tk₁₉ hs₁₉ => ar0 <| lenS (by rw [sizeLine_eq]; simp; omega) fun _ _ => addI fun _ _ => ar0 ⟨_, _, rfl, by simp, fun a' h₂₀ ha' hs₂₀ hat₂₀ => ?_⟩⟩⟩
        have F₁₉ := F₁₇.keeps hs₁₉
        clear F₁₇ k₁₇
        obtain ⟨g₂₁, hg₂₁, G₂₁, hat₂₁⟩ := (F₁₉.newA hs₂₀ ha' hat₂₀).shut
        refine ⟨_, _, _, rfl, G₂₁.hd1, by rw [hr.1]; omega, fun h₂₂ hat₂₂ hsb₂₂ => nx_next ?_⟩
        have F₂₂ := G₂₁.updA1 hat₂₂ hsb₂₂
        rw [show ((st.tx.length : Int) + ((innerOf x.s (marksOf x.q x.s)).length : Int) + ((x.b.take 1).length : Int)) = ((st.tx.length + (innerOf x.s (marksOf x.q x.s)).length + (x.b.take 1).length : Nat) : Int) by omega] at hat₂₁
        have ha0 : h.get? a' = none := (hg.trans F₁₉.sub).none ha'
        have hr := (hr.lessP hg₂₁).snoc (y := (wordOf x.s, st.tx.length + (innerOf x.s (marksOf x.q x.s)).length + (x.b.take 1).length)) ⟨a', _, _, rfl, hat₂₁.lessM ha0⟩
        have hd := hd.lessP hg₂₁
        have hma := hma.sub hg₂₁
        have hg := hg.trans hg₂₁
        clear F₁₉ G₂₁ hat₂₀ hat₂₁ hs₂₀ ha' ha0 hat₂₂ hsb₂₂ hs₁₉
        have k₂₂ := k.trans (hg.trans F₂₂.sub)
        have cat : At h₂₂ (h.objs.size + 1) (CE (some (.int st.at' u))) := F₂₂.led (h.objs.size + 1, CE (some (.int st.at' u))) (.tail _ (.tail _ (.tail _ (.tail _ (.tail _ (.head _))))))
        have hpl := parts_len x.s (marksOf x.q x.s) x.b
        have hpm : ∀ m ∈ marksOf x.q x.s, m ≤ 1 := fun m hm => by
          unfold marksOf at hm
          obtain ⟨j', hj', rfl⟩ := List.mem_map.mp hm
          unfold markAt
          split
          · cases need x.q (prevOf x.s j') _ <;> decide
          · decide
        refine wCons <| exE <| nmL F₂₂ rfl ⟨da, vd, h₂₂, _, rfl, rfl, F₂₂.hd2, ?_⟩
        refine lcL room'.2.2 <| clU (T.sub k₂₂) HP <| ar1 <| nmL F₂₂ rfl <| ar1 <| nmC (F₂₂.led (h.objs.size + 1 + 1, CE (some (.ref am))) (.tail _ (.tail _ (.tail _ (.tail _ (.head _)))))) <| ar1 <| nmL F₂₂ rfl <| ar0 ⟨k₂₂, ?_⟩
        refine parts_spec T HP k₂₂ (room'.less (by decide)) h3 h4 h5 h6 (hsn.sub (hg.trans F₂₂.sub)) (by omega) (hma.sub F₂₂.sub) hmv (marksOf_len _ _) hpm hfl hxb fun pa h₂₃ tk₂₃ r hs₂₃ hr₂₃ hd₂₃ hpa => ?_
        obtain ⟨pv, hpv, hpA⟩ := hpa
        have hpvl := hpA.1
        refine ⟨h₂₃, tk₂₃, pa, pv, rfl, rfl, hpv.sub hr₂₃, by omega, fun j ys g' => A2 (PtAt (less g' h₂₂)) ys ((((partsOf x.s (marksOf x.q x.s) x.b).map fun p => (p.1, st.at' + p.2))).take j), .nil, ?_, ?_⟩
        · intro C a' I j ys g'' h' tk' v hsub hA hvj F
          obtain ⟨y, hy, tp, t1, t2, rfl, htp⟩ := hpA.get' hvj
          refine ltT F.hd <| asT room'.2.2 (htp.sub (hr₂₃.trans (hsub.trans F.sub))) rfl fun h₂ hs₂ => ioN <| stL (F.keeps hs₂) fun h₃ tk₃ F₃ => ioN <| stL F₃ fun h₄ tk₄ F₄ => io0 ?_
          refine tupM <| ar1 <| nmL F₄ rfl <| ar1 <| wBin <| nmC (cat.sub (hs₂₃.trans (hsub.trans F₄.sub))) <| nmL F₄ rfl <| addI fun _ _ => ar0 ⟨_, _, rfl, by simp, fun a5 h₅ ha5 hs₅ hat₅ => ?_⟩
          obtain ⟨g₆, hg₆, G₆, hat₆⟩ := (F₄.newA hs₅ ha5 hat₅).shut
          refine ⟨h₅, _, g₆, _, rfl, hg₆, G₆, ?_⟩
          rw [show ((st.at' : Int) + (y.2 : Int)) = ((st.at' + y.2 : Nat) : Int) by omega] at hat₆
          have hyy : ((partsOf x.s (marksOf x.q x.s) x.b).map fun p => (p.1, st.at' + p.2))[j]? = some (y.1, st.at' + y.2) := by rw [List.getElem?_map, hy]; rfl
          dsimp only
          rw [List.take_add_one, hyy]
          exact (hA.lessP hg₆).snoc ⟨a5, _, _, rfl, hat₆.lessM ((hs₂₃.trans (hsub.trans F₄.sub)).none ha5)⟩
        · intro a' ys g'' h₂₄ tk₂₄ hsub hA hyl hgh ha' hga hat₂₄
          rw [List.take_of_length_le (by rw [List.length_map]; omega)] at hA
          obtain ⟨g₂₅, hg₂₅, hr₂₅, F₂₅⟩ := F₂₂.take (hs₂₃.trans (hsub.trans hgh)) ((less_sub g'' h₂₂).trans hgh) (fun b o e => less_off e)
          have hle : Sub (less g'' h₂₂) (less g₂₅ h) := hr₂₅.toLess fun b o e => less_off ((hg.trans F₂₂.sub) _ _ e)
          have hA := hA.mono fun _ _ => PtAt.sub hle
          refine ⟨h₂₄, tk₂₄, a', vd, ys, rfl, rfl, F₂₅.hd2, hat₂₄, by rw [hd.1]; omega, fun h₂₆ hat₂₆ hsb₂₆ => nx_next ?_⟩
          have F₂₆ := F₂₅.updA2 hat₂₆ hsb₂₆
          have hd := (hd.lessP hg₂₅).app hA
          have hr := hr.lessP hg₂₅
          have hg := hg.trans hg₂₅
          clear F₂₂ F₂₅ hat₂₄ hat₂₆ hsb₂₆ cat k₂₂
          have k₂₆ := k.trans (hg.trans F₂₆.sub)
          refine wCons <| wAug <| ldL F₂₆ rfl <| wBin <| nmL F₂₆ rfl <| nmL F₂₆ rfl <| addS (by rw [sizeLine_eq]; omega) fun _ _ => iaddS (by rw [sizeLine_eq]; simp; omega) fun _ _ => stL F₂₆ fun h₂₇ tk₂₇ F₂₇ => nx_next ?_
          have k₂₇ := k.trans (hg.trans F₂₇.sub)
          have cat : At h₂₇ (h.objs.size + 1) (CE (some (.int st.at' u))) := F₂₇.led (h.objs.size + 1, CE (some (.int st.at' u))) (.tail _ (.tail _ (.tail _ (.tail _ (.tail _ (.head _))))))
          refine wCons <| wAug <| ldCe cat <| wBin <| nmL F₂₇ rfl <| clB (T.sub k₂₇) h3 h4 <| ar1 <| nmL F₂₇ rfl <| ar0 <| lenS (by rw [sizeLine_eq]; omega) fun _ _ => addI fun _ _ => iaddI fun u' _ => stCe cat fun h₂₈ hat₂₈ hsb₂₈ => nx_next <| wNil <| nx_next <| wNil <| go_next ?_
          rw [show ((st.at' : Int) + ((sizeOf' x.s (marksOf x.q x.s) : Int) + (x.b.length : Int))) = ((st.at' + (sizeOf' x.s (marksOf x.q x.s) + x.b.length) : Nat) : Int) by omega] at hat₂₈
          have F₂₈ := Fm.updM (M₁ := [(it, RI (i + 1) ws.length), (ra, PL (vr ++ [.ref _])), (da, PL (vd ++ ys)), (h.objs.size + 1 + 1 + 1, CE (some (.str (ST (wordOf x.s)) t9))), (h.objs.size + 1 + 1, CE (some (.ref am)))]) F₂₇ hat₂₈ hsb₂₈
          exact ⟨g₂₅, ra, da, _, _, _, _, _, _, hg, F₂₈.on _ rfl, hr, hd⟩
  · rintro it h' h'' tk' ⟨g', ra, da, vr, vd, t, u, mo, wo, hg, F, hr, hd⟩ hx
    have F₁ := F.drop hx
    refine nx_next <| wCons <| wRet <| tupM <| ar1 <| nmL F₁ rfl <| ar1 <| nmL F₁ rfl <| ar1 <| nmL F₁ rfl <| ar0 ⟨_, _, rfl, by simp, fun tu h₂ htu hs₂ hat₂ => nx_ret ?_⟩
    have F₂ := F₁.newA hs₂ htu hat₂
    obtain ⟨g₁, hg₁, G₁, a1⟩ := F₂.shut
    obtain ⟨g₂, hg₂, G₂, a2⟩ := G₁.shut
    obtain ⟨g₃, hg₃, G₃, a3⟩ := G₂.shut
    have hga := hg₁.trans (hg₂.trans hg₃)
    refine hQ tu ra da t h₂ _ (less g₃ h) ((hg.trans hga).trans G₃.sub) ((less_sub _ _).trans G₃.sub) (fun b o e => less_off e) ((a1.sub (hg₂.trans hg₃)).lessM ((hg.trans F₁.sub).none htu)) ⟨vr, (a2.sub hg₃).lessM (F₁.gnone (.head _) hg), hr.lessP hga⟩ ⟨vd, a3.lessM (F₁.gnone (.tail _ (.head _)) hg), hd.lessP hga⟩
end
end Mine
end
/-! ## Lr -/
section
open PySem PySem.W PyProof.Rows PySem.Calls
namespace Mine
section
variable {w : World} {A : Around} {E : Value → Shared → Prop} {h : Heap} {G : Array GenState} {D : Drawn} {tk : Nat} {O : OsState} {env : Env} {g : Heap} {mg mb : Str → Option Value}
/-- list[:b] -/
theorem slL {value hi : Expr} {p pos : Pos} {Q : Value → Shared → Prop}
    (k : Wp w A (eval value env) (fun o s₁ => Wp w A (eval hi env) (fun vu s₂ => ∃ (h₂ : Heap) (tk₂ : Nat) (a : Addr) (vs : List Value) (b : Nat) (u : Tok), s₂ = ⟨h₂, G, D, tk₂, O⟩ ∧ o = .ref a ∧ vu = .int b u ∧ h₂.IsList a vs.toArray ∧ vs.length ≤ 10000 ∧
      ∀ c h', h₂.get? c = none → Sub h₂ h' → At h' c (PL (vs.take b)) → Q (.ref c) ⟨h', G, D, tk₂, O⟩) E s₁) E ⟨h, G, D, tk, O⟩)
    (ht : ∀ o r, letTemporaryGo value o r = pure () := by intro _ _; rfl) :
    Wp w A (eval (.Subscript value (.Slice none (some hi) none p) pos) env) Q E ⟨h, G, D, tk, O⟩ := by
  refine Wp.of (wpAny_Subscript_list_slice (wpAny_mono k.any (fun o s₁ k₁ => Wp.any (evN (Wp.any (evS (k₁.mono1 fun vu s₂ k₂ => ?_))))) fun _ _ e => e) ht)
  obtain ⟨h₂, tk₂, a, vs, b, u, rfl, rfl, rfl, hl, hlen, kk⟩ := k₂
  refine ⟨a, vs.toArray, none, some (b : Int), rfl, hl, by rw [sizeLine_eq]; simp; omega, .none, .int _ _, ?_⟩
  rw [slicePick_upto']
  have hs : Sub h₂ ((h₂.push { cls := .type "slice", data := .fields #[.none, .int b u, .none] }).push { cls := .type "list", data := .seq (vs.take b).toArray }) := (sub_push _ _).trans (sub_push _ _)
  have z := Heap.get?_push_size (h₂.push { cls := .type "slice", data := .fields #[.none, .int b u, .none] }) (o := { cls := .type "list", data := .seq (vs.take b).toArray }) rfl
  rw [Heap.size_push] at z
  exact kk _ _ (Heap.get?_none_of_le (Nat.le_succ _)) hs ⟨_, z, _, rfl⟩
theorem neLE {a b : Addr} {Q : Value → Shared → Prop} (hu : A.units < cLine) (ha : At h a (PL [])) (hb : At h b (PL [])) (k : Q (.bool false) ⟨h, G, D, tk, O⟩) : Wp w A (compareOp .NotEq (.ref a) (.ref b)) Q E ⟨h, G, D, tk, O⟩ := by
  rw [Wp_eq]
  show wpAny _ A (richCompare .NotEq (.ref a) (.ref b)) Q E _
  refine SeqAt.RcNeAt.lists (s := ⟨h, G, D, tk, O⟩) (e := fun _ => true) ha.isList hb.isList rfl hu (fun j h1 _ => ?_) pr w E Q ?_
  · simp at h1
  · exact k
theorem isB {b : Bool} {Q : Value → Shared → Prop} {s : Shared} (k : Q (.bool true) s) : Wp w A (call (.builtin "isinstance") [.bool b, .type "bool"]) Q E s := by
  rw [Wp_eq]; exact IsiPair.bool_bool k
/-- [x for x in L if not ..], all tests fall -/
theorem lcN {elt iter : Expr} {y : Str} {py : Pos} {ifs : List Expr} {scope : Scope} {cl : List (Str × Addr)} {pos : Pos} {Q : Value → Shared → Prop} (hh : A.handled = none)
    (k : Wp w A (eval iter env) (fun v s₁ => ∃ (h₁ : Heap) (tk₁ : Nat) (a : Addr) (vs : List Value), s₁ = ⟨h₁, G, D, tk₁, O⟩ ∧ v = .ref a ∧ At h₁ a (PL vs) ∧
      (∀ (C : Addr) (M : List (Addr × Pd)) (i : Nat) (h : Heap) (tk : Nat) (v : Value), vs[i]? = some v → Sub h₁ h → Fm h₁ C [(y, v)] M h →
        Wp w A (tests ifs (compEnvC scope cl C env)) (fun ok s => ok = false ∧ ∃ tk', s = ⟨h, G, D, tk', O⟩) NoE ⟨h, G, D, tk, O⟩) ∧
      (∀ a' h' tk', Sub h₁ h' → h₁.get? a' = none → At h' a' (PL []) → Q (.ref a') ⟨h', G, D, tk', O⟩)) NoE ⟨h, G, D, tk, O⟩)
    (hclos : closureFor scope env = pure cl := by rfl) (hcell : (scope.names.all fun y => decide (y.2 ≠ .cell)) = true := by rfl) (hkind : scope.kind = .function := by rfl)
    (hnames : (scope.names.all fun y => decide (y.2 = .local → scope.names.lookup y.1 = some .local)) = true := by rfl)
    (hl : scope.names.lookup y = some .local := by rfl)
    (hs : ∀ x, foldedSetIterable iter env x = pure x := by intro _; rfl) :
    Wp w A (eval (.ListComp elt [⟨.Name y py, iter, ifs, 0⟩] scope pos) env) Q NoE ⟨h, G, D, tk, O⟩ := by
  refine lcG (cl := cl) (k.mono1 fun v s₁ z => ?_) hclos hcell hkind hnames hs
  obtain ⟨h₁, tk₁, a, vs, rfl, rfl, hat, it, ie⟩ := z
  refine Wp.of (wpAny_pyIter_list (s := ⟨h₁, G, D, tk₁, O⟩) hat.isList ?_)
  have hI : At (h₁.push { cls := .type "list_iterator", data := .fields #[.ref a, .int 0 0] }) h₁.objs.size (LI a 0) := ⟨_, Heap.get?_push_size _ rfl, rfl, rfl⟩
  have hIn : h₁.get? h₁.objs.size = none := fresh_none _
  have hIs : Sub h₁ (h₁.push { cls := .type "list_iterator", data := .fields #[.ref a, .int 0 0] }) := sub_push _ _
  generalize h₁.objs.size = I at hI hIn ⊢
  generalize (h₁.push { cls := .type "list_iterator", data := .fields #[.ref a, .int 0 0] }) = h₂ at hI hIs ⊢
  refine ⟨h₂, _, I, rfl, rfl, fun h tk Q hsub q => Wp.of (wpAny_pyIter_listiter (s := ⟨h, G, D, tk, O⟩) (hI.sub hsub).isIter q), fun C a' n h => ∃ i l, i ≤ vs.length ∧ n = vs.length - i ∧ h₁.get? a' = none ∧ Fm h₁ C l [(I, LI a i), (a', PL [])] h, vs.length, ?_, ?_⟩
  · intro C a' h₃ hC ha' hne hsub hat' hn
    have hC1 : h₁.get? C = none := hIs.none hC
    have ha1 : h₁.get? a' = none := hIs.none ha'
    have CI : I ≠ C := by rintro rfl; obtain ⟨o, e, _⟩ := hI; rw [hC] at e; cases e
    have aI : I ≠ a' := by rintro rfl; obtain ⟨o, e, _⟩ := hI; rw [ha'] at e; cases e
    refine ⟨0, [], Nat.zero_le _, rfl, ha1, hn, hIs.trans hsub, hC1, mem2 (hI.sub hsub) hat', mem2 (P := fun p => p.1 ≠ C) CI (Ne.symm hne), mem2 (P := fun p => h₁.get? p.1 = none) hIn ha1, by simp; exact aI⟩
  · rintro C a' n h tk ⟨i, l, hi, rfl, ha1, F⟩
    by_cases hlt : i < vs.length
    · obtain ⟨v, hv⟩ : ∃ v, vs[i]? = some v := ⟨vs[i], by simp [hlt]⟩
      refine Wp.of (wpAny_pyNext_list_item (s := ⟨h, G, D, tk, O⟩) (show At h I (LI a i) from F.hd).isIter (hat.sub F.sub).isList (by simpa using hv) fun h' hit' hsb => ?_)
      have F₁ := (F.updA (P' := LI a (i + 1)) (.ofIter hit') hsb).on [] rfl
      refine ltN <| asN <| stL (env := compEnvC scope cl C env) F₁ (fun h₂ tk₂ F₂ => ?_) (lookup_relabel_local hl) (by rw [show (compEnvC scope cl C env).scope.kind = .function from hkind]; rfl)
      refine (it C _ i h₂ tk₂ v hv F₂.sub F₂).mono1 fun ok s z => ?_
      obtain ⟨rfl, tk₃, rfl⟩ := z
      rw [if_neg (by decide)]
      exact ⟨vs.length - (i + 1), by omega, h₂, tk₃, rfl, i + 1, _, hlt, rfl, ha1, F₂⟩
    · obtain rfl : i = vs.length := by omega
      refine Wp.of (wpAny_pyNext_list_end (s := ⟨h, G, D, tk, O⟩) hh (show At h I (LI a vs.length) from F.hd).isIter (hat.sub F.sub).isList (by simp) fun h' he => ?_)
      have F₁ := F.drop he
      refine ⟨h', _, rfl, (F₁.on [] rfl).ns, fun h'' hs'' => ?_⟩
      refine ie a' h'' _ (fun b o e => ?_) ha1 ?_
      · exact (hs''.2 b fun q => by rw [q, F₁.off] at e; cases e).trans (F₁.sub b o e)
      · obtain ⟨o, e, q⟩ := F₁.hd
        exact ⟨o, (hs''.2 _ (F₁.nL _ (.head _))).trans e, q⟩
end
/-! sizes -/
theorem wsz_take (ws : List Wd) (i : Nat) (x : Wd) (hx : ws[i]? = some x) : wsz (ws.take (i + 1)) = wsz (ws.take i) + (x.s.length + 1) := by
  rw [List.take_add_one, hx]
  exact wsz_snoc _ _
theorem fst_len2 {ws : List Wd} (hb : ∀ x ∈ ws, x.b.length ≤ 2) : ∀ i, (fst' ws i).tx.length ≤ 4 * wsz (ws.take i)
  | 0 => by simp [fst']
  | i + 1 => by
    have ih := fst_len2 hb i
    rw [fst']
    split
    · rename_i x hx
      rw [wsz_take ws i x hx]
      have h1 := hb x (List.mem_of_getElem? hx)
      have h3 := fun q => inner_len x.s (marksOf q x.s) (marksOf_len _ _)
      have h4 := fun q => marks_sum q x.s
      have h5 := clos_len (i + 1 == ws.length) x.s
      unfold fstep
      split
      · have := h3 true; have := h4 true
        simp only [List.length_append, List.length_cons, List.length_nil]; omega
      · have := h3 false; have := h4 false
        simp only [List.length_append]; omega
    · rename_i hx
      have := List.getElem?_eq_none_iff.mp hx
      rw [List.take_of_length_le (by omega)]
      rw [List.take_of_length_le (by omega)] at ih
      exact ih
theorem td_len2 {ws : List Wd} : ∀ i, (fst' ws i).td.length ≤ wsz (ws.take i)
  | 0 => by simp [fst']
  | i + 1 => by
    have ih := td_len2 (ws := ws) i
    rw [fst']
    split
    · rename_i x hx
      rw [wsz_take ws i x hx]
      have h3 := parts_len x.s (marksOf false x.s) x.b
      unfold fstep
      split <;> (simp; omega)
    · rename_i hx
      have := List.getElem?_eq_none_iff.mp hx
      rw [List.take_of_length_le (by omega)]
      rw [List.take_of_length_le (by omega)] at ih
      exact ih
theorem b3short : (b3L.all fun p => Nat.ble p.2.length 10) = true := by decide +kernel
theorem b3find_mem : ∀ {l : List (Nat × Str)} {c : Nat} {x : Str}, b3find c l = some x → ∃ k, (k, x) ∈ l
  | [], _, _, h => by cases h
  | (k, y) :: r, c, x, h => by
    unfold b3find at h
    split at h
    · cases h; exact ⟨k, .head _⟩
    · obtain ⟨k', hk⟩ := b3find_mem h; exact ⟨k', .tail _ hk⟩
theorem ST_prep (c : Nat) : (B3 c).getD (Txt.lower (ST [c])) = ST (prep c) := rfl
theorem prep_len (c : Nat) : (prep c).length ≤ 10 := by
  unfold prep
  cases e : B3 c with
  | some x =>
    obtain ⟨k, hk⟩ := b3find_mem e
    have := List.all_eq_true.mp b3short _ hk
    have := Nat.le_of_ble_eq_true this
    simpa [Str.length] using this
  | none =>
    have h := StrLaws.placedRaw_le3 #[c] (fun i _ => Unicode.lowerAt #[c] i) (fun i _ => StrLaws.lowerAt_le3 _ i)
    have h1 : (#[c] : Array Nat).size = 1 := rfl
    rw [h1] at h
    show (Txt.lower ⟨#[c]⟩).cps.toList.length ≤ 10
    unfold Txt.lower placed
    simp only [Array.length_toList]
    omega
def preparedOf (tx : List Nat) : List Nat := ((tx.filter fun c => !b1P c).map prep).flatten
theorem prepared_len (tx : List Nat) : (preparedOf tx).length ≤ 10 * tx.length := by
  unfold preparedOf
  induction tx with
  | nil => simp
  | cons a r ih =>
    rw [List.filter_cons]
    split
    · have := prep_len a
      simp only [List.map_cons, List.flatten_cons, List.length_append, List.length_cons]; omega
    · rw [List.length_cons]; omega
end Mine
end
/-! ## Lw -/
section
open PySem PySem.W PyProof.Rows PySem.Calls
namespace Mine
def B3i (k : Int) : Option Str := match k with
  | .ofNat n => B3 n
  | .negSucc _ => none
/-- what stands at the top -/
structure TopF (w : World) (mg mb : Str → Option Value) (g : Heap) (P : Addr) : Prop where
  T : Tf mg mb g
  f5 : ∃ f, Fn g mg 5 "in_table_b1" f
  f7 : ∃ f, Fn g mg 7 "map_table_b3" f
  f9 : ∃ f c, FnC g mg 9 "_law_stream" f c ∧ CodeHd g c P
  f10 : ∃ f, Fn g mg 10 "_law_sign" f
  f11 : ∃ f, Fn g mg 11 "_law_words" f
  f12 : ∃ f, Fn g mg 12 "_law_marks" f
  f13 : ∃ f, Fn g mg 13 "_law_parts" f
  f14 : ∃ f c, FnC g mg 14 "_law_file" f c
  f15 : ∃ f, Fn g mg 15 "_law_reads" f
  cls : ∃ C N mN fI fR fT, Kl g C N mN fI fR fT ∧ mg "_netrclex" = some (.ref C)
  hb : g.BuiltinsAt mg P
  hgP : mainGlobals ≠ P
  no : ∀ x ∈ (["chr", "len", "range", "sum", "ord", "iter", "isinstance", "bool"] : List Str), mg x = none
  fn : ∀ x ∈ (["chr", "len", "sum", "ord", "iter", "isinstance"] : List String), mb (Str.ofString x) = some (.builtin x)
  ty : ∀ x ∈ (["range", "bool"] : List String), mb (Str.ofString x) = some (.type x)
  b1 : ∃ bs n S, mg "b1_set" = some (.ref bs) ∧ g.SetOf (intKind pr w) bs S n ∧ ∀ c : Nat, S c = b1P c
  b3 : ∃ d M, mg "b3_exceptions" = some (.ref d) ∧ (d == sysModules) = false ∧ g.MapOf (intKind pr w) d M ∧ ∀ k : Int, (M k = none ∧ B3i k = none) ∨ ∃ x t, M k = some (.str x t) ∧ B3i k = some x
theorem BAt.sub {g h : Heap} {mg : Str → Option Value} {P : Addr} (k : Sub g h) (x : g.BuiltinsAt mg P) : h.BuiltinsAt mg P := by
  obtain ⟨bm, ob, b1, b2, b3, b4, b5, b6⟩ := x
  exact ⟨bm, ob, b1, b2, b3, b4, k _ _ b5, b6⟩
theorem SetOf.sub {g h : Heap} {w : World} {a : Addr} {S : Int → Bool} {n : Nat} (k : Sub g h) (x : g.SetOf (intKind pr w) a S n) : h.SetOf (intKind pr w) a S n := by
  obtain ⟨o, es, ep, tb, ho, r⟩ := x
  exact ⟨o, es, ep, tb, k _ _ ho, r⟩
theorem MapOf.sub {g h : Heap} {w : World} {a : Addr} {M : Int → Option Value} (k : Sub g h) (x : g.MapOf (intKind pr w) a M) : h.MapOf (intKind pr w) a M := by
  obtain ⟨o, es, ep, ho, r⟩ := x
  exact ⟨o, es, ep, k _ _ ho, r⟩
theorem IntsOf.app {vs us : List Value} {ns ms : List Int} (h : IntsOf vs ns) (k : IntsOf us ms) : IntsOf (vs ++ us) (ns ++ ms) := by
  refine ⟨by simp [h.1, k.1], fun i n hi => ?_⟩
  by_cases hl : i < ns.length
  · rw [List.getElem?_append_left hl] at hi
    rw [List.getElem?_append_left (h.1 ▸ hl)]
    exact h.2 i n hi
  · rw [List.getElem?_append_right (by omega)] at hi
    rw [List.getElem?_append_right (by rw [h.1]; omega), h.1]
    exact k.2 _ n hi
theorem IntsOf.take {vs : List Value} {ns : List Int} (h : IntsOf vs ns) (b : Nat) : IntsOf (vs.take b) (ns.take b) := by
  refine ⟨by simp [h.1], fun i n hi => ?_⟩
  rw [List.getElem?_take] at hi ⊢
  split at hi
  · rename_i q; rw [if_pos q]; exact h.2 i n hi
  · cases hi
def lawNs : List Int := [226, 265, 5, 19, 16, 4, 6, 1, 22, 8, 425, 6, 7, 4]
section
variable {w : World} {A : Around} {E : Value → Shared → Prop} {h : Heap} {G : Array GenState} {D : Drawn} {tk : Nat} {O : OsState} {g : Heap} {mg mb : Str → Option Value} {P : Addr}
set_option maxHeartbeats 4000000 in
theorem law_spec {f c an : Addr} {nv : List Value} {ns : List Int} {Q : Value → Shared → Prop} (X : TopF w mg mb g P) (H : FnC g mg 16 "law" f c) (hP : At h P (TB rdPos none)) (off : g.get? P = none) (k : Sub g h) (room : Room A 8)
    (hn : h.IsList an nv.toArray) (hv : IntsOf nv ns) (hlen : ns.length ≤ 63)
    (plain : ∀ ws wl, (∀ x ∈ ws, WdOk x) → WdEnd wl → Chain (fileOf (ws ++ [wl])).tx 0 ((fileOf (ws ++ [wl])).rd ++ [([], (fileOf (ws ++ [wl])).tx.length), ([], (fileOf (ws ++ [wl])).tx.length)]) ∧
      Chain (preparedOf (fileOf (ws ++ [wl])).tx) 0 ((fileOf (ws ++ [wl])).td ++ [([], (preparedOf (fileOf (ws ++ [wl])).tx).length), ([], (preparedOf (fileOf (ws ++ [wl])).tx).length)]))
    (hQ : ∀ c' h' tk', Sub (minus h [P]) h' → At h' P (TB rdPos (some c')) → Q (.bool true) ⟨h', G, D, tk', O⟩) :
    Wp w A (call (.ref f) [.ref an]) Q E ⟨h, G, D, tk, O⟩ := by
  obtain ⟨fB1, HB1⟩ := X.f5
  obtain ⟨fB3, HB3⟩ := X.f7
  obtain ⟨fS, cS, HS, C0⟩ := X.f9
  obtain ⟨fSg, HSg⟩ := X.f10
  obtain ⟨fW, HW⟩ := X.f11
  obtain ⟨fM, HM⟩ := X.f12
  obtain ⟨fP, HP⟩ := X.f13
  obtain ⟨fF, cF, HF⟩ := X.f14
  obtain ⟨fR, HR⟩ := X.f15
  obtain ⟨C, N, mN, fI, fRc, fT, K, hC⟩ := X.cls
  obtain ⟨bs, nb, S, hbs, hS, hSb⟩ := X.b1
  obtain ⟨d, M, hd3, hd, hM, hB⟩ := X.b3
  have T := X.T
  have n1 : mg "chr" = none := X.no _ (by decide)
  have n2 : mg "len" = none := X.no _ (by decide)
  have n3 : mg "range" = none := X.no _ (by decide)
  have n4 : mg "sum" = none := X.no _ (by decide)
  have n5 : mg "ord" = none := X.no _ (by decide)
  have n6 : mg "iter" = none := X.no _ (by decide)
  have n7 : mg "isinstance" = none := X.no _ (by decide)
  have n8 : mg "bool" = none := X.no _ (by decide)
  have m1 : mb "chr" = some (.builtin "chr") := X.fn "chr" (by decide)
  have m2 : mb "len" = some (.builtin "len") := X.fn "len" (by decide)
  have m3 : mb "range" = some (.type "range") := X.ty "range" (by decide)
  have m4 : mb "sum" = some (.builtin "sum") := X.fn "sum" (by decide)
  have m5 : mb "ord" = some (.builtin "ord") := X.fn "ord" (by decide)
  have m6 : mb "iter" = some (.builtin "iter") := X.fn "iter" (by decide)
  have m7 : mb "isinstance" = some (.builtin "isinstance") := X.fn "isinstance" (by decide)
  have m8 : mb "bool" = some (.type "bool") := X.ty "bool" (by decide)
  have hbA := X.hb
  have hgP := X.hgP
  clear X
  refine enterK [(P, TB rdPos none)] [("script", .ref an)] [("script", .ref an)] [("held", h.objs.size + 1 + 1), ("text", h.objs.size + 1)] [(h.objs.size + 1 + 1, CE none), (h.objs.size + 1, CE none)] T H k room.depth (mem1 hP) (by simp) (fun h₁ tk₁ Y => ?_) (hkind := fun y hy => ?_)
  rotate_left
  · rw [List.mem_singleton] at hy; subst hy; exact .inl rfl
  have room' := room.deeper (n := 7) (env := envOfC "law" (fnAt 16).2.2 h.objs.size f (.ref c))
  have kg : Sub g (minus h [P]) := subMinus k (by simpa using off)
  have Y : Fm (minus h [P]) h.objs.size [("script", .ref an)] [(h.objs.size + 1 + 1, CE none), (h.objs.size + 1, CE none), (P, TB rdPos none)] h₁ := Y
  have anP : an ≠ P := by
    rintro rfl
    obtain ⟨o, e, hc, _⟩ := hn
    obtain ⟨o', e', ps, rfl, _⟩ := hP
    rw [e] at e'; cases e'; cases hc
  have hn1 : (minus h [P]).IsList an nv.toArray := by
    obtain ⟨o, e, r⟩ := hn
    exact ⟨o, get_minus_of e (by simpa using anP), r⟩
  have lsub : ∀ {h' : Heap}, Sub (minus h [P]) h' → h'.IsList an nv.toArray := fun s => by
    obtain ⟨o, e, r⟩ := hn1
    exact ⟨o, s _ _ e, r⟩
  have kk := kg.trans Y.sub
  refine wCons <| wAsg <| clU (T.sub kk) HW <| ar1 <| wBin <| lstM <| dispInts (ns := lawNs) rfl fun vs tk₂ hvs => ⟨_, _, rfl, by rw [hvs.1]; decide, fun la h₂ hla hs₂ hat₂ => ?_⟩
  have Y₂ := Y.newA hs₂ hla hat₂
  refine slL <| nmL Y₂ rfl <| cI fun _ _ => ⟨_, _, an, nv, 20, _, rfl, rfl, rfl, lsub Y₂.sub, by rw [hv.1]; omega, fun lb h₃ hlb hs₃ hat₃ => ?_⟩
  have Y₃ := Y₂.keeps hs₃
  have l14 : lawNs.length = 14 := rfl
  refine addL Y₃.hd hat₃ (by rw [hvs.1, List.length_take, l14]; omega) fun lc h₄ hlc hs₄ hat₄ => ar0 ?_
  have Y₄ := (Y₃.keeps hs₄).tl
  clear Y Y₂ Y₃ hat₂ hat₃ hs₂ hs₃ hs₄ hla hlb hlc
  have kk₄ := kg.trans Y₄.sub
  refine ⟨kk₄, words_spec T HW HSg kk₄ (room'.less (by decide)) n1 m1 n2 m2 hat₄ (hvs.app (hv.take 20)) (by rw [List.length_append, l14, List.length_take]; omega) fun wa ws wl h₅ tk₅ r hs₅ hr₅ hd₅ hws hwo hwe hwz => ?_⟩
  obtain ⟨g₅, hg₅, hr5, F₅⟩ := Y₄.take hs₅ hr₅ hd₅
  have hws := hws.sub hr5
  have kg := kg.trans hg₅
  have hb0 : Sub (minus h [P]) g₅ := hg₅
  clear Y₄ hs₅ hr₅ hd₅ hr5 hat₄ kk₄
  refine stL F₅ fun h₆ tk₆ F₆ => nx_next ?_
  obtain ⟨ch1, ch2⟩ := plain ws wl hwo hwe
  have hok : ∀ x ∈ ws ++ [wl], (∀ y ∈ x.s, SnOk y) ∧ x.b.length ≤ 2 := fun x hx => by
    rcases List.mem_append.mp hx with hx | hx
    · obtain ⟨a, _, b⟩ := hwo x hx
      refine ⟨a, ?_⟩
      rcases b with ⟨_, b⟩ | ⟨_, b, _⟩ <;> omega
    · rw [List.mem_singleton] at hx; subst hx
      obtain ⟨a, _, b⟩ := hwe
      refine ⟨a, ?_⟩
      rcases b with ⟨_, b⟩ | ⟨_, b, _⟩
      · rw [b]; decide
      · exact b
  have hwz : wsz (ws ++ [wl]) ≤ 35 := by
    rw [List.length_append, l14, List.length_take] at hwz; omega
  have htx := fst_len2 (fun x hx => (hok x hx).2) (ws ++ [wl]).length
  have htd := td_len2 (ws := ws ++ [wl]) (ws ++ [wl]).length
  have hrd := rd_len (ws ++ [wl]) (ws ++ [wl]).length
  rw [List.take_length] at htx htd
  have hwl := wsz_len (ws ++ [wl])
  have htx : (fileOf (ws ++ [wl])).tx.length ≤ 200 := by unfold fileOf; omega
  have htd : (fileOf (ws ++ [wl])).td.length ≤ 200 := by unfold fileOf; omega
  have hrd : (fileOf (ws ++ [wl])).rd.length ≤ 200 := by unfold fileOf; omega
  have kk₆ := kg.trans F₆.sub
  refine wCons <| asgT room'.2.2 <| clU (T.sub kk₆) HF.fn <| ar1 <| nmL F₆ rfl <| ar0 ⟨kk₆, file_spec T HF HM HP kk₆ (room'.less (by decide)) n2 m2 n3 m3 n4 m4 (hws.sub F₆.sub) hok (by omega) fun tu ra da tt h₇ tk₇ r hs₇ hr₇ hd₇ hat hra hda => ?_⟩
  generalize fileOf (ws ++ [wl]) = FO at ch1 ch2 htx htd hrd hat hra hda
  obtain ⟨g₇, hg₇, hr7, F₇⟩ := F₆.take hs₇ hr₇ hd₇
  have hra := hra.sub hr7
  have hda := hda.sub hr7
  have kg := kg.trans hg₇
  have hb0 := hb0.trans hg₇
  refine ⟨_, _, _, _, rfl, rfl, hat.sub hr₇, rfl, fun h₈ hs₈ => ?_⟩
  have F₈ := F₇.keeps hs₈
  clear F₅ F₆ F₇ hs₇ hr₇ hd₇ hr7 hat kk₆ hws
  refine ioN <| stCe F₈.hd1 fun h₉ hat₉ hsb₉ => ioN <| stL (F₈.updA1 hat₉ hsb₉) fun h₁₀ tk₁₀ F₁₀ => ioN <| stL F₁₀ fun h₁₁ tk₁₁ F₁₁ => io0 <| nx_next ?_
  clear F₈ F₁₀ hat₉ hsb₉
  have kk₁₁ := kg.trans F₁₁.sub
  have ct₁₁ : At h₁₁ (h.objs.size + 1) (CE (some (.str (ST FO.tx) tt))) := F₁₁.hd1
  refine wCons <| wAsg <| lcS room'.2.2 <| nmC ct₁₁ ⟨h₁₁, tk₁₁, FO.tx, tt, rfl, rfl, by omega, fun i ys g' => g' = h₁₁ ∧ ys = (FO.tx.take i).map (fun c => Value.bool (b1P c)), ⟨rfl, rfl⟩, ?_, ?_⟩
  · rintro C' a' I asc i ys g' h' tk' c u hsub ⟨rfl, hys⟩ hc F
    have k' := kk₁₁.trans F.sub
    refine clU (T.sub k') HB1 <| ar1 <| nmL F rfl <| ar0 ⟨k', b1_spec T HB1 k' room'.depth n5 m5 hbs hS fun h'' tk'' hs'' => ⟨h'', _, g', _, rfl, .refl _, F.keeps hs'', rfl, ?_⟩⟩
    rw [hSb, List.take_add_one, hc, hys]
    simp
  rintro a' ys g' h₁₂ tk₁₂ hsub ⟨rfl, hys⟩ hyl hgh ha' hga hat
  rw [List.take_length] at hys
  subst hys
  obtain ⟨g₁₂, hg₁₂, F₁₂, hheld⟩ := (F₁₁.newA hgh ha' hat).shut
  refine stCe F₁₂.hd fun h₁₃ hat₁₃ hsb₁₃ => nx_next ?_
  have F₁₃ := F₁₂.updA hat₁₃ hsb₁₃
  clear F₁₁ F₁₂ hat hgh hga ha' hyl hsub ct₁₁ kk₁₁ hat₁₃ hsb₁₃
  have hra := hra.sub hg₁₂
  have hda := hda.sub hg₁₂
  have kg := kg.trans hg₁₂
  have hb0 := hb0.trans hg₁₂
  have kk := kg.trans F₁₃.sub
  refine ifNo <| wTst <| lcN room'.2.2 <| nmC F₁₃.hd ⟨h₁₃, _, a', _, rfl, rfl, hheld.sub F₁₃.sub, ?_, ?_⟩
  · intro C' M' i h' tk' v hvi hsub F
    rw [List.getElem?_map] at hvi
    obtain ⟨c, _, rfl⟩ := Option.map_eq_some_iff.mp hvi
    have k' := kk.trans hsub
    exact ts1 <| wTNot <| wTV <| clB (T.sub k') n7 m7 <| ar1 <| nmL F rfl <| ar1 <| nmB (T.sub k') n8 m8 <| ar0 <| isB <| tB ⟨rfl, _, rfl⟩
  intro a2 h₁₄ tk₁₄ hs₁₄ ha2 hat₁₄
  refine lstM <| ar0 ⟨_, _, rfl, by simp, fun a3 h₁₅ ha3 hs₁₅ hat₁₅ => neLE room'.units (hat₁₄.sub hs₁₅) hat₁₅ ⟨_, rfl, rfl, ?_⟩⟩
  have F₁₅ := F₁₃.keeps (hs₁₄.trans hs₁₅)
  clear F₁₃ hs₁₄ hs₁₅ ha2 ha3 hat₁₄ hat₁₅ kk
  have kk := kg.trans F₁₅.sub
  have ct : At h₁₅ (h.objs.size + 1) (CE (some (.str (ST FO.tx) tt))) := F₁₅.hd1
  refine wCons <| wAsg <| jnS fun tkj => lcR room'.2.2 <| clT (T.sub kk) n3 m3 <| ar1 <| clB (T.sub kk) n2 m2 <| ar1 <| nmC ct <| ar0 <| lenS (by rw [sizeLine_eq]; omega) fun _ _ => ar0 <| rgN fun rg h₁₆ tk₁₆ hrg hs₁₆ hat₁₆ => ?_
  have F₁₆ := F₁₅.keeps hs₁₆
  have kk₁₆ := kg.trans F₁₆.sub
  have ct₁₆ : At h₁₆ (h.objs.size + 1) (CE (some (.str (ST FO.tx) tt))) := F₁₆.hd1
  have ch₁₆ : At h₁₆ (h.objs.size + 1 + 1) (CE (some (.ref a'))) := F₁₆.hd
  refine ⟨h₁₆, tk₁₆, rg, FO.tx.length, rfl, rfl, hat₁₆, by omega, fun i ys g' => g' = h₁₆ ∧ A2 SV ys (((FO.tx.take i).filter fun c => !b1P c).map prep), ⟨rfl, .nil⟩, ?_, ?_⟩
  · rintro C' a4 I j ys g' h' tk' tj hsub ⟨rfl, hA⟩ hj F
    obtain ⟨cc, hc⟩ : ∃ cc, FO.tx[j]? = some cc := ⟨FO.tx[j], by simp [hj]⟩
    have k' := kk₁₆.trans F.sub
    have hbj : (FO.tx.map fun c => Value.bool (b1P c))[j]? = some (.bool (b1P cc)) := by rw [List.getElem?_map, hc]; rfl
    refine ts1 <| wTNot <| wTV <| wSub <| nmC (ch₁₆.sub F.sub) <| nmL F rfl <| itL (hheld.sub (F₁₆.sub.trans F.sub)) hbj (by omega) <| tB ?_
    cases hbc : b1P cc with
    | true =>
      rw [if_neg (by decide)]
      refine ⟨h', _, g', _, rfl, .refl _, F, rfl, ?_⟩
      rw [List.take_add_one, hc, List.filter_append]
      simpa [hbc] using hA
    | false =>
      rw [if_pos (by decide)]
      refine clU (T.sub k') HB3 <| ar1 <| wSub <| nmC (ct₁₆.sub F.sub) <| nmL F rfl <| itS hc (by rw [sizeLine_eq]; omega) fun _ _ => ar0 ⟨k', b3_spec (B := B3i) T HB3 k' room'.depth n5 m5 hd3 hd hM hB fun h'' tk'' u hs'' => ⟨h'', _, g', _, rfl, .refl _, F.keeps hs'', rfl, ?_⟩⟩
      rw [List.take_add_one, hc, List.filter_append, List.map_append]
      have : ((some cc).toList.filter fun c => !b1P c).map prep = [prep cc] := by simp [hbc]
      rw [this]
      exact hA.snoc ⟨u, rfl⟩
  rintro a5 ys g' h₁₇ tk₁₇ hsub ⟨rfl, hA⟩ hyl hgh ha5 hga hat
  rw [List.take_length] at hA
  have hpl := prepared_len FO.tx
  refine ⟨h₁₇, _, a5, ys, _, rfl, rfl, hat, hA, by show (preparedOf FO.tx).length ≤ _; omega, fun tp tk18 => ?_⟩
  refine stL (F₁₆.keeps hgh) fun h₁₈ tk₁₈ F₁₈ => nx_next ?_
  have F₁₈ : Fm _ _ (("prepared", .str (ST (preparedOf FO.tx)) tp) :: _) _ _ := F₁₈
  clear F₁₅ F₁₆ hgh hga ha5 hyl hsub hat hs₁₆ hrg hat₁₆ kk kk₁₆ ct ct₁₆ ch₁₆ hA
  generalize preparedOf FO.tx = pp at *
  have kk := kg.trans F₁₈.sub
  have ct : At h₁₈ (h.objs.size + 1) (CE (some (.str (ST FO.tx) tt))) := F₁₈.hd1
  have F₁₈ := F₁₈.rot3
  have og : g₁₂.get? P = none := F₁₈.ng _ (.head _)
  refine wCons <| wRet <| wAnd2 <| clU (T.sub kk) HR <| ar1 <| nmC ct <| ar1 <| nmL F₁₈ rfl <| ar0 ⟨kk, reads_spec (T.sub kg) (HR.sub kg) (HS.sub kg) (K.sub kg) hC (C0.keeps kg) (BAt.sub kg hbA) hgP n2 m2 n6 m6 F₁₈.hd og (fun _ e => nomatch e) F₁₈.sub (room'.less (by decide)) (by omega) hra (by omega) ch1 fun c1 h₁₉ tk₁₉ r hs₁₉ hP₁₉ hr₁₉ hd₁₉ hcr => ?_⟩
  have F' : Fm _ _ _ ([(P, TB rdPos none)] ++ [(h.objs.size + 1 + 1, CE (some (.ref a'))), (h.objs.size + 1, CE (some (.str (ST FO.tx) tt)))]) _ := F₁₈
  obtain ⟨g₂, hg₂, hr₂, F₂⟩ := F'.takeN (D' := [(P, TB rdPos (some c1))]) hs₁₉ rfl (mem1 hP₁₉) [] (fun _ hp => nomatch hp) List.nodup_nil (fun _ hp => nomatch hp) hr₁₉ hd₁₉ (fun _ hp => nomatch hp)
  have F₂ : Fm _ _ _ ((P, TB rdPos (some c1)) :: [(h.objs.size + 1 + 1, CE (some (.ref a'))), (h.objs.size + 1, CE (some (.str (ST FO.tx) tt)))]) _ := F₂
  clear F₁₈ F'
  have kg := kg.trans hg₂
  have hb0 := hb0.trans hg₂
  have hda := hda.sub hg₂
  have hcr := hcr.keeps hr₂
  have kk := kg.trans F₂.sub
  have og : g₂.get? P = none := F₂.ng _ (.head _)
  refine ⟨true, rfl, ?_⟩
  rw [if_pos rfl]
  refine clU (T.sub kk) HR <| ar1 <| nmL F₂ rfl <| ar1 <| nmL F₂ rfl <| ar0 ⟨kk, reads_spec (T.sub kg) (HR.sub kg) (HS.sub kg) (K.sub kg) hC (C0.keeps kg) (BAt.sub kg hbA) hgP n2 m2 n6 m6 F₂.hd og (fun _ e => by cases e; exact hcr) F₂.sub (room'.less (by decide)) (by omega) hda (by omega) ch2 fun c2 h₂₀ tk₂₀ r hs₂₀ hP₂₀ hr₂₀ hd₂₀ hcr2 => nx_ret ?_⟩
  exact hQ c2 h₂₀ _ ((hb0.trans (fun b o e => get_minus_of (F₂.sub b o e) (by
    intro hm
    rw [List.mem_singleton] at hm
    rw [hm, og] at e; cases e))).trans hs₂₀) hP₂₀
end
end Mine
end
/-! ## Dd -/
section
open PySem PySem.W PyProof.Rows PySem.Calls
namespace Mine
/-! a dict's display, of any length -/
abbrev IK (w : World) := intKind pr w
section
variable {w : World} {A : Around} {E : Value → Shared → Prop} {s : Shared}
theorem dictPut_new {d : Addr} {kvs : List (Int × Value)} {k : Int} {key v : Value} {Q : Unit → Shared → Prop} (hkey : (IK w).is k key = true) (hm : s.heap.DictOf (IK w) d kvs) (hnew : k ∉ kvs.map (·.1)) (hl : kvs.length ≤ 100000)
    (hQ : ∀ h', h'.DictOf (IK w) d (kvs ++ [(k, v)]) → Heap.SameBut d s.heap h' → Q () { s with heap := h' }) :
    wpAny (model pr w) A (dictPut d ((IK w).hash k) key v) Q E s := by
  obtain ⟨o, es, ep, ho, hc, hd, hk, hp, hn⟩ := hm
  have e1 := hp.length
  have e2 : es.toList.length = es.size := by simp
  have hes : es.size ≤ sizeLine := by rw [sizeLine_eq]; omega
  unfold dictPut
  refine wpAny_bind (wpAny_dictFind_of hkey ho hd hk ?_)
  have hidx : (es.findIdx? fun e => (IK w).is k e.key) = kvs.findIdx? fun kv => decide (kv.1 = k) := by
    rw [← hp.findIdx k]; obtain ⟨l⟩ := es; simp
  have hno : (es.findIdx? fun e => (IK w).is k e.key) = none := by
    rw [hidx, List.findIdx?_eq_none_iff]
    intro kv hkv
    exact decide_eq_false fun e => hnew (List.mem_map.mpr ⟨kv, hkv, e⟩)
  rw [hno]
  refine wpAny_updateDictKeys (hz := hes) ho hd (hQ _ ⟨_, _, ep + 1, Heap.get?_update_self _ ho (Obj.isFreed_of_dict (Obj.data_mapDictKeys hd _)),
      hc.mapDictKeys _, Obj.data_mapDictKeys hd _, hk.push hkey _, ?_, ?_⟩ (Heap.SameBut.update ..))
  · have := hp.append hkey ((IK w).hash k) v
    obtain ⟨l⟩ := es
    simpa using this
  · rw [List.map_append, List.nodup_append]
    refine ⟨hn, by simp, fun a ha b hb => ?_⟩
    simp only [List.map_cons, List.map_nil, List.mem_singleton] at hb
    subst hb
    exact fun e => hnew (e ▸ ha)
theorem dictSet_new {d : Addr} {kvs : List (Int × Value)} {k : Int} {key v : Value} {Q : Unit → Shared → Prop} (hkey : (IK w).is k key = true) (hm : s.heap.DictOf (IK w) d kvs) (hnew : k ∉ kvs.map (·.1)) (hl : kvs.length ≤ 100000)
    (hQ : ∀ h', h'.DictOf (IK w) d (kvs ++ [(k, v)]) → Heap.SameBut d s.heap h' → Q () { s with heap := h', toks := s.toks + 1 }) :
    wpAny (model pr w) A (dictSet d key v) Q E s := by
  refine wpAny_dictSet_pairs hkey hm (fun h' a b => hQ h' ?_ b) (by rw [sizeLine_eq]; omega)
  have : stored kvs k v = kvs ++ [(k, v)] := by
    unfold stored
    rw [if_neg]
    rw [List.any_eq_true]; rintro ⟨x, hx, he⟩
    exact hnew (List.mem_map.mpr ⟨x, hx, of_decide_eq_true he⟩)
  rwa [this] at a
/-- one dict into another -/
theorem merge_new {d a : Addr} {kvs more : List (Int × Value)} {Q : Unit → Shared → Prop} (hda : d ≠ a) (haS : (a == sysModules) = false)
    (hd : s.heap.DictOf (IK w) d kvs) (ha : s.heap.DictOf (IK w) a more) (h0 : kvs ≠ []) (hnd : ((kvs ++ more).map (·.1)).Nodup) (hl : kvs.length + more.length ≤ 100000)
    (hQ : ∀ h', h'.DictOf (IK w) d (kvs ++ more) → Heap.SameBut d s.heap h' → Q () { s with heap := h' }) :
    wpAny (model pr w) A (mergeMapping d (.ref a) false) Q E s := by
  obtain ⟨oo, eso, epo, hoo, hco, hdo, hko, hpo, hno⟩ := id ha
  have hlen : more.length = eso.size := by rw [← hpo.length]; simp
  unfold mergeMapping
  refine wpAny_bind (wpAny_isInstance (b := true) ha.typeIs F.sub_dict_dict ?_)
  rw [if_pos rfl]
  refine wpAny_bind (wpAny_specialOf ha.typeIs F.slot_dict_iter.lookup ?_)
  refine wpAny_bind (wpAny_pure ?_)
  rw [show (some (Value.builtin "dict.__iter__") == some (Value.builtin "dict.__iter__")) = true from by simp]
  dsimp only
  rw [if_neg (by rw [haS]; exact Bool.false_ne_true)]
  obtain ⟨od, esd, epd, hod, hcd, hdd, hkd, hpd, hnd'⟩ := id hd
  refine wpAny_bind (wpAny_dictEntries hod hdd ?_)
  have hne : esd.isEmpty = false := by
    have := hpd.length
    have e2 : esd.toList.length = esd.size := by simp
    cases kvs with
    | nil => exact absurd rfl h0
    | cons x r => rw [Array.isEmpty]; simp at this ⊢; intro q; rw [q] at this; simp at this
  rw [if_neg (by rw [hne]; exact Bool.false_ne_true)]
  refine wpAny_bind (wpAny_dictEntries hoo hdo ?_)
  refine wpAny_bind (wpAny_dictEpoch hoo hdo ?_)
  refine wpAny_bind ?_
  refine wpAny_forIn_list _
      (fun rest _ s' => ∃ h' i, s' = { s with heap := h' } ∧ rest = List.range' i (eso.size - i) ∧ i ≤ eso.size ∧ h'.DictOf (IK w) d (kvs ++ more.take i) ∧ h'.get? a = some oo ∧ Heap.SameBut d s.heap h')
      _ ?_ ?_ _ _ ⟨s.heap, 0, rfl, by rw [List.range_eq_range']; simp, Nat.zero_le _, by simpa using hd, hoo, Heap.SameBut.refl _ _⟩
  · rintro x rest b s' ⟨h', i, rfl, hr, hi, hd', hoo', hs'⟩
    have hlt : i < eso.size := by
      rcases Nat.lt_or_ge i eso.size with h | h
      · exact h
      · rw [Nat.sub_eq_zero_of_le h] at hr; simp at hr
    obtain ⟨rfl, hrest⟩ : x = i ∧ rest = List.range' (i + 1) (eso.size - (i + 1)) := by
      rw [show eso.size - i = (eso.size - (i + 1)) + 1 by omega, List.range'_succ] at hr
      injection hr with h1 h2
      exact ⟨h1, h2⟩
    refine wpAny_bind (wpAny_dictEntries hoo' hdo ?_)
    rw [Array.getElem?_eq_getElem hlt]
    obtain ⟨⟨k, v⟩, hkv⟩ : ∃ kv, more[x]? = some kv := ⟨more[x]'(by rw [hlen]; exact hlt), List.getElem?_eq_getElem _⟩
    obtain ⟨hkey, hval⟩ := hpo.get? (e := eso[x]) (by simp [hlt]) hkv
    obtain ⟨k', hkey', hhash⟩ := hko eso[x] (Array.getElem_mem hlt)
    obtain rfl : k' = k := (IK w).inj _ _ _ hkey' hkey
    dsimp only
    rw [hhash, hval]
    have hnew : k' ∉ (kvs ++ more.take x).map (·.1) := by
      have hsp : kvs ++ more = (kvs ++ more.take x) ++ (k', v) :: more.drop (x + 1) := by
        obtain ⟨hl2, he2⟩ := List.getElem?_eq_some_iff.mp hkv
        rw [List.append_assoc, ← he2, List.getElem_cons_drop, List.take_append_drop]
      rw [hsp, List.map_append, List.nodup_append] at hnd
      exact fun hm => hnd.2.2 _ hm _ (by simp) rfl
    refine wpAny_bind (wpAny_holding ?_)
    rw [if_neg (by decide)]
    refine dictPut_new hkey hd' hnew (by simp; omega) fun h'' hd'' hs'' => ?_
    have hoo'' : h''.get? a = some oo := (hs''.2 a (Ne.symm hda)).trans hoo'
    refine wpAny_bind (wpAny_dictEpoch hoo'' hdo ?_)
    rw [if_neg (by simp)]
    refine wpAny_pure ⟨h'', x + 1, rfl, hrest, hlt, ?_, hoo'', hs'.trans hs''⟩
    rw [List.take_add_one, hkv, ← List.append_assoc]
    exact hd''
  · rintro b s' ⟨h', i, rfl, hr, hi, hd', hoo', hs'⟩
    have hin : i = eso.size := by
      have := congrArg List.length hr
      simp at this; omega
    subst hin
    refine wpAny_pure (hQ h' ?_ hs')
    rw [List.take_of_length_le (by omega)] at hd'
    exact hd'
/-! literals -/
def EvI (w : World) (A : Around) (t : Sem Value) (i : Int) : Prop := ∀ (s : Shared) (Q : Value → Shared → Prop) (E : Value → Shared → Prop), (∀ u tk, Q (.int i u) { s with toks := tk }) → wpAny (model pr w) A t Q E s
def EvS (w : World) (A : Around) (t : Sem Value) (x : Str) : Prop := ∀ (s : Shared) (Q : Value → Shared → Prop) (E : Value → Shared → Prop), (∀ u tk, Q (.str x u) { s with toks := tk }) → wpAny (model pr w) A t Q E s
inductive Lits (w : World) (A : Around) : List (Sem Value × Sem Value) → List (Int × Str) → Prop
  | nil : Lits w A [] []
  | cons {k v : Sem Value} {i : Int} {x : Str} {r ds} : EvI w A k i → EvS w A v x → Lits w A r ds → Lits w A ((k, v) :: r) ((i, x) :: ds)
inductive VL : List (Value × Value) → List (Int × Str) → Prop
  | nil : VL [] []
  | cons (i : Int) (x : Str) (t u : Tok) {r ds} : VL r ds → VL ((.int i t, .str x u) :: r) ((i, x) :: ds)
inductive KV : List (Int × Value) → List (Int × Str) → Prop
  | nil : KV [] []
  | cons (i : Int) (x : Str) (t : Tok) {r ds} : KV r ds → KV ((i, .str x t) :: r) ((i, x) :: ds)
theorem KV.keys {a : List (Int × Value)} {b : List (Int × Str)} (h : KV a b) : a.map (·.1) = b.map (·.1) := by
  induction h with
  | nil => rfl
  | cons i x t _ ih => simp [ih]
theorem KV.app {a a' : List (Int × Value)} {b b' : List (Int × Str)} (h : KV a b) (k : KV a' b') : KV (a ++ a') (b ++ b') := by
  induction h with
  | nil => exact k
  | cons i x t _ ih => exact .cons i x t ih
theorem KV.len {a : List (Int × Value)} {b : List (Int × Str)} (h : KV a b) : a.length = b.length := by
  have := congrArg List.length h.keys; simpa using this
theorem Lits.len {ps : List (Sem Value × Sem Value)} {ds : List (Int × Str)} (h : Lits w A ps ds) : ps.length = ds.length := by
  induction h with
  | nil => rfl
  | cons _ _ _ ih => simp [ih]
theorem Lits.app {a a' : List (Sem Value × Sem Value)} {b b' : List (Int × Str)} (h : Lits w A a b) (k : Lits w A a' b') : Lits w A (a ++ a') (b ++ b') := by
  induction h with
  | nil => exact k
  | cons h1 h2 _ ih => exact .cons h1 h2 ih
theorem evalPairs_vl {ps : List (Sem Value × Sem Value)} {ds : List (Int × Str)} (h : Lits w A ps ds) : ∀ (s : Shared) (Q : List (Value × Value) → Shared → Prop), (∀ vs tk, VL vs ds → Q vs { s with toks := tk }) → wpAny (model pr w) A (evalPairs ps) Q E s := by
  induction h with
  | nil => exact fun s Q k => evalPairs_nil (k [] s.toks .nil)
  | cons h1 h2 _ ih => exact fun s Q k => evalPairs_cons (h1 _ _ _ fun u tk => h2 _ _ _ fun u' tk' => ih _ _ fun vs tk'' hv => k _ _ (.cons _ _ _ _ hv))
theorem ik_int (i : Int) (t : Tok) : (IK w).is i (.int i t) = true := intKind_is pr w _ _
theorem subDict_lits {ps : List (Sem Value × Sem Value)} {ds : List (Int × Str)} {Q : Addr → Shared → Prop} (hL : Lits w A ps ds) (hnd : (ds.map (·.1)).Nodup) (hlen : ps.length ≤ 17)
    (k : ∀ kvs h' tk, KV kvs ds → h'.DictOf (IK w) s.heap.objs.size kvs → (∀ b o, s.heap.get? b = some o → h'.get? b = some o) → Q s.heap.objs.size { s with heap := h', toks := tk }) : wpAny (model pr w) A (subDict ps) Q E s := by
  have hdl := hL.len
  unfold subDict
  refine wpAny_bind (wpAny_alloc (wpAny_bind (wpAny_holding ?_)))
  have inv : ∀ (h' : Heap) kvs (ds1 : List (Int × Str)) (i : Int) (x : Str) (ds2 : List (Int × Str)) (t u : Tok) (tk : Nat) (Q' : Unit → Shared → Prop), ds = ds1 ++ (i, x) :: ds2 → KV kvs ds1 → h'.DictOf (IK w) s.heap.objs.size kvs → (∀ b o, s.heap.get? b = some o → h'.get? b = some o) →
      (∀ h'' tk', KV (kvs ++ [(i, .str x u)]) (ds1 ++ [(i, x)]) → h''.DictOf (IK w) s.heap.objs.size (kvs ++ [(i, .str x u)]) → (∀ b o, s.heap.get? b = some o → h''.get? b = some o) → Q' () { s with heap := h'', toks := tk' }) →
      wpAny (model pr w) A (dictSet s.heap.objs.size (.int i t) (.str x u)) Q' E { s with heap := h', toks := tk } := by
    intro h' kvs ds1 i x ds2 t u tk Q' e hk hd hs q
    have hnew : i ∉ kvs.map (·.1) := by
      rw [hk.keys]
      rw [e, List.map_append, List.nodup_append] at hnd
      exact fun hm => hnd.2.2 _ hm _ (by simp) rfl
    have hl : kvs.length ≤ 100000 := by
      have := hk.len
      have e2 := congrArg List.length e
      simp at e2; omega
    exact dictSet_new (s := { s with heap := h', toks := tk }) (ik_int i t) hd hnew hl fun h'' hd'' hs'' => q h'' _ (hk.app (.cons i x u .nil)) hd'' fun b o eb => (hs''.2 b (Nat.ne_of_lt (Heap.lt_size eb))).trans (hs b o eb)
  have d0 : (s.heap.push { cls := .type "dict", data := .dict #[] }).DictOf (IK w) s.heap.objs.size [] := Heap.DictOf.new _
  have s0 : ∀ b o, s.heap.get? b = some o → (s.heap.push { cls := .type "dict", data := .dict #[] }).get? b = some o := fun b o e => Heap.get?_push_of_some _ e
  by_cases h15 : ps.length ≤ 15
  · rw [if_pos h15]
    refine wpAny_bind (evalPairs_vl hL _ _ fun vs tk hv => wpAny_holding ?_)
    refine wpAny_bind ?_
    refine wpAny_forIn_list _ (fun rest _ s' => ∃ h' tk' kvs ds1 ds2, s' = { s with heap := h', toks := tk' } ∧ ds = ds1 ++ ds2 ∧ VL rest ds2 ∧ KV kvs ds1 ∧ h'.DictOf (IK w) s.heap.objs.size kvs ∧ (∀ b o, s.heap.get? b = some o → h'.get? b = some o)) _ ?_ ?_ _ _ ⟨_, _, [], [], ds, rfl, rfl, hv, .nil, d0, s0⟩
    · rintro x rest b s' ⟨h', tk', kvs, ds1, ds2, rfl, e, hv, hk, hd, hs⟩
      cases hv with
      | cons i x t u hv =>
        refine wpAny_bind (inv h' kvs ds1 i x _ t u tk' _ e hk hd hs fun h'' tk'' hk' hd' hs' => ?_)
        exact wpAny_pure ⟨h'', tk'', _, _, _, rfl, by rw [e]; simp, hv, hk', hd', hs'⟩
    · rintro b s' ⟨h', tk', kvs, ds1, ds2, rfl, e, hv, hk, hd, hs⟩
      cases hv
      rw [List.append_nil] at e
      subst e
      exact wpAny_pure (wpAny_pure (k kvs h' tk' hk hd hs))
  · rw [if_neg h15]
    refine wpAny_bind (wpAny_rule ?_)
    refine wpAny_bind ?_
    refine wpAny_forIn_list _ (fun rest _ s' => ∃ h' tk' kvs ds1 ds2, s' = { s with heap := h', toks := tk' } ∧ ds = ds1 ++ ds2 ∧ Lits w A rest ds2 ∧ KV kvs ds1 ∧ h'.DictOf (IK w) s.heap.objs.size kvs ∧ (∀ b o, s.heap.get? b = some o → h'.get? b = some o)) _ ?_ ?_ _ _ ⟨_, s.toks, [], [], ds, rfl, rfl, hL, .nil, d0, s0⟩
    · rintro x rest b s' ⟨h', tk', kvs, ds1, ds2, rfl, e, hv, hk, hd, hs⟩
      cases hv with
      | cons h1 h2 hv =>
        refine wpAny_bind (h1 _ _ _ fun t tk1 => wpAny_bind (wpAny_holding (h2 _ _ _ fun u tk2 => wpAny_bind (wpAny_holding ?_))))
        refine inv h' kvs ds1 _ _ _ t u tk2 _ e hk hd hs fun h'' tk'' hk' hd' hs' => ?_
        exact wpAny_pure ⟨h'', tk'', _, _, _, rfl, by rw [e]; simp, hv, hk', hd', hs'⟩
    · rintro b s' ⟨h', tk', kvs, ds1, ds2, rfl, e, hv, hk, hd, hs⟩
      cases hv
      rw [List.append_nil] at e
      subst e
      exact wpAny_pure (wpAny_pure (k kvs h' tk' hk hd hs))
/-- what is laid so far -/
def Laid2 (w : World) (s : Shared) (main : Option Addr) (ds1 : List (Int × Str)) (s' : Shared) : Prop :=
  (main = none ∧ ds1 = [] ∧ s' = s) ∨ ∃ d h' tk kvs, main = some d ∧ s' = { s with heap := h', toks := tk } ∧ s.heap.get? d = none ∧ ds1 ≠ [] ∧ KV kvs ds1 ∧ h'.DictOf (IK w) d kvs ∧ (∀ b o, s.heap.get? b = some o → h'.get? b = some o)
def flushM (run : List (Sem Value × Sem Value)) (main : Option Addr) : Sem (Option Addr) := do
    if run.isEmpty then return main
    match main with
    | none => return some (← subDict run)
    | some d =>
      let sub ← holding [.ref d] (subDict run)
      (holding [.ref d, .ref sub] (mergeMapping d (.ref sub) false)).onRaise fun x => do let _ ← holding [.ref d, x] (runValue (.builtin "proto.let_go" {}))
      return some d
theorem flush_lits {s s' : Shared} {run : List (Sem Value × Sem Value)} {main : Option Addr} {ds1 dsr : List (Int × Str)} {Q : Option Addr → Shared → Prop} (hS : ∃ o, s.heap.get? sysModules = some o) (hL : Lits w A run dsr) (hr : run ≠ []) (hlen : run.length ≤ 17) (hnd : ((ds1 ++ dsr).map (·.1)).Nodup) (hbig : ds1.length + dsr.length ≤ 50000)
    (h : Laid2 w s main ds1 s') (k : ∀ m' s'', Laid2 w s m' (ds1 ++ dsr) s'' → Q m' s'') : wpAny (model pr w) A (flushM run main) Q E s' := by
  have hdr : dsr ≠ [] := by
    intro e
    have := hL.len
    rw [e] at this
    exact hr (List.length_eq_zero_iff.mp this)
  have hne : run.isEmpty = false := by cases run with
    | nil => exact absurd rfl hr
    | cons _ _ => rfl
  have hnd2 : (dsr.map (·.1)).Nodup := by
    rw [List.map_append, List.nodup_append] at hnd; exact hnd.2.1
  unfold flushM
  rw [if_neg (by rw [hne]; exact Bool.false_ne_true)]
  rcases h with ⟨rfl, rfl, rfl⟩ | ⟨d, h', tk, kvs, rfl, rfl, hd0, hd1, hk, hd, hs⟩
  · refine wpAny_bind (subDict_lits hL hnd2 hlen fun kvs h' tk hk hd hs => wpAny_pure (k _ _ (.inr ⟨_, h', tk, kvs, rfl, rfl, fresh_none _, hdr, hk, hd, hs⟩)))
  · dsimp only
    refine wpAny_bind (wpAny_holding (subDict_lits (s := { s with heap := h', toks := tk }) hL hnd2 hlen fun more h₂ tk₂ hk₂ hd₂ hs₂ => ?_))
    have hdlt : d < h'.objs.size := by obtain ⟨o, _, _, e, _⟩ := hd; exact Heap.lt_size e
    have hdd : h₂.DictOf (IK w) d kvs := by obtain ⟨o, es, ep, e, r⟩ := hd; exact ⟨o, es, ep, hs₂ _ _ e, r⟩
    have hsz : @LT.lt Nat _ sysModules h'.objs.size := let ⟨_, e⟩ := hS; Heap.lt_size (hs _ _ e)
    have kl := hk.len
    have ml := hk₂.len
    refine wpAny_bind (wpAny_onRaise (wpAny_holding (merge_new (s := { s with heap := h₂, toks := tk₂ }) (Nat.ne_of_lt hdlt) ?_ hdd hd₂ ?_ ?_ (by omega) fun h₃ hd₃ hs₃ => wpAny_pure (k _ _ (.inr ⟨d, h₃, tk₂, _, rfl, rfl, hd0, ?_, hk.app hk₂, hd₃, ?_⟩)))))
    · exact beq_eq_false_iff_ne.mpr (Nat.ne_of_gt hsz)
    · intro e
      rw [e] at kl
      exact hd1 (List.length_eq_zero_iff.mp kl.symm)
    · rw [(hk.app hk₂).keys]; exact hnd
    · intro e; exact hd1 (List.append_eq_nil_iff.mp e).1
    · intro b o e
      exact (hs₃.2 b fun q => by rw [q, hd0] at e; cases e).trans (hs₂ _ _ (hs _ _ e))
theorem display_lits {s : Shared} {ps : List (Sem Value × Sem Value)} {ds : List (Int × Str)} {Q : Value → Shared → Prop} (hS : ∃ o, s.heap.get? sysModules = some o) (hL : Lits w A ps ds) (h0 : ps ≠ []) (hnd : (ds.map (·.1)).Nodup) (hbig : ds.length ≤ 50000)
    (k : ∀ d kvs h' tk, s.heap.get? d = none → KV kvs ds → h'.DictOf (IK w) d kvs → (∀ b o, s.heap.get? b = some o → h'.get? b = some o) → Q (.ref d) { s with heap := h', toks := tk }) :
    wpAny (model pr w) A (dictDisplay (ps.map fun p => (some p.1, p.2))) Q E s := by
  have hd0 : ds ≠ [] := by
    intro e
    have := hL.len
    rw [e] at this
    exact h0 (List.length_eq_zero_iff.mp this)
  unfold dictDisplay
  dsimp only
  refine wpAny_bind ?_
  refine wpAny_forIn_list _ (fun rest (b : Option Addr × List (Sem Value × Sem Value)) s' => ∃ ps2 ds1 dsr ds2, rest = ps2.map (fun p => (some p.1, p.2)) ∧ Lits w A ps2 ds2 ∧ Lits w A b.2 dsr ∧ ds = ds1 ++ dsr ++ ds2 ∧ b.2.length < 17 ∧ Laid2 w s b.1 ds1 s') _ ?_ ?_ _ _ ⟨ps, [], [], ds, rfl, hL, .nil, rfl, by decide, .inl ⟨rfl, rfl, rfl⟩⟩
  · rintro x rest ⟨main, run⟩ s' ⟨ps2, ds1, dsr, ds2, hr, hL2, hLr, e, hl, hla⟩
    cases hL2 with
    | nil => cases hr
    | @cons kk vv i xx r ds' h1 h2 hL2 =>
      rw [List.map_cons] at hr
      injection hr with hr1 hr2
      subst hr1 hr2
      dsimp only
      have hLr' : Lits w A (run ++ [(kk, vv)]) (dsr ++ [(i, xx)]) := hLr.app (.cons h1 h2 .nil)
      have e' : ds = ds1 ++ (dsr ++ [(i, xx)]) ++ ds' := by rw [e]; simp
      by_cases h17 : ((run ++ [(kk, vv)]).length == 17) = true
      · rw [if_pos h17]
        have hnd' : ((ds1 ++ (dsr ++ [(i, xx)])).map (·.1)).Nodup := by
          rw [e', List.map_append, List.nodup_append] at hnd; exact hnd.1
        have hb' : ds1.length + (dsr ++ [(i, xx)]).length ≤ 50000 := by
          rw [e', List.length_append, List.length_append] at hbig; omega
        refine wpAny_bind (flush_lits hS hLr' (by simp) (by simp at h17 ⊢; omega) hnd' hb' hla fun m' s'' hl' => ?_)
        exact wpAny_pure ⟨r, ds1 ++ (dsr ++ [(i, xx)]), [], ds', rfl, hL2, .nil, by rw [List.append_nil]; exact e', by simp, hl'⟩
      · rw [if_neg h17]
        refine wpAny_pure ⟨r, ds1, dsr ++ [(i, xx)], ds', rfl, hL2, hLr', e', ?_, hla⟩
        dsimp only at hl ⊢
        simp at h17 ⊢; omega
  · rintro ⟨main, run⟩ s' ⟨ps2, ds1, dsr, ds2, hr, hL2, hLr, e, hl, hla⟩
    have hp2 : ps2 = [] := List.map_eq_nil_iff.mp hr.symm
    subst hp2
    cases hL2
    rw [List.append_nil] at e
    dsimp only at hl hla hLr ⊢
    have fin : ∀ m' s'', Laid2 w s m' ds s'' → wpAny (model pr w) A (match m' with
      | some d => pure (.ref d)
      | none => newDict) Q E s'' := by
      rintro m' s'' (⟨_, e, _⟩ | ⟨d, h', tk, kvs, rfl, rfl, hd0, hd1, hk, hd, hs⟩)
      · exact absurd e hd0
      · exact wpAny_pure (k d kvs h' tk hd0 hk hd hs)
    refine wpAny_bind ?_
    cases run with
    | nil =>
      cases hLr
      rw [List.append_nil] at e
      subst e
      exact wpAny_pure (fin _ _ hla)
    | cons p r =>
      subst e
      exact flush_lits hS hLr (by simp) (Nat.le_of_lt hl) hnd (by rw [List.length_append] at hbig; omega) hla fin
end
end Mine
end
/-! ## Hs -/
section
open PySem PySem.W PyProof.Rows PySem.Calls
namespace Mine
/-- a run of the one thread, and what it leaves as it was -/
structure Gx (w : World) (s : Shared) (t : Thread) (s' : Shared) (t' : Thread) : Prop where
  run : ∃ m, schedN (denote table) pr w m (.single s t) = .running (.single s' t')
  life : s'.heap.life = s.heap.life
  os : s'.os = s.os
  fr : ∀ (b : Addr) o, b < 11 → b ≠ mainNs → b ≠ cStatics → b ≠ 6 → s.heap.get? b = some o → s'.heap.get? b = some o
theorem Gx.refl {w : World} (s : Shared) (t : Thread) : Gx w s t s t := ⟨⟨0, rfl⟩, rfl, rfl, fun _ _ _ _ _ _ e => e⟩
theorem schedN_add {den : Code → Sem Fin} {p : Program} {w : World} : ∀ {n m : Nat} {c c' : Config} {r : SRun}, schedN den p w n c = .running c' → schedN den p w m c' = r → schedN den p w (n + m) c = r
  | 0, m, c, c', r, h, k => by
    simp only [schedN] at h
    cases h
    rw [Nat.zero_add]; exact k
  | n + 1, m, c, c', r, h, k => by
    rw [show n + 1 + m = (n + m) + 1 by omega]
    simp only [schedN] at h ⊢
    cases hs : sstep den p w c with
    | go c₂ => rw [hs] at h; exact schedN_add h k
    | halt o s => rw [hs] at h; cases h
theorem Gx.trans {w : World} {s s₁ s₂ : Shared} {t t₁ t₂ : Thread} (a : Gx w s t s₁ t₁) (b : Gx w s₁ t₁ s₂ t₂) : Gx w s t s₂ t₂ := by
  obtain ⟨⟨n, hn⟩, l, o, f⟩ := a
  obtain ⟨⟨m, hm⟩, l', o', f'⟩ := b
  exact ⟨⟨n + m, schedN_add hn hm⟩, l'.trans l, o'.trans o, fun b ob h1 h2 h3 h4 e => f' b ob h1 h2 h3 h4 (f b ob h1 h2 h3 h4 e)⟩
theorem Gx.one {w : World} {s s' : Shared} {t t' : Thread} (z : s.asleep) (ok : stepOk 11 (some (.ref 6)) t = true) (h : step (denote table) pr w s t = .go s' t') : Gx w s t s' t' := by
  obtain ⟨hc, hk⟩ := Bool.and_eq_true_iff.mp ok
  refine ⟨⟨1, ?_⟩, step_life (denote table) pr w s s' t t' h, step_os_same h (by revert hk; cases t.cur <;> simp), fun b o h1 h2 h3 h4 h5 => ?_⟩
  · rcases sstep_single (denote table) pr w s t hc z with e | e
    · simp only [schedN, e, h]; rfl
    · rw [e] at h; cases h
  · rw [PySem.step_heap (denote table) pr w s s' t t' h]
    revert hk
    cases t.cur <;> intro hk <;> try exact h5
    case update a _ f _ =>
      have : b ≠ a := by
        rintro rfl
        simp only [Bool.or_eq_true, Nat.ble_eq, beq_iff_eq] at hk
        rcases hk with ((q | q) | q) | q
        · exact absurd h1 (Nat.not_lt.mpr q)
        · exact h2 q
        · exact h3 q
        · cases q; exact h4 rfl
      exact (Heap.get?_update_ne _ _ _ _ this).trans h5
    case alloc x _ => exact Heap.get?_push_of_some x h5
theorem Gx.asleep {w : World} {s s' : Shared} {t t' : Thread} (a : Gx w s t s' t') (z : s.asleep) : s'.asleep := Shared.asleep_of_life a.life z
/-- the machine on a tree -/
def goT (w : World) : Nat → SharedT → Thread → Option (SharedT × Thread)
  | 0, s, t => some (s, t)
  | n + 1, s, t => match stepOk 11 (some (.ref 6)) t with
    | false => none
    | true => match stepT (denote treeTable) pr w s t with
      | some (s', t') => goT w n s' t'
      | none => none
theorem goT_spec {w : World} : ∀ {n : Nat} {s s' : SharedT} {t t' : Thread}, s.abs.asleep → goT w n s t = some (s', t') → Gx w s.abs t s'.abs t'
  | 0, s, s', t, t', _, h => by
    obtain ⟨rfl, rfl⟩ : s = s' ∧ t = t' := by simpa [goT] using h
    exact .refl _ _
  | n + 1, s, s', t, t', z, h => by
    unfold goT at h
    cases hk : stepOk 11 (some (.ref 6)) t with
    | false => rw [hk] at h; cases h
    | true =>
      rw [hk] at h
      cases hs : stepT (denote treeTable) pr w s t with
      | none => rw [hs] at h; cases h
      | some x =>
        obtain ⟨s₂, t₂⟩ := x
        rw [hs] at h
        have e := stepT_spec hs
        rw [← table_eq_tree] at e
        have g := Gx.one z hk e
        exact g.trans (goT_spec (g.asleep z) h)
section
variable {α : Type} {w : World} {B : List Frame} {K' : α → Sem Fin} {H' : Value → Sem Fin} {gd : Bool → Bool} {lv : List Value → List Value} {res : α → Flow}
/-- a statement's run, whatever comes behind it -/
theorem seg_sched (hB : splitAtGen B = none) : ∀ (n : Nat) (s : Shared) (t t' : Thread) (f : Flow) (s' : Shared) (c' : Code) (p' : Pos), s.asleep → Rel2 (fun a => .pure (.done (res a))) K' deadEnd H' gd lv B t t' →
    segRun table pr w 11 (some (.ref 6)) B.length n s t = some (f, s', c', p') → ∃ a, res a = f ∧ Gx w s t' s' ⟨K' a, c', p', B⟩
  | 0, _, _, _, _, _, _, _, _, _, h => by simp [segRun] at h
  | n + 1, s, ⟨cur, code, pos, st⟩, ⟨cur', code', pos', st'⟩, f, s', c', p', z, R, h => by
    obtain ⟨e1, e2, R⟩ := R
    dsimp only at e1 e2 R
    subst e1 e2
    unfold segRun at h
    cases he : endAt B.length ⟨cur, code, pos, st⟩ with
    | some g =>
      rw [he] at h
      obtain ⟨rfl, rfl, rfl, rfl⟩ : g = f ∧ s = s' ∧ code = c' ∧ pos = p' := by simpa using h
      rcases R with ⟨rfl, rfl, x, rfl, rfl⟩ | ⟨rfl, F⟩
      · cases x with
        | pure a =>
          simp only [endAt, Sem.wrap, beq_self_eq_true, Option.some.injEq] at he
          exact ⟨a, he, .refl _ _⟩
        | _ => simp [endAt, Sem.wrap] at he
      · have : ((st.length == B.length) = false) := beq_eq_false_iff_ne.mpr (Nat.ne_of_gt F.longer.1)
        simp only [endAt, this] at he
        cases he
    | none =>
      rw [he] at h
      cases hk : stepOk 11 (some (.ref 6)) ⟨cur, code, pos, st⟩ with
      | false => rw [hk] at h; cases h
      | true =>
        rw [hk] at h
        cases hs : step (denote table) pr w s ⟨cur, code, pos, st⟩ with
        | halt o s₂ => rw [hs] at h; cases h
        | go s₂ t₂ =>
          rw [hs] at h
          have key : stepOk 11 (some (.ref 6)) ⟨cur', code, pos, st'⟩ = true ∧ ∃ t₂', step (denote table) pr w s ⟨cur', code, pos, st'⟩ = .go s₂ t₂' ∧ Rel2 (fun a => .pure (.done (res a))) K' deadEnd H' gd lv B t₂ t₂' := by
            rcases R with ⟨rfl, rfl, x, rfl, rfl⟩ | ⟨rfl, F⟩
            · have hp : ∀ a, x ≠ .pure a := by
                rintro a rfl
                simp [endAt, Sem.wrap] at he
              have hr : ∀ e, x ≠ .raise e := by
                rintro e rfl
                obtain ⟨heap, gens, drawn, toks, os⟩ := s
                simp only [Sem.wrap, step] at hs
                cases hs
              exact ⟨(okOuter (K' := K') (H' := H') hp hr hk).1, step_outer hB hp hs⟩
            · exact ⟨(okInner hB F hk).1, step_inner hB F hs⟩
          obtain ⟨k1, t₂', k3, R'⟩ := key
          have g := Gx.one z k1 k3
          obtain ⟨a, ha, g'⟩ := seg_sched hB n s₂ t₂ t₂' f s' c' p' (g.asleep z) R' h
          exact ⟨a, ha, g.trans g'⟩
end
theorem runNI_last {den : Code → Sem Fin} {p : Program} {w : World} : ∀ {k : Nat} {s s₂ s₃ : Shared} {t t₂ t₃ : Thread}, runNI den p w k s t = .running s₂ t₂ → runNI den p w (k + 1) s t = .running s₃ t₃ → ∃ s₅ t₅, stepI den p w s₂ t₂ = .go s₅ t₅
  | 0, s, s₂, s₃, t, t₂, t₃, h, h' => by
    simp only [runNI] at h h'
    cases h
    cases hs : stepI den p w s t with
    | go s₅ t₅ => exact ⟨s₅, t₅, rfl⟩
    | halt o s₅ => rw [hs] at h'; cases h'
  | k + 1, s, s₂, s₃, t, t₂, t₃, h, h' => by
    rw [runNI] at h h'
    cases hs : stepI den p w s t with
    | go s₅ t₅ => rw [hs] at h h'; exact runNI_last h h'
    | halt o s₅ => rw [hs] at h'; cases h'
theorem runN_stop {den : Code → Sem Fin} {p : Program} {w : World} : ∀ {k : Nat} {s s₂ s₃ : Shared} {t t₂ : Thread} {o : Outcome}, runN den p w k s t = .running s₂ t₂ → step den p w s₂ t₂ = .halt o s₃ → runN den p w (k + 1) s t = .halted o s₃
  | 0, s, s₂, s₃, t, t₂, o, h, h' => by
    simp only [runN] at h ⊢
    cases h
    rw [h']
  | k + 1, s, s₂, s₃, t, t₂, o, h, h' => by
    rw [runN] at h ⊢
    cases hs : step den p w s t with
    | go s₅ t₅ => rw [hs] at h; exact runN_stop h h'
    | halt o s₅ => rw [hs] at h; cases h
/-- by the logic -/
theorem comes_sched {w : World} {s s' : Shared} {t t' : Thread} (z : s.asleep) (h : Comes (model pr w) s t s' t') : ∃ n σ τ, schedN (denote table) pr w n (.single s t) = .running (.single σ τ) ∧ σ.forget = s'.forget ∧ τ.forget = t'.forget ∧ σ.heap.life = s.heap.life := by
  obtain ⟨n, hn⟩ := h
  have hn : runNI (denote table) pr w n s t = .running s' t' := hn
  obtain ⟨σ, τ, hr, h1, h2⟩ := runNI_running_real hn
  refine ⟨n, σ, τ, ?_, h1, h2, runN_life_running hr⟩
  rw [schedN_prefix (denote table) pr w n s t z fun k s₁ t₁ hk hk₁ => ?_, hr]
  · rfl
  · obtain ⟨s₂, t₂, h₂⟩ := runNI_prefix (Nat.le_of_lt hk) hn
    obtain ⟨s₃, t₃, h₃⟩ := runNI_prefix (k := k + 1) hk hn
    obtain ⟨s₄, t₄, r₄, f₁, f₂⟩ := runNI_running_real h₂
    rw [hk₁] at r₄
    injection r₄ with r1 r2
    subst r1 r2
    have st : ∃ s₅ t₅, stepI (denote table) pr w s₂ t₂ = .go s₅ t₅ := runNI_last h₂ h₃
    obtain ⟨s₅, t₅, st⟩ := st
    have calm₂ : t₂.calm = true := by
      rw [Thread.calm_eq]
      cases hl : t₂.loud with
      | true => rw [stepI_loud (denote table) pr w hl] at st; cases st
      | false =>
        rw [stepI_quiet (denote table) pr w hl] at st
        cases hre : t₂.refused with
        | false => rfl
        | true => obtain ⟨what, e⟩ := stepK_refused (denote table) pr w (s := s₂) hre; rw [e] at st; cases st
    refine ⟨by rw [← Thread.calm_forget, f₂, Thread.calm_forget]; exact calm₂, fun e => ?_⟩
    have a := runN_mono (denote table) pr w (k + 1) (n - (k + 1)) s t _ _ (runN_stop hk₁ e)
    rw [show k + 1 + (n - (k + 1)) = n by omega, hr] at a
    cases a
end Mine
end
/-! ## Hk -/
section
open PySem PySem.W PyProof.Rows PySem.Calls
namespace Mine
noncomputable def T0 (P : Params) : BT :=
  .node (boot_o_0 P) (.node (boot_o_1 P) (.node (boot_o_3 P) (.node (boot_o_7 P) .nil .nil) .nil) (.node (boot_o_5 P) (.node (boot_o_9 P) .nil .nil) .nil))
    (.node (boot_o_2 P) (.node (boot_o_4 P) (.node (boot_o_8 P) .nil .nil) .nil) (.node (boot_o_6 P) (.node (boot_o_10 P) .nil .nil) .nil))
noncomputable def S0T (w : World) (os : OsState) : SharedT := ⟨T0 w.params, 11, {}, #[], boot_drawn, boot_toks, os⟩
def menv : Env := { scope := pr.main.scope, locals := mainNs, globals := mainNs, cells := [], code := .ref 13, frame := some 14 }
def mcode : Code := .body (behindTheImports pr) menv
theorem run1 : ∀ (w : World) (os : OsState), (goT w 12 (S0T w os) (topStub pr)).map (fun r => (r.1.n, r.2)) = some (15, ⟨denote treeTable mcode, mcode, default, [topFrame default]⟩) := by
  intro w os
  kernel_rfl
def sd (P : Params) (x : Str) (t : Tok) (v : Value) : DictEntry := { hash := PyData.keyHash P x, key := .str x t, val := v }
def o3 (P : Params) : Obj := { cls := .type "dict", data := .dict #[sd P "__name__" 165 (.str "cpy313.stringprep" 254), sd P "__doc__" 166 .none, sd P "__package__" 167 .none, sd P "__loader__" 168 (.builtin "__main__.__loader__#opaque"), sd P "__spec__" 169 .none,
  sd P "__annotations__" 170 (.ref 6), sd P "__builtins__" 171 (.ref 4), sd P "__file__" 173 (.str "/claim/cut.py" 172), sd P "__cached__" 174 .none, sd P "_wall" 193 (.ref 21), sd P "_netrclex" 253 (.ref 59)] 11 }
def o58 (P : Params) : Obj := { cls := .type "dict", data := .dict #[sd P "__module__" 203 (.str "cpy313.netrc" 194), sd P "__firstlineno__" 207 (.int 5 206), sd P "__init__" 215 (.ref 35), sd P "_read_char" 223 (.ref 42), sd P "get_token" 233 (.ref 49), sd P "push_token" 241 (.ref 56),
  sd P "__static_attributes__" 246 (.ref 57), sd P "__dict__" 248 (.ref 60), sd P "__weakref__" 250 (.ref 61), sd P "__doc__" 251 .none] 4 }
def o59 : Obj := excClassObj "_netrclex" "_netrclex" 59 58 [.type "object"] [.type "object"] true [] [] false none none none none (some (.str "_netrclex" 196)) (some (.str "_netrclex" 204)) (some (.bool true)) "object.__new__"
def fo (x q : Str) (i : Nat) (c : Addr) : Obj := { cls := .type "function", data := .func (cdefn x q (metAt i) [] (.str "cpy313.netrc" 194) (.ref c) (.none, .none)) }
def q1 (o : Option Obj) : Option Value := match o with
  | some ⟨_, _, .fields vs, _⟩ => vs[1]?
  | _ => none
def obs (r : Flow × SharedT × Code × Pos) := (r.1, r.2.2, r.2.1.n, r.2.1.gens, [r.2.1.tree.get 2, r.2.1.tree.get 3, r.2.1.tree.get 58, r.2.1.tree.get 59, r.2.1.tree.get 35, r.2.1.tree.get 42, r.2.1.tree.get 49],
  [q1 (r.2.1.tree.get 34), q1 (r.2.1.tree.get 41), q1 (r.2.1.tree.get 48)], r.2.1.tree.get 12, r.2.1.tree.get 13)
def o12 : Obj := tabObj #[rawInt 1, rawInt 0, .ref 20, rawInt 5, rawInt 0, .ref 27]
def o13 : Obj := { cls := .type "code", data := .fields #[.str "<module>" 182, .str "<module>" 183, .str "/claim/cut.py" 184, .int 1 0, .int 0 0, .int 0 0, .int 0 0, .int 0 0, .ref 11, .bool false, .int 181 0, .ref 12, .none, .none, .none, .none, .int 185 0, .int 1 0, .str "/claim/cut.py" 186] }
set_option maxHeartbeats 4000000 in
theorem run4 : ∀ (w : World) (os : OsState), ((goT w 12 (S0T w os) (topStub pr)).bind fun r => (segRunT treeTable pr w 11 (some (.ref 6)) 1 372 r.1 (piecesOf (pr.main.body.take 4) menv mcode default [topFrame default])).map obs) =
    some (.next, (mcode, ⟨48, 0, 48, 8⟩), 64, #[], [some { cls := .none, data := .dict #[] }, some (o3 w.params), some (o58 w.params), some o59, some (fo "__init__" "_netrclex.__init__" 0 34), some (fo "_read_char" "_netrclex._read_char" 1 41), some (fo "get_token" "_netrclex.get_token" 2 48)],
      [some (.str "_netrclex.__init__" 209), some (.str "_netrclex._read_char" 217), some (.str "_netrclex.get_token" 225)], some o12, some o13) := by
  intro w os
  kernel_rfl
end Mine
end
/-! ## Hd -/
section
open PySem PySem.W PyProof.Rows PySem.Calls
namespace Mine
/-- all but the module's names and its code's table lies still -/
def Kp (h h' : Heap) : Prop := ∀ (b : Addr) o, b ≠ 3 → b ≠ 12 → h.get? b = some o → h'.get? b = some o
theorem Kp.refl (h : Heap) : Kp h h := fun _ _ _ _ e => e
theorem Kp.trans {a b c : Heap} (x : Kp a b) (y : Kp b c) : Kp a c := fun k o h1 h2 e => y k o h1 h2 (x k o h1 h2 e)
theorem Kp.ofSub {h h' : Heap} (k : Sub h h') : Kp h h' := fun b o _ _ e => k b o e
theorem Kp.ofSame {h h' : Heap} (k : Heap.SameBut (3 : Addr) h h') : Kp h h' := fun b o h1 _ e => (k.2 b h1).trans e
theorem Kp.ofExt {h h' : Heap} (k : Heap.ExtBut (12 : Addr) h h') : Kp h h' := fun b o _ h2 e => k b o h2 e
/-- a def of the top, all of it -/
structure FR (h : Heap) (i : Nat) (x : Str) (f c P : Addr) : Prop where
  fn : ∃ pm doc, h.get? f = some { cls := .type "function", data := .func (docDef x (fnAt i).1 (fnAt i).2.1 (fnAt i).2.2 pm (.ref c) doc) }
  cr : h.CodeRec (.ref c) x
  hd : CodeHd h c P
  tb : h.get? P = some (tabObj #[])
  nf : f ≠ 3 ∧ f ≠ 12
  nc : c ≠ 3 ∧ c ≠ 12
  nP : P ≠ 3 ∧ P ≠ 12
theorem FR.kp {h h' : Heap} {i : Nat} {x : Str} {f c P : Addr} (F : FR h i x f c P) (k : Kp h h') : FR h' i x f c P := by
  obtain ⟨⟨pm, doc, e⟩, ⟨c₂, o, vs, t, e2, e3, r⟩, hd, tb, nf, nc, nP⟩ := F
  cases e2
  refine ⟨⟨pm, doc, k _ _ nf.1 nf.2 e⟩, ⟨c, o, vs, t, rfl, k _ _ nc.1 nc.2 e3, r⟩, ?_, k _ _ nP.1 nP.2 tb, nf, nc, nP⟩
  obtain ⟨o, vs, file, tf, flags, tg, inF, text, tt, e, r⟩ := hd
  exact ⟨o, vs, file, tf, flags, tg, inF, text, tt, k _ _ nc.1 nc.2 e, r⟩
/-- the module between two statements -/
structure Md (m : Str → Option Value) (ps : Array Value) (h : Heap) : Prop where
  ns : h.Ns (3 : Addr) m
  tab : h.get? (12 : Addr) = some (tabObj ps)
  tr : TriplesOk ps.toList
  hd : CodeHd h 13 12
  bm : m "__builtins__" = some (.ref 4)
  b4 : h.get? (4 : Addr) = some { cls := .type "module", dict := some 0 }
  bl : ∃ mb, h.Ns builtinsNs mb ∧ ∀ x : Str, x ≠ "__name__" → mb x = bootBuiltins x
theorem CodeHd.kp {h h' : Heap} {c P : Addr} (x : CodeHd h c P) (k : Kp h h') (n : c ≠ 3 ∧ c ≠ 12) : CodeHd h' c P :=
  let ⟨o, vs, file, tf, flags, tg, inF, text, tt, e, r⟩ := x; ⟨o, vs, file, tf, flags, tg, inF, text, tt, k _ _ n.1 n.2 e, r⟩
theorem Ns.kp {h h' : Heap} {a : Addr} {m : Str → Option Value} (x : h.Ns a m) (k : Kp h h') (n : a ≠ 3 ∧ a ≠ 12) : h'.Ns a m :=
  let ⟨o, es, ep, e, r⟩ := x; ⟨o, es, ep, k _ _ n.1 n.2 e, r⟩
theorem Md.ext {m : Str → Option Value} {ps : Array Value} {h h' : Heap} (x : Md m ps h) (k : Sub h h') : Md m ps h' :=
  ⟨x.ns.keeps k, k _ _ x.tab, x.tr, x.hd.keeps k, x.bm, k _ _ x.b4, let ⟨mb, a, b⟩ := x.bl; ⟨mb, a.keeps k, b⟩⟩
theorem Md.store {m : Str → Option Value} {ps : Array Value} {h h' : Heap} {x : Str} {v : Value} (X : Md m ps h) (hn : h'.Ns (3 : Addr) (fun y => if y = x then some v else m y)) (k : Heap.SameBut (3 : Addr) h h') (hx : x ≠ "__builtins__") : Md (fun y => if y = x then some v else m y) ps h' :=
  ⟨hn, (k.2 12 (by decide)).trans X.tab, X.tr, CodeHd.kp X.hd (.ofSame k) (by decide), (if_neg (fun e => hx e.symm)).trans X.bm, (k.2 4 (by decide)).trans X.b4, let ⟨mb, a, b⟩ := X.bl; ⟨mb, Ns.kp a (.ofSame k) (by decide), b⟩⟩
theorem Md.bat {m : Str → Option Value} {ps : Array Value} {h : Heap} (X : Md m ps h) : h.BuiltinsAt m 12 := ⟨4, _, X.bm, by decide, by decide, by decide, X.b4, rfl, rfl, rfl⟩
section
variable {w : World} {A : Around} {E : Value → Shared → Prop} {h : Heap} {G : Array GenState} {D : Drawn} {tk : Nat} {O : OsState} {m : Str → Option Value} {ps : Array Value}
theorem stM {x : Str} {v : Value} {Q : Unit → Shared → Prop} (X : Md m ps h) (hx : x ≠ "__builtins__") (k : ∀ h' tk', Md (fun y => if y = x then some v else m y) ps h' → Heap.SameBut (3 : Addr) h h' → Q () ⟨h', G, D, tk', O⟩)
    (hl : menv.kindOf x = some .local := by rfl) : Wp w A (storeName menv x v) Q E ⟨h, G, D, tk, O⟩ := by
  rw [Wp_eq]; exact wpAny_storeName_local (s := ⟨h, G, D, tk, O⟩) hl X.ns (fun h' hn hs => k h' _ (X.store hn hs hx) hs) rfl
theorem nmMB {x : Str} {pos : Pos} {v : Value} {Q : Value → Shared → Prop} (X : Md m ps h) (hm : m x = none) (hv : bootBuiltins x = some v) (hx : x ≠ "__name__") (k : Q v ⟨h, G, D, tk, O⟩) (hd : (x == ("__debug__" : Str)) = false := by decide) :
    Wp w A (eval (.Name x pos) menv) Q E ⟨h, G, D, tk, O⟩ := by
  obtain ⟨mb, hb, he⟩ := X.bl
  rw [Wp_eq]; exact Name_module rfl rfl (loadGlobal_builtin (s := ⟨h, G, D, tk, O⟩) X.ns hm hb ((he x hx).trans hv) k) hd
theorem clTM {x : Str} {p pos : Pos} {id : String} {e : Expr} {args : List Expr} {Q : Value → Shared → Prop} (X : Md m ps h) (hm : m x = none) (hv : bootBuiltins x = some (.type id)) (hx : x ≠ "__name__")
    (k : Wp w A (spliced (backTo pos (starEach (e :: args) menv))) (fun vs s₁ => Wp w A (call (.type id) vs) Q E s₁) E ⟨h, G, D, tk, O⟩)
    (hp : (backTo pos (starEach (e :: args) menv)).any (·.1) = false := by rfl) (hs : starEach (e :: args) menv = (false, eval e menv) :: starEach args menv := by rfl) (hd : (x == ("__debug__" : Str)) = false := by decide) :
    Wp w A (eval (.Call (.Name x p) (e :: args) [] pos) menv) Q E ⟨h, G, D, tk, O⟩ := by
  have c : Wp w A (callWith pos (.type id) [] (backTo pos (starEach (e :: args) menv)) []) Q E ⟨h, G, D, tk, O⟩ := by
    simp only [Wp_eq] at *
    refine PyProof.Rows.callWith_type hp ?_
    rw [hs] at k ⊢
    exact evalArgs_plain (wpAny_mono k (fun vs s' q => q) fun _ _ q => q)
  have z := nmMB (w := w) (A := A) (E := E) (G := G) (D := D) (tk := tk) (O := O) (pos := p) (Q := fun f s₁ => Wp w A (callWith pos f [] (backTo pos (starEach (e :: args) menv)) []) Q E s₁) X hm hv hx c hd
  simp only [Wp_eq] at *
  exact wpAny_Call_NameR z
/-- a def of the top -/
theorem dfM {i : Nat} {name : Str} {params : Arguments} {body : List Stmt} {scope : Scope} {pos : Pos} {Q : Flow → Shared → Prop} (X : Md m ps h) (hx : name ≠ "__builtins__") (hnf : codeAmong pos ps.toList = none)
    (k : ∀ f c P h' tk', Md (fun y => if y = name then some (.ref f) else m y) (ps ++ #[rawInt pos.line, rawInt pos.col, .ref c]) h' → Kp h h' → FR h' i name f c P → h.get? P = none → Q .next ⟨h', G, D, tk', O⟩)
    (hi : fnAt i = (params, body, scope) := by rfl) (hcl : closureFor scope menv = pure [] := by rfl) (hl : menv.kindOf name = some .local := by rfl) (hq : qualnameIn menv name name = name := by rfl)
    (hd0 : params.defaults = [] := by rfl) (hk0 : params.kw_defaults = [] := by rfl) (ha : annTrees params none menv = [] := by rfl) :
    Wp w A (exec (.FunctionDef name params body [] none [] scope none name pos) menv) Q E ⟨h, G, D, tk, O⟩ := by
  have k' : ∀ (f : Addr) (s' : Shared), (∃ c P doc pm h' tk', s' = ⟨h', G, D, tk', O⟩ ∧ h.get? f = none ∧ h.get? c = none ∧ h.get? P = none ∧ Heap.ExtBut (12 : Addr) h h' ∧ h'.get? (12 : Addr) = some (tabObj (ps ++ #[rawInt pos.line, rawInt pos.col, .ref c])) ∧
      h'.get? f = some { cls := .type "function", data := .func (docDef name params body scope pm (.ref c) doc) } ∧ h'.CodeRec (.ref c) name ∧ CodeHd h' c P ∧ h'.get? P = some (tabObj #[])) → Wp w A (storeName menv name (.ref f)) (fun _ => Q .next) E s' := by
    rintro f s' ⟨c, P, doc, pm, h', tk', rfl, hf, hc, hP, hx', ht, hfo, hcr, hcd, hPo⟩
    have o3 : ∃ o, h.get? (3 : Addr) = some o := let ⟨o, _, _, e, _⟩ := X.ns; ⟨o, e⟩
    have ne : ∀ a, h.get? a = none → a ≠ 3 ∧ a ≠ 12 := fun a e => by
      obtain ⟨o, z⟩ := o3
      constructor
      · intro q; rw [q, z] at e; cases e
      · intro q; rw [q, X.tab] at e; cases e
    have X' : Md m (ps ++ #[rawInt pos.line, rawInt pos.col, .ref c]) h' :=
      ⟨X.ns.extBut hx' (by decide), ht, by rw [Array.toList_append]; exact TriplesOk_snoc _ _ _ _ X.tr, CodeHd.kp X.hd (.ofExt hx') (by decide), X.bm, hx' _ _ (by decide) X.b4, let ⟨mb, a, b⟩ := X.bl; ⟨mb, a.extBut hx' (by decide), b⟩⟩
    have fr : FR h' i name f c P := ⟨⟨pm, doc, by rw [hi]; exact hfo⟩, hcr, hcd, hPo, ne f hf, ne c hc, ne P hP⟩
    refine stM X' hx (fun h'' tk'' X'' hs'' => ?_) hl
    exact k f c P h'' tk'' X'' ((Kp.ofExt hx').trans (.ofSame hs'')) (fr.kp (.ofSame hs'')) hP
  refine Wp.of (nestDef_K hd0 hk0 ha ?_)
  rw [makeFunction_eq, hq]
  simp only [List.zip_nil_right, List.filterMap_nil, List.isEmpty_nil, if_true, pure_bind]
  unfold makeTail
  rw [hcl]
  refine wpAny_bind (wpAny_pure ?_)
  simp only [List.isEmpty_nil, if_true]
  refine wpAny_bind (wpAny_pure ?_)
  obtain ⟨bm, ob, hbm, hne0, _, hneP, hbo, hcls, hdict, hdata⟩ := X.bat
  refine wpAny_bind (wpAny_functionCodeX (c := 13) (P := 12) (ps := ps) rfl (X.hd.code X.tab X.tr) (X.hd.tab X.tab) hnf fun c h' tk' hx' hge hlt _ hrec htb hP' => ?_)
  obtain ⟨P, hgeP, icP, taP⟩ := hP'
  have hg' : h'.Ns (3 : Addr) m := X.ns.extBut hx' (by decide)
  refine wpAny_bind (wpAny_builtinsFor hg' hbm hne0 (hx' _ _ hneP hbo) hcls hdict hdata ?_)
  refine wpAny_bind (wpAny_nsGet hg' ?_)
  have hge' : @LE.le Nat _ h.objs.size c := hge
  have hlt' : @LT.lt Nat _ c h'.objs.size := hlt
  have fin : ∀ doc tk2, Wp w A (storeName menv name (.ref h'.objs.size)) (fun _ => Q .next) E ⟨h'.push { cls := .type "function", data := .func (docDef name params body scope ((m "__name__").getD .none) (.ref c) doc) }, G, D, tk2, O⟩ := fun doc tk2 =>
    k' _ _ ⟨c, P, doc, _, _, tk2, rfl, Heap.get?_none_of_le (by omega), Heap.get?_none_of_le hge, Heap.get?_none_of_le hgeP, fun b ob hb e => Heap.get?_push_of_some _ (hx' b ob hb e), Heap.get?_push_of_some _ htb.2, Heap.get?_push_size _ rfl,
      hrec.keeps fun b o e => Heap.get?_push_of_some _ e, (CodeHd.of icP taP).keeps fun b o e => Heap.get?_push_of_some _ e, Heap.get?_push_of_some _ taP.2⟩
  cases hdoc : docOf body with
  | none => exact wpAny_bind (wpAny_pure (wpAny_newObj_type (fin .none _).any (by size_fits)))
  | some t => exact wpAny_bind (wpAny_mkText (wpAny_newObj_type (fin _ _).any (by size_fits)))
end
end Mine
end
/-! ## He -/
section
open PySem PySem.W PyProof.Rows PySem.Calls
namespace Mine
def b1a : List Int := [173, 847, 6150, 6155, 6156, 6157, 8203, 8204, 8205, 8288, 65279]
def b1b : List Int := (List.range 16).map fun i : Nat => (65024 : Int) + i
theorem b1_met : firstMet (fun i => (b1a ++ b1b).getD i 0) 27 = b1a ++ b1b := by decide +kernel
theorem any_cast (c : Nat) : ∀ l : List Nat, (l.map Int.ofNat).any (· == (c : Int)) = l.contains c
  | [] => rfl
  | x :: r => by
    rw [List.map_cons, List.any_cons, List.contains_cons, any_cast c r]
    congr 1
    rw [Bool.eq_iff_iff, beq_iff_eq, beq_iff_eq]
    exact ⟨fun h => (Int.ofNat.inj h).symm, fun h => congrArg Int.ofNat h.symm⟩
theorem b1_any (c : Nat) : ((b1a ++ b1b).any (· == (c : Int))) = b1P c := by
  unfold b1P
  rw [List.any_append, show b1a = ([173, 847, 6150, 6155, 6156, 6157, 8203, 8204, 8205, 8288, 65279] : List Nat).map Int.ofNat from rfl, any_cast,
    show b1b = ((List.range 16).map fun i => 65024 + i).map Int.ofNat by rfl, any_cast]
  congr 1
  rw [Bool.eq_iff_iff, List.contains_iff_mem, List.mem_map, Bool.and_eq_true]
  constructor
  · rintro ⟨i, hi, rfl⟩
    have hi := List.mem_range.mp hi
    exact ⟨Nat.ble_eq_true_of_le (by omega), Nat.ble_eq_true_of_le (by omega)⟩
  · rintro ⟨h1, h2⟩
    have h1 := Nat.le_of_ble_eq_true h1
    have h2 := Nat.le_of_ble_eq_true h2
    exact ⟨c - 65024, List.mem_range.mpr (by omega), by omega⟩
def stAt (i : Nat) : Stmt := (pr.main.body[i]?).getD (.Pass default)
theorem intsAre_of' : ∀ {vs : List Value} {ns : List Int}, IntsOf vs ns → IntsAre vs ns
  | [], [], _ => .nil
  | v :: r, n :: ns, h => by
    obtain ⟨t, e⟩ := h.2 0 n rfl
    cases e
    exact .cons n t (intsAre_of' ⟨by simpa using h.1, fun i m hi => by simpa using h.2 (i + 1) m (by simpa using hi)⟩)
  | [], _ :: _, h => by have := h.1; simp at this
  | _ :: _, [], h => by have := h.1; simp at this
section
variable {w : World} {A : Around} {h : Heap} {G : Array GenState} {D : Drawn} {tk : Nat} {O : OsState} {m : Str → Option Value} {ps : Array Value}
theorem rg2 {a b : Int} {t u : Tok} {Q : Value → Shared → Prop} {E : Value → Shared → Prop} (k : ∀ r h' tk' v, Sub h h' → IsRange h' r a b 1 t u v → Q (.ref r) ⟨h', G, D, tk', O⟩) : Wp w A (call (.type "range") [.int a t, .int b u]) Q E ⟨h, G, D, tk, O⟩ :=
  Wp.of (call_range_2 (s := ⟨h, G, D, tk, O⟩) (k _ _ _ _ (sub_push _ _) (IsRange.new ..)))
theorem lsR {r : Addr} {a b : Int} {t u v : Tok} {n : Nat} {Q : Value → Shared → Prop} {E : Value → Shared → Prop} (hh : A.handled = none) (hr : IsRange h r a b 1 t u v) (hsm : Builtin.Range.small a b 1 = true) (hn : Builtin.Range.rangeSize a b 1 = n) (hl : n ≤ 1000)
    (k : ∀ l vs h' tk', Sub h h' → At h' l (PL vs) → IntsOf vs ((List.range n).map fun i : Nat => a + i) → Q (.ref l) ⟨h', G, D, tk', O⟩) : Wp w A (call (.type "list") [.ref r]) Q E ⟨h, G, D, tk, O⟩ := by
  refine Wp.of (call_list_range (s := ⟨h, G, D, tk, O⟩) hh hr hsm hn (by omega) fun h' tk' acc c hk hS hacc => k _ acc.toList h' tk' hk ⟨_, hS, c, by simp⟩ ⟨by simp [hacc.1], fun i x hi => ?_⟩)
  rw [List.getElem?_map] at hi
  obtain ⟨j, hj, rfl⟩ := Option.map_eq_some_iff.mp hi
  have hin : i < n := by
    have := (List.getElem?_eq_some_iff.mp hj).1
    simpa using this
  rw [List.getElem?_range hin] at hj
  cases hj
  have hia : i < acc.size := by rw [hacc.1]; exact hin
  obtain ⟨t', e⟩ := hacc.2 i acc[i] (by simp [hia])
  refine ⟨t', ?_⟩
  rw [Int.mul_one] at e
  rw [Array.getElem?_toList, Array.getElem?_eq_getElem hia, e]
set_option maxHeartbeats 4000000 in
theorem set_stmt {Q : Flow → Shared → Prop} (hh : A.handled = none) (X : Md m ps h) (hm : ∀ x ∈ (["set", "list", "range"] : List Str), m x = none)
    (k : ∀ bs n S h' tk', Md (fun y => if y = "b1_set" then some (.ref bs) else m y) ps h' → Kp h h' → bs ≠ 3 ∧ bs ≠ 12 → h'.SetOf (intKind pr w) bs S n → (∀ c : Nat, S c = b1P c) → Q .next ⟨h', G, D, tk', O⟩) :
    Wp w A (exec (stAt 4) menv) Q NoE ⟨h, G, D, tk, O⟩ := by
  have n1 : m "set" = none := hm _ (by decide)
  have n2 : m "list" = none := hm _ (by decide)
  have n3 : m "range" = none := hm _ (by decide)
  refine wAsg <| clTM (x := "set") (id := "set") X n1 rfl (by decide) <| ar1 <| wBin <| lstM <| dispInts (ns := b1a) rfl fun vs tk₁ hvs => ⟨_, _, rfl, by rw [hvs.1]; decide, fun la h₁ hla hs₁ hat₁ => ?_⟩
  refine clTM (x := "list") (id := "list") (X.ext hs₁) n2 rfl (by decide) <| ar1 <| clTM (x := "range") (id := "range") (X.ext hs₁) n3 rfl (by decide) <| ar1 <| cI fun t1 _ => ar1 <| cI fun t2 _ => ar0 <| rg2 fun r h₂ tk₂ t3 hs₂ hr₂ => ?_
  refine ar0 <| lsR hh hr₂ (small_one (by decide) (by decide) (by decide) (by decide)) (n := 16) (by rw [rangeSize_one]; decide) (by decide) fun lb us h₃ tk₃ hs₃ hat₃ hus => ?_
  refine addL (hat₁.sub (hs₂.trans hs₃)) hat₃ (by rw [hvs.1, hus.1]; decide) fun lc h₄ hlc hs₄ hat₄ => ar0 <| Wp.of (call_set_list (s := ⟨h₄, G, D, tk₃, O⟩) (ns := b1a ++ b1b) hh hat₄.isList (intsAre_of' (hvs.app hus)) (by rw [List.size_toArray, List.length_append, hvs.1, hus.1]; decide) fun h₅ tk₅ hset hk₅ => ?_)
  have hs₅ : Sub h h₅ := hs₁.trans (hs₂.trans (hs₃.trans (hs₄.trans fun b o e => hk₅ b o (Heap.lt_size e) e)))
  have e27 : (vs ++ us).toArray.size = 27 := by rw [List.size_toArray, List.length_append, hvs.1, hus.1]; rfl
  rw [e27, b1_met] at hset
  have hnn : h.get? h₄.objs.size = none := (hs₁.trans (hs₂.trans (hs₃.trans hs₄))).none (fresh_none _)
  have ne : h₄.objs.size ≠ 3 ∧ h₄.objs.size ≠ 12 := by
    obtain ⟨o, _, _, e, _⟩ := X.ns
    constructor
    · intro q; rw [q, e] at hnn; cases hnn
    · intro q; rw [q, X.tab] at hnn; cases hnn
  refine stM (X.ext hs₅) (by decide) fun h₆ tk₆ X₆ hs₆ => ?_
  exact k _ (b1a ++ b1b).length (fun c => (b1a ++ b1b).any (· == c)) h₆ tk₆ X₆ ((Kp.ofSub hs₅).trans (.ofSame hs₆)) ne (by obtain ⟨o, es, ep, tb, ho, r⟩ := hset; exact ⟨o, es, ep, tb, (hs₆.2 _ ne.1).trans ho, r⟩) b1_any
end
end Mine
end
/-! ## Hf -/
section
open PySem PySem.W PyProof.Rows PySem.Calls
namespace Mine
def ksOf : Stmt → List (Option Expr)
  | .Assign _ (.Dict ks _ _) _ => ks
  | _ => []
def vsOf : Stmt → List Expr
  | .Assign _ (.Dict _ vs _) _ => vs
  | _ => []
@[irreducible] def dkeys : List (Option Expr) := ksOf (stAt 6)
@[irreducible] def dvals : List Expr := vsOf (stAt 6)
theorem st6 : stAt 6 = .Assign [.Name "b3_exceptions" ⟨52, 0, 52, 13⟩] (.Dict dkeys dvals (match stAt 6 with | .Assign _ (.Dict _ _ p) _ => p | _ => default)) (match stAt 6 with | .Assign _ _ p => p | _ => default) := by kernel_rfl
def litD : List (Option Expr) → List Expr → Option (List (Int × Str))
  | [], [] => some []
  | k :: ks, v :: vs => (k.bind exInt).bind fun i => (exStr v).bind fun x => (litD ks vs).map ((i, x) :: ·)
  | _, _ => none
@[irreducible] def dds : List (Int × Str) := b3L.map fun p => ((p.1 : Int), p.2)
theorem litD_is : litD dkeys dvals = some dds := by kernel_rfl
theorem dall : dkeys.all (·.isSome) = true := by kernel_rfl
theorem dlen : dkeys.length = dvals.length := by kernel_rfl
def sortedB : List (Nat × Str) → Bool
  | a :: b :: r => Nat.blt a.1 b.1 && sortedB (b :: r)
  | _ => true
theorem b3sorted : sortedB b3L = true := by decide +kernel
theorem sorted_lt : ∀ {l : List (Nat × Str)} {a : Nat × Str}, sortedB (a :: l) = true → ∀ b ∈ l, a.1 < b.1
  | [], _, _, b, hb => by cases hb
  | c :: r, a, h, b, hb => by
    unfold sortedB at h
    obtain ⟨h1, h2⟩ := Bool.and_eq_true_iff.mp h
    have h1 : a.1 < c.1 := Nat.le_of_ble_eq_true h1
    rcases List.mem_cons.mp hb with rfl | hb
    · exact h1
    · exact Nat.lt_trans h1 (sorted_lt h2 b hb)
theorem sorted_nodup : ∀ {l : List (Nat × Str)}, sortedB l = true → ((l.map fun p => ((p.1 : Int), p.2)).map (·.1)).Nodup
  | [], _ => List.nodup_nil
  | a :: l, h => by
    rw [List.map_cons, List.map_cons, List.nodup_cons]
    refine ⟨fun hm => ?_, sorted_nodup ?_⟩
    · obtain ⟨x, hx, e⟩ := List.mem_map.mp hm
      obtain ⟨y, hy, rfl⟩ := List.mem_map.mp hx
      have := sorted_lt h y hy
      simp at e; omega
    · cases l with
      | nil => rfl
      | cons c r => unfold sortedB at h; exact (Bool.and_eq_true_iff.mp h).2
theorem dnodup : (dds.map (·.1)).Nodup := by unfold dds; exact sorted_nodup b3sorted
theorem dbig : dds.length ≤ 50000 := Nat.le_of_ble_eq_true (by kernel_rfl)
theorem kv_find : ∀ {l : List (Nat × Str)} {kvs : List (Int × Value)}, KV kvs (l.map fun p => ((p.1 : Int), p.2)) → ∀ c : Nat, (valueAt kvs c = none ∧ b3find c l = none) ∨ ∃ x t, valueAt kvs c = some (.str x t) ∧ b3find c l = some x
  | [], _, h, c => by cases h; exact .inl ⟨rfl, rfl⟩
  | (i, x) :: l, _, h, c => by
    rw [List.map_cons] at h
    cases h with
    | cons _ _ t h =>
      unfold b3find
      cases hb : Nat.beq i c with
      | true =>
        have e : i = c := Nat.eq_of_beq_eq_true hb
        subst e
        exact .inr ⟨x, t, by simp [valueAt], rfl⟩
      | false =>
        have ne : i ≠ c := Nat.ne_of_beq_eq_false hb
        have : ∀ r, valueAt (((i : Int), Value.str x t) :: r) c = valueAt r c := fun r => by
          unfold valueAt
          rw [List.find?_cons]
          have : decide ((i : Int) = (c : Int)) = false := decide_eq_false (by omega)
          rw [this]
        rw [this]
        exact kv_find h c
theorem kv_neg : ∀ {l : List (Nat × Str)} {kvs : List (Int × Value)}, KV kvs (l.map fun p => ((p.1 : Int), p.2)) → ∀ k : Int, k < 0 → valueAt kvs k = none
  | [], _, h, k, _ => by cases h; rfl
  | (i, x) :: l, _, h, k, hk => by
    rw [List.map_cons] at h
    cases h with
    | cons _ _ t h =>
      have ih := kv_neg h k hk
      unfold valueAt at ih ⊢
      rw [List.find?_cons]
      have : decide ((i : Int) = k) = false := decide_eq_false (by omega)
      rw [this]
      exact ih
theorem kv_B3 {kvs : List (Int × Value)} (h : KV kvs dds) (k : Int) : (valueAt kvs k = none ∧ B3i k = none) ∨ ∃ x t, valueAt kvs k = some (.str x t) ∧ B3i k = some x := by
  unfold dds at h
  cases k with
  | ofNat n => exact kv_find h n
  | negSucc n => exact .inl ⟨kv_neg h _ (by omega), rfl⟩
section
variable {w : World} {A : Around} {h : Heap} {G : Array GenState} {D : Drawn} {tk : Nat} {O : OsState} {m : Str → Option Value} {ps : Array Value} {env : Env}
theorem lits_of : ∀ {ks : List (Option Expr)} {vs : List Expr} {ds : List (Int × Str)} {pos : Pos}, litD ks vs = some ds → Lits w A (pairTrees ks vs env pos) ds
  | [], [], ds, pos, h => by cases h; exact .nil
  | k :: ks, v :: vs, ds, pos, h => by
    unfold litD at h
    obtain ⟨i, hi, h⟩ := Option.bind_eq_some_iff.mp h
    obtain ⟨x, hx, h⟩ := Option.bind_eq_some_iff.mp h
    obtain ⟨ds', h', rfl⟩ := Option.map_eq_some_iff.mp h
    obtain ⟨e, rfl, he⟩ := Option.bind_eq_some_iff.mp hi
    obtain ⟨kd, p, rfl⟩ := exInt_is he
    obtain ⟨kd', p', rfl⟩ := exStr_is hx
    unfold pairTrees
    refine .cons (fun s Q E k => wpAny_Constant_int (k _ _)) (fun s Q E k => ?_) (lits_of h')
    exact wpAny_bind (Constant_str (wpAny_bind (wpAny_standAt (wpAny_pure (k _ _)))))
  | _ :: _, [], _, _, h => by simp [litD] at h
  | [], _ :: _, _, _, h => by simp [litD] at h
end
end Mine
end
/-! ## Hg -/
section
open PySem PySem.W PyProof.Rows PySem.Calls
namespace Mine
/-- lines below n in a code's table -/
def LB (n : Nat) : List Value → Prop
  | .int a _ :: .int _ _ :: _ :: r => a < (n : Int) ∧ LB n r
  | [] => True
  | _ => False
theorem LB.none {n : Nat} {pos : Pos} (hn : n ≤ pos.line) : ∀ {l : List Value}, LB n l → codeAmong pos l = none
  | [], _ => rfl
  | .int a _ :: .int b _ :: c :: r, h => by
    unfold LB at h
    unfold codeAmong
    have : (a == (pos.line : Int)) = false := beq_eq_false_iff_ne.mpr (by omega)
    rw [this, Bool.false_and, if_neg (by decide)]
    exact LB.none hn h.2
theorem LB.snoc {n n' : Nat} {a b : Nat} {c : Value} (hn : n ≤ n') (ha : a < n') : ∀ {l : List Value}, LB n l → LB n' (l ++ [rawInt a, rawInt b, c])
  | [], _ => ⟨by omega, trivial⟩
  | .int a' _ :: .int b' _ :: c' :: r, h => by
    unfold LB at h
    exact ⟨by omega, LB.snoc hn ha h.2⟩
theorem sd5 : stAt 5 = .FunctionDef "in_table_b1" (fnAt 5).1 (fnAt 5).2.1 [] none [] (fnAt 5).2.2 none "in_table_b1" ⟨50, 0, 51, 30⟩ := by kernel_rfl
theorem sd7 : stAt 7 = .FunctionDef "map_table_b3" (fnAt 7).1 (fnAt 7).2.1 [] none [] (fnAt 7).2.2 none "map_table_b3" ⟨53, 0, 57, 23⟩ := by kernel_rfl
theorem sd9 : stAt 9 = .FunctionDef "_law_stream" (fnAt 9).1 (fnAt 9).2.1 [] none [] (fnAt 9).2.2 none "_law_stream" ⟨59, 0, 68, 22⟩ := by kernel_rfl
theorem sd10 : stAt 10 = .FunctionDef "_law_sign" (fnAt 10).1 (fnAt 10).2.1 [] none [] (fnAt 10).2.2 none "_law_sign" ⟨69, 0, 89, 23⟩ := by kernel_rfl
theorem sd11 : stAt 11 = .FunctionDef "_law_words" (fnAt 11).1 (fnAt 11).2.1 [] none [] (fnAt 11).2.2 none "_law_words" ⟨90, 0, 108, 16⟩ := by kernel_rfl
theorem sd12 : stAt 12 = .FunctionDef "_law_marks" (fnAt 12).1 (fnAt 12).2.1 [] none [] (fnAt 12).2.2 none "_law_marks" ⟨109, 0, 120, 16⟩ := by kernel_rfl
theorem sd13 : stAt 13 = .FunctionDef "_law_parts" (fnAt 13).1 (fnAt 13).2.1 [] none [] (fnAt 13).2.2 none "_law_parts" ⟨121, 0, 143, 16⟩ := by kernel_rfl
theorem sd14 : stAt 14 = .FunctionDef "_law_file" (fnAt 14).1 (fnAt 14).2.1 [] none [] (fnAt 14).2.2 none "_law_file" ⟨144, 0, 163, 29⟩ := by kernel_rfl
theorem sd15 : stAt 15 = .FunctionDef "_law_reads" (fnAt 15).1 (fnAt 15).2.1 [] none [] (fnAt 15).2.2 none "_law_reads" ⟨164, 0, 172, 15⟩ := by kernel_rfl
theorem sd16 : stAt 16 = .FunctionDef "law" (fnAt 16).1 (fnAt 16).2.1 [] none [] (fnAt 16).2.2 none "law" ⟨173, 0, 180, 64⟩ := by kernel_rfl
theorem sd8 : stAt 8 = .Assign [.Name "__name__" ⟨58, 0, 58, 8⟩] (.Constant (.str "law_pk0103_01") 0 ⟨58, 11, 58, 26⟩) ⟨58, 0, 58, 26⟩ := by kernel_rfl
def dps : Pos := match stAt 6 with | .Assign _ (.Dict _ _ p) _ => p | _ => default
def dps2 : Pos := match stAt 6 with | .Assign _ _ p => p | _ => default
theorem st6' : stAt 6 = .Assign [.Name "b3_exceptions" ⟨52, 0, 52, 13⟩] (.Dict dkeys dvals dps) dps2 := st6
theorem d_swap : swapsWith (.Dict dkeys dvals dps) (some (.Name "b3_exceptions" ⟨52, 0, 52, 13⟩)) dps2.line menv = pure false := by kernel_rfl
theorem d_ne0 : ¬ ([] : List (Sem Value × Sem Value)).length = dkeys.length := fun e => by
  have : Nat.blt 1 dkeys.length = true := by kernel_rfl
  have := Nat.le_of_ble_eq_true this
  rw [← e] at this
  exact absurd this (by decide)
theorem d_ne (pos : Pos) : (pairTrees dkeys dvals menv pos) ≠ [] := by
  intro e
  have := pairTrees_length dkeys dvals menv pos dall dlen
  rw [e] at this
  exact absurd this (show ¬ ([] : List (Sem Value × Sem Value)).length = dkeys.length from d_ne0)
theorem rest_is : pr.main.body.drop 4 = [stAt 4, stAt 5, stAt 6, stAt 7, stAt 8, stAt 9, stAt 10, stAt 11, stAt 12, stAt 13, stAt 14, stAt 15, stAt 16] := by kernel_rfl
section
variable {w : World} {A : Around} {h : Heap} {G : Array GenState} {D : Drawn} {tk : Nat} {O : OsState} {m : Str → Option Value} {ps : Array Value}
theorem dict_stmt {Q : Flow → Shared → Prop} (X : Md m ps h) (hS : ∃ o, h.get? sysModules = some o)
    (k : ∀ d M h' tk', Md (fun y => if y = "b3_exceptions" then some (.ref d) else m y) ps h' → Kp h h' → d ≠ 3 ∧ d ≠ 12 → (d == sysModules) = false → h'.MapOf (intKind pr w) d M → (∀ k : Int, (M k = none ∧ B3i k = none) ∨ ∃ x t, M k = some (.str x t) ∧ B3i k = some x) → Q .next ⟨h', G, D, tk', O⟩) :
    Wp w A (exec (stAt 6) menv) Q NoE ⟨h, G, D, tk, O⟩ := by
  rw [st6']
  refine wAsg (Wp.of ?_) d_swap
  rw [arm_eval_Dict, zip_pairTrees dkeys dvals menv _ dall dlen]
  refine wpAny_bind (wpAny_standAt (display_lits (s := ⟨h, G, D, tk, O⟩) hS (lits_of litD_is) (d_ne _) dnodup dbig fun d kvs h' tk' hd0 hk hd hs => ?_))
  have ne : d ≠ 3 ∧ d ≠ 12 := by
    obtain ⟨o, _, _, e, _⟩ := X.ns
    constructor
    · intro q; rw [q] at hd0; rw [show h.get? (3 : Addr) = none from hd0] at e; cases e
    · intro q; rw [q] at hd0; have := X.tab; rw [show h.get? (12 : Addr) = none from hd0] at this; cases this
  have nS : (d == sysModules) = false := beq_eq_false_iff_ne.mpr fun q => by
    obtain ⟨o, e⟩ := hS
    rw [q] at hd0; rw [show h.get? sysModules = none from hd0] at e; cases e
  refine stM (X.ext hs) (by decide) fun h₆ tk₆ X₆ hs₆ => ?_
  refine k d (valueAt kvs) h₆ tk₆ X₆ ((Kp.ofSub hs).trans (.ofSame hs₆)) ne nS ?_ (kv_B3 hk)
  obtain ⟨o, es, ep, ho, r⟩ := hd.mapOf
  exact ⟨o, es, ep, (hs₆.2 _ ne.1).trans ho, r⟩
def defsL : List (Nat × Str) := [(5, "in_table_b1"), (7, "map_table_b3"), (9, "_law_stream"), (10, "_law_sign"), (11, "_law_words"), (12, "_law_marks"), (13, "_law_parts"), (14, "_law_file"), (15, "_law_reads"), (16, "law")]
def newL : List Str := ["b1_set", "in_table_b1", "b3_exceptions", "map_table_b3", "__name__", "_law_stream", "_law_sign", "_law_words", "_law_marks", "_law_parts", "_law_file", "_law_reads", "law"]
/-- the top is done -/
structure TopDone (w : World) (m m' : Str → Option Value) (h h' : Heap) : Prop where
  md : ∃ ps', Md m' ps' h'
  kp : Kp h h'
  old : ∀ y, y ∉ newL → m' y = m y
  nm : ∃ t, m' "__name__" = some (.str "law_pk0103_01" t)
  b1 : ∃ bs n S, m' "b1_set" = some (.ref bs) ∧ h'.SetOf (intKind pr w) bs S n ∧ (∀ c : Nat, S c = b1P c)
  b3 : ∃ d M, m' "b3_exceptions" = some (.ref d) ∧ (d == sysModules) = false ∧ h'.MapOf (intKind pr w) d M ∧ ∀ k : Int, (M k = none ∧ B3i k = none) ∨ ∃ x t, M k = some (.str x t) ∧ B3i k = some x
  fs : ∀ p ∈ defsL, ∃ f c P, m' p.2 = some (.ref f) ∧ FR h' p.1 p.2 f c P ∧ h.get? P = none
theorem SetOf.kp {h h' : Heap} {a : Addr} {S : Int → Bool} {n : Nat} (x : h.SetOf (intKind pr w) a S n) (k : Kp h h') (ne : a ≠ 3 ∧ a ≠ 12) : h'.SetOf (intKind pr w) a S n := by
  obtain ⟨o, es, ep, tb, ho, r⟩ := x
  exact ⟨o, es, ep, tb, k _ _ ne.1 ne.2 ho, r⟩
theorem MapOf.kp {h h' : Heap} {a : Addr} {M : Int → Option Value} (x : h.MapOf (intKind pr w) a M) (k : Kp h h') (ne : a ≠ 3 ∧ a ≠ 12) : h'.MapOf (intKind pr w) a M := by
  obtain ⟨o, es, ep, ho, r⟩ := x
  exact ⟨o, es, ep, k _ _ ne.1 ne.2 ho, r⟩
theorem Kp.none {h h' : Heap} (k : Kp h h') {a : Addr} (e : h'.get? a = none) (ne : a ≠ 3 ∧ a ≠ 12) : h.get? a = none := by
  cases q : h.get? a with
  | none => rfl
  | some o => rw [k _ _ ne.1 ne.2 q] at e; cases e
theorem dfS {i n : Nat} {name : Str} {pos : Pos} {Q : Flow → Shared → Prop} (e : stAt i = .FunctionDef name (fnAt i).1 (fnAt i).2.1 [] none [] (fnAt i).2.2 none name pos) (X : Md m ps h) (hx : name ≠ "__builtins__") (hb : LB n ps.toList) (hn : n ≤ pos.line)
    (k : ∀ f c P ps' h' tk', Md (fun y => if y = name then some (.ref f) else m y) ps' h' → LB (pos.line + 1) ps'.toList → Kp h h' → FR h' i name f c P → h.get? P = none → Q .next ⟨h', G, D, tk', O⟩)
    (hcl : closureFor (fnAt i).2.2 menv = pure [] := by rfl) (hl : menv.kindOf name = some .local := by rfl) (hq : qualnameIn menv name name = name := by rfl)
    (hd0 : (fnAt i).1.defaults = [] := by rfl) (hk0 : (fnAt i).1.kw_defaults = [] := by rfl) (ha : annTrees (fnAt i).1 none menv = [] := by rfl) :
    Wp w A (exec (stAt i) menv) Q NoE ⟨h, G, D, tk, O⟩ := by
  rw [e]
  exact dfM (i := i) X hx (hb.none hn) (fun f c P h' tk' X' k' F hP => k f c P _ h' tk' X' (by rw [Array.toList_append]; exact hb.snoc (by omega) (by omega)) k' F hP) rfl hcl hl hq hd0 hk0 ha
theorem nm_stmt {Q : Flow → Shared → Prop} (X : Md m ps h) (k : ∀ t h' tk', Md (fun y => if y = "__name__" then some (.str "law_pk0103_01" t) else m y) ps h' → Kp h h' → Q .next ⟨h', G, D, tk', O⟩) : Wp w A (exec (stAt 8) menv) Q NoE ⟨h, G, D, tk, O⟩ := by
  rw [sd8]
  exact wAsg (cS (l := [108, 97, 119, 95, 112, 107, 48, 49, 48, 51, 95, 48, 49]) rfl fun tn tkn => stM X (by decide) fun h₅ tk₅ X₅ s₅ => k tn h₅ tk₅ X₅ (.ofSame s₅))
set_option maxHeartbeats 4000000 in
theorem rest_spec {Q : Flow → Shared → Prop} (hh : A.handled = none) (X : Md m ps h) (hb : LB 6 ps.toList) (hS : ∃ o, h.get? sysModules = some o) (hm : ∀ x ∈ (["set", "list", "range"] : List Str), m x = none)
    (k : ∀ m' h' tk', TopDone w m m' h h' → Q .next ⟨h', G, D, tk', O⟩) : Wp w A (execs (pr.main.body.drop 4) menv) Q NoE ⟨h, G, D, tk, O⟩ := by
  rw [rest_is]
  obtain ⟨oS, hS⟩ := hS
  refine wCons <| set_stmt hh X hm fun bs n S h₁ tk₁ X₁ k₁ nb hset hSb => nx_next ?_
  refine wCons <| dfS sd5 X₁ (by decide) hb (by decide) fun f5 c5 P5 ps5 h₂ tk₂ X₂ b₂ k₂ F5 hP5 => nx_next ?_
  refine wCons <| dict_stmt X₂ ⟨oS, k₂ _ _ (by decide) (by decide) (k₁ _ _ (by decide) (by decide) hS)⟩ fun d M h₃ tk₃ X₃ k₃ nd dS hM hMB => nx_next ?_
  refine wCons <| dfS sd7 X₃ (by decide) b₂ (by decide) fun f7 c7 P7 ps7 h₄ tk₄ X₄ b₄ k₄ F7 hP7 => nx_next ?_
  refine wCons <| nm_stmt X₄ fun tn h₅ tk₅ X₅ k₅ => nx_next ?_
  refine wCons <| dfS sd9 X₅ (by decide) b₄ (by decide) fun f9 c9 P9 ps9 h₆ tk₆ X₆ b₆ k₆ F9 hP9 => nx_next ?_
  refine wCons <| dfS sd10 X₆ (by decide) b₆ (by decide) fun f10 c10 P10 ps10 h₇ tk₇ X₇ b₇ k₇ F10 hP10 => nx_next ?_
  refine wCons <| dfS sd11 X₇ (by decide) b₇ (by decide) fun f11 c11 P11 ps11 h₈ tk₈ X₈ b₈ k₈ F11 hP11 => nx_next ?_
  refine wCons <| dfS sd12 X₈ (by decide) b₈ (by decide) fun f12 c12 P12 ps12 h₉ tk₉ X₉ b₉ k₉ F12 hP12 => nx_next ?_
  refine wCons <| dfS sd13 X₉ (by decide) b₉ (by decide) fun f13 c13 P13 ps13 hA tkA XA bA kA F13 hP13 => nx_next ?_
  refine wCons <| dfS sd14 XA (by decide) bA (by decide) fun f14 c14 P14 ps14 hB tkB XB bB kB F14 hP14 => nx_next ?_
  refine wCons <| dfS sd15 XB (by decide) bB (by decide) fun f15 c15 P15 ps15 hC tkC XC bC kC F15 hP15 => nx_next ?_
  refine wCons <| dfS sd16 XC (by decide) bC (by decide) fun f16 c16 P16 ps16 hD tkD XD bD kD F16 hP16 => nx_next <| wNil ?_
  have jC := kD
  have jB := kC.trans jC
  have jA := kB.trans jB
  have j9 := kA.trans jA
  have j8 := k₉.trans j9
  have j7 := k₈.trans j8
  have j6 := k₇.trans j7
  have j5 := k₆.trans j6
  have j4 := k₅.trans j5
  have j3 := k₄.trans j4
  have j2 := k₃.trans j3
  have j1 := k₂.trans j2
  have i1 := k₁
  have i2 := i1.trans k₂
  have i3 := i2.trans k₃
  have i4 := i3.trans k₄
  have i5 := i4.trans k₅
  have i6 := i5.trans k₆
  have i7 := i6.trans k₇
  have i8 := i7.trans k₈
  have i9 := i8.trans k₉
  have iA := i9.trans kA
  have iB := iA.trans kB
  have iC := iB.trans kC
  refine k _ hD tkD ⟨⟨_, XD⟩, iC.trans kD, fun y hy => ?_, ⟨tn, rfl⟩, ⟨bs, n, S, rfl, SetOf.kp hset j1 nb, hSb⟩, ⟨d, M, rfl, dS, MapOf.kp hM j3 nd, hMB⟩, ?_⟩
  · simp only [newL, List.mem_cons, List.not_mem_nil, or_false, not_or] at hy
    obtain ⟨a1, a2, a3, a4, a5, a6, a7, a8, a9, a10, a11, a12, a13⟩ := hy
    simp only [a1, a2, a3, a4, a5, a6, a7, a8, a9, a10, a11, a12, a13, if_false]
  · intro p hp
    simp only [defsL, List.mem_cons, List.not_mem_nil, or_false] at hp
    rcases hp with rfl | rfl | rfl | rfl | rfl | rfl | rfl | rfl | rfl | rfl
    · exact ⟨f5, c5, P5, rfl, F5.kp j2, i1.none hP5 F5.nP⟩
    · exact ⟨f7, c7, P7, rfl, F7.kp j4, i3.none hP7 F7.nP⟩
    · exact ⟨f9, c9, P9, rfl, F9.kp j6, i5.none hP9 F9.nP⟩
    · exact ⟨f10, c10, P10, rfl, F10.kp j7, i6.none hP10 F10.nP⟩
    · exact ⟨f11, c11, P11, rfl, F11.kp j8, i7.none hP11 F11.nP⟩
    · exact ⟨f12, c12, P12, rfl, F12.kp j9, i8.none hP12 F12.nP⟩
    · exact ⟨f13, c13, P13, rfl, F13.kp jA, i9.none hP13 F13.nP⟩
    · exact ⟨f14, c14, P14, rfl, F14.kp jB, iA.none hP14 F14.nP⟩
    · exact ⟨f15, c15, P15, rfl, F15.kp jC, iB.none hP15 F15.nP⟩
    · exact ⟨f16, c16, P16, rfl, F16, iC.none hP16 F16.nP⟩
end
end Mine
end
/-! ## Hh -/
section
open PySem PySem.W PyProof.Rows PySem.Calls
namespace Mine
theorem open_is : opening pr = plainProg pr.main.scope.names := by kernel_rfl
theorem behind_is : behindTheImports pr = pr.main.body := by kernel_rfl
theorem S0_abs (w : World) (os : OsState) : (S0T w os).abs = ⟨boot_heap w.params, #[], boot_drawn, boot_toks, os⟩ := by kernel_rfl
theorem s0_is (w : World) : (∃ s, AfterRun (opening pr) w s) ∧ ∀ s, AfterRun (opening pr) w s → fenceModules? pr s = some s ∧ s.asleep ∧ ∃ os, s = (S0T w os).abs := by
  have f : ∀ s, fenceModules? pr s = some s := fun s => rfl
  have b := boot_open (N := 600) open_is (by decide) f w
  obtain ⟨s₀, h1, e⟩ := Option.map_eq_some_iff.mp b
  unfold fencedOpening at h1
  obtain ⟨s, h4, h5⟩ := Option.bind_eq_some_iff.mp h1
  rw [f s] at h5
  cases h5
  rw [← table_eq_tree] at h4
  have A := AfterImport.of_importEnds h4
  refine ⟨⟨s₀, A⟩, fun s' hs' => ?_⟩
  rw [AfterImport.unique hs' A]
  refine ⟨f _, A.life, s₀.os, ?_⟩
  rw [S0_abs]
  obtain ⟨hp, gs, d, k, os⟩ := s₀
  simp only [Prod.mk.injEq] at e
  obtain ⟨rfl, rfl, rfl, rfl⟩ := e
  rfl
theorem block_is : blockStart (behindTheImports pr) menv = pure () := by kernel_rfl
theorem body_is : denote treeTable mcode = (execs (pr.main.body.take 4 ++ pr.main.body.drop 4) menv).wrap doneF (leaveH menv) id id := by
  unfold mcode
  rw [body_wrap, block_is, behind_is, List.take_append_drop]
  rfl
structure At4 (w : World) (T : SharedT) : Prop where
  n : T.n = 64
  gens : T.gens = #[]
  g2 : T.tree.get 2 = some { cls := .none, data := .dict #[] }
  g3 : T.tree.get 3 = some (o3 w.params)
  g58 : T.tree.get 58 = some (o58 w.params)
  g59 : T.tree.get 59 = some o59
  g35 : T.tree.get 35 = some (fo "__init__" "_netrclex.__init__" 0 34)
  g42 : T.tree.get 42 = some (fo "_read_char" "_netrclex._read_char" 1 41)
  g49 : T.tree.get 49 = some (fo "get_token" "_netrclex.get_token" 2 48)
  g34 : q1 (T.tree.get 34) = some (.str "_netrclex.__init__" 209)
  g41 : q1 (T.tree.get 41) = some (.str "_netrclex._read_char" 217)
  g48 : q1 (T.tree.get 48) = some (.str "_netrclex.get_token" 225)
  g12 : T.tree.get 12 = some o12
  g13 : T.tree.get 13 = some o13
theorem top_part1 (w : World) (os : OsState) (z : (S0T w os).abs.asleep) : ∃ T4 : SharedT, At4 w T4 ∧ Gx w (S0T w os).abs (topStub pr) T4.abs ⟨(execs (pr.main.body.drop 4) menv).wrap doneF (leaveH menv) id id, mcode, ⟨48, 0, 48, 8⟩, [topFrame default]⟩ := by
  obtain ⟨⟨T1, t1⟩, e1, e2⟩ := Option.map_eq_some_iff.mp (run1 w os)
  have r4 := run4 w os
  rw [e1] at r4
  obtain ⟨⟨fl, T4, c4, p4⟩, e3, e4⟩ := Option.map_eq_some_iff.mp r4
  simp only [Prod.mk.injEq] at e2
  obtain ⟨-, rfl⟩ := e2
  have g1 := goT_spec z e1
  have z1 := g1.asleep z
  simp only [obs, Prod.mk.injEq, List.cons.injEq] at e4
  obtain ⟨rfl, ⟨rfl, rfl⟩, a1, a2, ⟨a3, a4, a5, a6, a7, a8, a9, -⟩, ⟨a10, a11, a12, -⟩, a13, a14⟩ := e4
  refine ⟨T4, ⟨a1, a2, a3, a4, a5, a6, a7, a8, a9, a10, a11, a12, a13, a14⟩, g1.trans ?_⟩
  have sr := segRun_of e3
  rw [← table_eq_tree] at sr
  rw [body_is, execs_app_wrap]
  obtain ⟨a, ha, g⟩ := seg_sched (w := w) (res := id) (K' := fun f => match f with | .next => (execs (pr.main.body.drop 4) menv).wrap doneF (leaveH menv) id id | f => doneF f) (H' := leaveH menv) (gd := id) (lv := id) (B := [topFrame default]) rfl 372 T1.abs (piecesOf (pr.main.body.take 4) menv mcode default [topFrame default])
    ⟨(execs (pr.main.body.take 4) menv).wrap (fun f => match f with | .next => (execs (pr.main.body.drop 4) menv).wrap doneF (leaveH menv) id id | f => doneF f) (leaveH menv) id id, mcode, default, [topFrame default]⟩ _ _ _ _ z1 ⟨rfl, rfl, .inl ⟨rfl, rfl, _, rfl, rfl⟩⟩ sr
  obtain rfl : a = .next := ha
  exact g
end Mine
end
/-! ## Hi -/
section
open PySem PySem.W PyProof.Rows PySem.Calls
namespace Mine
/-! what the heap before statement 4 holds -/
def m4 (P : Params) : Str → Option Value := nsFind (match (o3 P).data with | .dict es _ => es | _ => #[])
def mN4 (P : Params) : Str → Option Value := nsFind (match (o58 P).data with | .dict es _ => es | _ => #[])
theorem T4get {w : World} {T : SharedT} (X : At4 w T) {a : Nat} {o : Obj} (ha : Nat.blt a 64 = true) (g : T.tree.get a = some o) (ho : o.isFreed = false) : T.abs.heap.get? a = some o := by
  have ha : a < 64 := Nat.le_of_ble_eq_true ha
  have := abs_get (life := T.life) (n := T.n) (a := a) (by rw [X.n]; exact ha) g
  refine this.trans ?_
  obtain ⟨c, d, dt, sl⟩ := o
  cases dt <;> first | rfl | cases ho
theorem q1_get {o : Option Obj} {v : Value} (e : q1 o = some v) : ∃ ob vs, o = some ob ∧ ob.data = .fields vs ∧ vs[1]? = some v := by
  unfold q1 at e
  split at e
  · exact ⟨_, _, rfl, rfl, e⟩
  · cases e
structure F4 (P : Params) (h : Heap) : Prop where
  g2 : h.get? (2 : Addr) = some { cls := .none, data := .dict #[] }
  g3 : h.get? (3 : Addr) = some (o3 P)
  g12 : h.get? (12 : Addr) = some o12
  g13 : h.get? (13 : Addr) = some o13
  g58 : h.get? (58 : Addr) = some (o58 P)
  g59 : h.get? (59 : Addr) = some o59
  g35 : h.get? (35 : Addr) = some (fo "__init__" "_netrclex.__init__" 0 34)
  g42 : h.get? (42 : Addr) = some (fo "_read_char" "_netrclex._read_char" 1 41)
  g49 : h.get? (49 : Addr) = some (fo "get_token" "_netrclex.get_token" 2 48)
  g34 : h.CodeRec (.ref 34) "_netrclex.__init__"
  g41 : h.CodeRec (.ref 41) "_netrclex._read_char"
  g48 : h.CodeRec (.ref 48) "_netrclex.get_token"
theorem T4code {w : World} {T : SharedT} (X : At4 w T) {a : Nat} {q : Str} {t : Tok} (ha : Nat.blt a 64 = true) (g : q1 (T.tree.get a) = some (.str q t)) : T.abs.heap.CodeRec (.ref a) q := by
  obtain ⟨ob, vs, e1, e2, e3⟩ := q1_get g
  exact ⟨a, ob, vs, t, rfl, T4get X ha e1 (by obtain ⟨c, d, dt, sl⟩ := ob; dsimp only at e2; subst e2; rfl), e2, e3⟩
theorem F4.of {w : World} {T : SharedT} (X : At4 w T) : F4 w.params T.abs.heap :=
  ⟨T4get X rfl X.g2 rfl, T4get X rfl X.g3 rfl, T4get X rfl X.g12 rfl, T4get X rfl X.g13 rfl, T4get X rfl X.g58 rfl, T4get X rfl X.g59 rfl, T4get X rfl X.g35 rfl, T4get X rfl X.g42 rfl, T4get X rfl X.g49 rfl, T4code X rfl X.g34, T4code X rfl X.g41, T4code X rfl X.g48⟩
theorem sdKeys (P : Params) (l : List (Str × Tok × Value)) : StrKeys (l.map fun t => sd P t.1 t.2.1 t.2.2).toArray := by
  intro e he
  obtain ⟨t, _, rfl⟩ := List.mem_map.mp (List.mem_toArray.mp he)
  exact ⟨_, _, rfl⟩
theorem F4.ns3 {P : Params} {h : Heap} (F : F4 P h) : h.Ns (3 : Addr) (m4 P) :=
  ⟨_, _, _, F.g3, rfl, sdKeys P [("__name__", 165, .str "cpy313.stringprep" 254), ("__doc__", 166, .none), ("__package__", 167, .none), ("__loader__", 168, .builtin "__main__.__loader__#opaque"), ("__spec__", 169, .none),
    ("__annotations__", 170, .ref 6), ("__builtins__", 171, .ref 4), ("__file__", 173, .str "/claim/cut.py" 172), ("__cached__", 174, .none), ("_wall", 193, .ref 21), ("_netrclex", 253, .ref 59)], fun _ => rfl⟩
/-- the class's part -/
structure F5 (P : Params) (h : Heap) : Prop where
  g58 : h.get? (58 : Addr) = some (o58 P)
  g59 : h.get? (59 : Addr) = some o59
  g35 : h.get? (35 : Addr) = some (fo "__init__" "_netrclex.__init__" 0 34)
  g42 : h.get? (42 : Addr) = some (fo "_read_char" "_netrclex._read_char" 1 41)
  g49 : h.get? (49 : Addr) = some (fo "get_token" "_netrclex.get_token" 2 48)
  g34 : h.CodeRec (.ref 34) "_netrclex.__init__"
  g41 : h.CodeRec (.ref 41) "_netrclex._read_char"
  g48 : h.CodeRec (.ref 48) "_netrclex.get_token"
theorem CodeRec.minus {h : Heap} {c : Addr} {q : Str} {Dl : List Addr} (x : h.CodeRec (.ref c) q) (hc : c ∉ Dl) : (Mine.minus h Dl).CodeRec (.ref c) q := by
  obtain ⟨c₂, o, vs, t, e2, e3, r⟩ := x
  cases e2
  exact ⟨c, o, vs, t, rfl, get_minus_of e3 hc, r⟩
theorem F4.minus {P : Params} {h : Heap} (F : F4 P h) : F5 P (Mine.minus h [3, 12]) :=
  ⟨get_minus_of F.g58 (by decide), get_minus_of F.g59 (by decide), get_minus_of F.g35 (by decide), get_minus_of F.g42 (by decide), get_minus_of F.g49 (by decide), CodeRec.minus F.g34 (by decide), CodeRec.minus F.g41 (by decide), CodeRec.minus F.g48 (by decide)⟩
theorem F5.ns58 {P : Params} {h : Heap} (F : F5 P h) : h.Ns (58 : Addr) (mN4 P) :=
  ⟨_, _, _, F.g58, rfl, sdKeys P [("__module__", 203, .str "cpy313.netrc" 194), ("__firstlineno__", 207, .int 5 206), ("__init__", 215, .ref 35), ("_read_char", 223, .ref 42), ("get_token", 233, .ref 49), ("push_token", 241, .ref 56),
    ("__static_attributes__", 246, .ref 57), ("__dict__", 248, .ref 60), ("__weakref__", 250, .ref 61), ("__doc__", 251, .none)], fun _ => rfl⟩
theorem F5.kl {P : Params} {h : Heap} (F : F5 P h) : Kl h 59 58 (mN4 P) 35 42 49 := by
  refine ⟨⟨⟨_, _, _, _, _, _, _, _, _, _, _, _, F.g59⟩, F.ns58⟩, ?_, ?_, ?_, ?_, ⟨_, _, _, _, F.g35, rfl, rfl, F.g34⟩, ⟨_, _, _, _, F.g42, rfl, rfl, F.g41⟩, ⟨_, _, _, _, F.g49, rfl, rfl, F.g48⟩⟩
  · intro n hn
    simp only [anames, List.mem_cons, List.not_mem_nil, or_false] at hn
    rcases hn with rfl | rfl | rfl | rfl | rfl | rfl | rfl | rfl <;> kernel_rfl
  · kernel_rfl
  · kernel_rfl
  · kernel_rfl
end Mine
end
/-! ## Hj -/
section
open PySem PySem.W PyProof.Rows PySem.Calls
namespace Mine
def ps4 : Array Value := #[rawInt 1, rawInt 0, .ref 20, rawInt 5, rawInt 0, .ref 27]
theorem boot4 (P : Params) : (boot_heap P).get? (4 : Addr) = some { cls := .type "module", dict := some 0 } := by kernel_rfl
theorem boot0ns (P : Params) : (boot_heap P).isNs builtinsNs = true := by kernel_rfl
theorem boot0v (P : Params) : (boot_heap P).bltView = bltViewBooted := by kernel_rfl
theorem boot1 (P : Params) : ((boot_heap P).get? sysModules).isSome = true := by kernel_rfl
theorem boot2 (P : Params) : (boot_heap P).get? cStatics = some { cls := .none, data := .dict #[] } := by kernel_rfl
theorem bootsz (P : Params) : (boot_heap P).objs.size = 11 := by kernel_rfl
theorem md4 {P : Params} {h : Heap} (F : F4 P h) (fr : ∀ (b : Addr) o, b < 11 → b ≠ mainNs → b ≠ cStatics → b ≠ 6 → (boot_heap P).get? b = some o → h.get? b = some o) : Md (m4 P) ps4 h := by
  refine ⟨F.ns3, F.g12, ?_, ⟨o13, _, _, _, _, _, _, _, _, F.g13, rfl, rfl, rfl, rfl, rfl, rfl, rfl, rfl, by decide⟩, by kernel_rfl, fr 4 _ (by decide) (by decide) (by decide) (by decide) (boot4 P), ?_⟩
  · exact trivial
  · have X := Heap.Ns.of_isNs (boot0ns P)
    refine ⟨(boot_heap P).nsMap builtinsNs, ?_, fun x hx => Heap.of_bltView (boot0ns P) (boot0v P) x hx⟩
    obtain ⟨o, es, ep, e, r⟩ := X
    exact ⟨o, es, ep, fr 0 _ (by decide) (by decide) (by decide) (by decide) e, r⟩
theorem m4none (P : Params) : ∀ x ∈ (["set", "list", "range"] : List Str), m4 P x = none := by
  intro x hx
  simp only [List.mem_cons, List.not_mem_nil, or_false] at hx
  rcases hx with rfl | rfl | rfl <;> kernel_rfl
def A0 : Around := { depth := 100 + claimMargin, units := 50 }
theorem g0_in : (Ctx.of mcode [topFrame default]).In A0 := by
  refine ⟨rfl, ?_, fun l hl => (nomatch hl), fun g hg => (nomatch hg), ?_⟩
  · show frameCount [(Code.builtin "claim.caller" {}, default)] + mcode.weight ≤ 100 + claimMargin
    decide +kernel
  · show Ctx.units _ ≤ 50
    decide +kernel
theorem wrap_is (l : List Stmt) : (execs l menv).wrap doneF (leaveH menv) id id = ((execs l menv).onRaise (leaving menv)).bind fun f => (Sem.pure (Fin.done f) : Sem Fin) := by
  rw [Sem.bind_eq_wrap, Sem.onRaise_eq_wrap, Sem.wrap_wrap]
  rfl
theorem top_part2 {w : World} {P : Params} {s : Shared} (F : F4 P s.heap) (hg : s.gens = #[]) (z : s.asleep) (fr : ∀ (b : Addr) o, b < 11 → b ≠ mainNs → b ≠ cStatics → b ≠ 6 → (boot_heap P).get? b = some o → s.heap.get? b = some o) (pos : Pos) :
    ∃ m' h' tk' n τ, schedN (denote table) pr w n (.single s ⟨(execs (pr.main.body.drop 4) menv).wrap doneF (leaveH menv) id id, mcode, pos, [topFrame default]⟩) = .running (.single ⟨h', #[], s.drawn, tk', s.os⟩ τ) ∧ through τ = true ∧ TopDone w (m4 P) m' s.heap h' ∧ h'.life = s.heap.life := by
  have hS : ∃ o, s.heap.get? sysModules = some o := by
    obtain ⟨o, e⟩ := Option.isSome_iff_exists.mp (boot1 P)
    exact ⟨o, fr 1 o (by decide) (by decide) (by decide) (by decide) e⟩
  obtain ⟨h, gens, D, tk, O⟩ := s
  dsimp only at F hg fr hS ⊢
  subst hg
  have wp := rest_spec (w := w) (A := A0) (Q := fun f s' => f = .next ∧ ∃ m' h' tk', s' = ⟨h', #[], D, tk', O⟩ ∧ TopDone w (m4 P) m' h h') (tk := tk) (D := D) (O := O) (G := #[]) rfl (md4 F fr) ⟨by decide, by decide, trivial⟩ hS (m4none P) fun m' h' tk' td => ⟨rfl, m', h', tk', rfl, td⟩
  have wp2 : wpAny (model pr w) A0 (((execs (pr.main.body.drop 4) menv).onRaise (leaving menv)).bind fun f => (Sem.pure (Fin.done f) : Sem Fin)) (fun fin s' => fin = .done .next ∧ ∃ m' h' tk', s' = ⟨h', #[], D, tk', O⟩ ∧ TopDone w (m4 P) m' h h') (fun _ _ => False) ⟨h, #[], D, tk, O⟩ := by
    refine wpAny_bind (wpAny_onRaise (wpAny_mono wp.any (fun f s' q => ?_) fun _ _ e => e.elim))
    obtain ⟨rfl, q⟩ := q
    exact wpAny_pure ⟨rfl, q⟩
  rw [wrap_is]
  obtain ⟨s', p', leaf, hc, hl⟩ := wp_comes (Ctx.fits_of mcode [topFrame default]) _ _ _ pos _ (wp2 _ pos g0_in)
  obtain ⟨n, σ, τ, hn, f1, f2, hlife⟩ := comes_sched (w := w) z hc
  rcases hl with ⟨a, rfl, rfl, m', h', tk', rfl, td⟩ | ⟨e, _, hF⟩
  · obtain rfl := Shared.eq_of_forget_eq f1 rfl
    obtain ⟨cur, code, ps, st⟩ := τ
    simp only [Thread.forget, Thread.mk.injEq] at f2
    obtain ⟨rfl, rfl, rfl, f2⟩ := f2
    have hst : ∃ kept, st = [.ret topAfter none false [] (.builtin "claim.caller" {}) default kept] := by
      cases st with
      | nil => cases f2
      | cons fr rest =>
        cases rest with
        | cons _ _ => exact absurd (congrArg List.length f2) (by unfold forgetAll; rw [List.length_map, List.length_map]; exact fun q => by simp at q)
        | nil =>
          cases fr with
          | gen _ _ _ _ _ => cases f2
          | ret k h g l c p kept => cases f2; exact ⟨kept, rfl⟩
    obtain ⟨kept, rfl⟩ := hst
    have z' : Shared.asleep ⟨h', #[], D, tk', O⟩ := Shared.asleep_of_life hlife z
    have st := Gx.one (w := w) (s := ⟨h', #[], D, tk', O⟩) (t := ⟨.pure (.done .next), mcode, ps, [.ret topAfter none false [] (.builtin "claim.caller" {}) default kept]⟩) z' rfl rfl
    obtain ⟨m, hm⟩ := st.run
    exact ⟨m', h', tk', n + m, _, schedN_add hn hm, rfl, td, hlife⟩
  · exact hF.elim
end Mine
end
/-! ## Hl -/
section
open PySem PySem.W PyProof.Rows PySem.Calls
namespace Mine
theorem bootAnn (P : Params) : globalOf (boot_heap P) "__annotations__" = some (.ref 6) := by kernel_rfl
theorem bootLaid (P : Params) : laidNames.map (globalOf (boot_heap P)) = laidNames.map (m4 P) := by kernel_rfl
theorem m4keys (P : Params) {x : Str} {v : Value} (h : m4 P x = some v) : x ∈ startupNames ∨ x ∈ pr.boundNames := by
  have F : (h : Heap) → h.get? (3 : Addr) = some (o3 P) → h.nsMap (3 : Addr) x = some v → x ∈ startupNames ∨ x ∈ pr.boundNames := by
    intro hp e hv
    by_cases hx : x ∈ hp.nsKeys (3 : Addr)
    · have ek : hp.nsKeys (3 : Addr) = (["__name__", "__doc__", "__package__", "__loader__", "__spec__", "__annotations__", "__builtins__", "__file__", "__cached__", "_wall", "_netrclex"] : List Str) := by
        unfold Heap.nsKeys; rw [e]; rfl
      rw [ek] at hx
      have all : (["__name__", "__doc__", "__package__", "__loader__", "__spec__", "__annotations__", "__builtins__", "__file__", "__cached__", "_wall", "_netrclex"] : List Str).all (fun x => startupNames.contains x || pr.boundNames.contains x) = true := by kernel_rfl
      have := List.all_eq_true.mp all x hx
      simpa only [Bool.or_eq_true, List.contains_iff_mem] using this
    · rw [Heap.nsMap_none hx] at hv; cases hv
  refine F ⟨#[gone, gone, gone, o3 P], {}⟩ rfl ?_
  exact h
theorem newBound : newL.all (fun x => startupNames.contains x || pr.boundNames.contains x) = true := by kernel_rfl
theorem theDef_is : pr.theDef "law" = some (fnAt 16) := by kernel_rfl
theorem law_dflt : (fnAt 16).1.defaults = [] ∧ kwWritten? (fnAt 16).1.kwonlyargs (fnAt 16).1.kw_defaults = some [] := ⟨by kernel_rfl, by kernel_rfl⟩
theorem imp_is : importedModules pr.main.body = [] := by kernel_rfl
structure Tops (w : World) (s₀ s₁ : Shared) (m' : Str → Option Value) (h4 : Heap) : Prop where
  ran : TopRan pr w s₀ s₁
  gens : s₁.gens = #[]
  z : s₁.asleep
  f4 : F4 w.params h4
  td : TopDone w (m4 w.params) m' h4 s₁.heap
  pin : isTheDefsW pr s₁.heap "law"
  sys : ∃ o, s₁.heap.get? sysModules = some o
theorem top_all (w : World) (os : OsState) (z : (S0T w os).abs.asleep) : ∃ s₁ m' h4, Tops w (S0T w os).abs s₁ m' h4 := by
  obtain ⟨T4, X, g⟩ := top_part1 w os z
  have F := F4.of X
  have hg : T4.abs.gens = #[] := X.gens
  have e0 : (S0T w os).abs.heap = boot_heap w.params := by rw [S0_abs]
  have fr : ∀ (b : Addr) o, b < 11 → b ≠ mainNs → b ≠ cStatics → b ≠ 6 → (boot_heap w.params).get? b = some o → T4.abs.heap.get? b = some o := fun b o h1 h2 h3 h4 e => g.fr b o h1 h2 h3 h4 (by rw [e0]; exact e)
  obtain ⟨m', h', tk', n, τ, hn, ht, td, hlife⟩ := top_part2 (w := w) F hg (g.asleep z) fr ⟨48, 0, 48, 8⟩
  obtain ⟨k, hk⟩ := g.run
  obtain ⟨ps', md⟩ := td.md
  have l1 : h'.life = (S0T w os).abs.heap.life := hlife.trans g.life
  have g2 : h'.get? cStatics = some { cls := .none, data := .dict #[] } := td.kp 2 _ (by decide) (by decide) F.g2
  have st1 : ∀ key, staticOf h' key = none := fun key => by unfold staticOf; rw [g2]; simp
  have glob : ∀ x, globalOf h' x = m' x := fun x => Claim2Try.globalOf_of_ns md.ns x
  refine ⟨⟨h', #[], T4.abs.drawn, tk', T4.abs.os⟩, m', T4.abs.heap, ⟨⟨⟨k + n, τ, schedN_add hk hn, ht⟩, l1, Shared.rest_eq g.os, ?_, ?_, ?_, ?_, ?_, ?_, fun gg hgg => by simp at hgg, ?_, ?_⟩, rfl, Shared.asleep_of_life (s := (S0T w os).abs) l1 z, F, td, ?_, ?_⟩⟩
  · intro b o e hb
    rw [e0] at e
    have hlt : @LT.lt Nat _ b 11 := by rw [← bootsz w.params]; exact Heap.lt_size e
    have n3 : b ≠ mainNs := fun q => hb (.inl q)
    have n2 : b ≠ cStatics := fun q => hb (.inr (.inl q))
    have n6 : b ≠ 6 := fun q => hb (.inr (.inr (by rw [e0, bootAnn, q])))
    exact td.kp b o n3 (Nat.ne_of_lt (Nat.lt_trans hlt (by decide))) (fr b o hlt n3 n2 n6 e)
  · intro key v hv
    rw [st1 key] at hv; cases hv
  · intro key
    left
    rw [st1 key, e0]
    unfold staticOf; rw [boot2]; simp
  · obtain ⟨o, es, ep, e, hd, sk, _⟩ := md.ns
    exact ⟨o, es, ep, e, hd, sk⟩
  · obtain ⟨mb, hb, he⟩ := md.bl
    intro x hx
    exact (Pin.builtinOf_of_ns hb x).trans (he x hx)
  · exact ⟨4, _, (glob _).trans md.bm, md.b4, rfl, rfl⟩
  · intro x v hv
    rw [glob] at hv
    by_cases hx : x ∈ newL
    · have := List.all_eq_true.mp newBound x hx
      simpa only [Bool.or_eq_true, List.contains_iff_mem] using this
    · rw [td.old x hx] at hv
      exact m4keys w.params hv
  · intro x hx
    rw [glob, e0, td.old x (by
      have : laidNames.all (fun x => !newL.contains x) = true := by kernel_rfl
      have := List.all_eq_true.mp this x hx
      simpa using this)]
    have := bootLaid w.params
    have key : ∀ l : List Str, l.map (globalOf (boot_heap w.params)) = l.map (m4 w.params) → ∀ x ∈ l, m4 w.params x = globalOf (boot_heap w.params) x := by
      intro l
      induction l with
      | nil => intro _ x hx; cases hx
      | cons a r ih =>
        intro e x hx
        rw [List.map_cons, List.map_cons] at e
        injection e with e1 e2
        rcases List.mem_cons.mp hx with rfl | hx
        · exact e1.symm
        · exact ih e2 x hx
    exact key laidNames this x hx
  · obtain ⟨f, c, P, hm, FRl, _⟩ := td.fs (16, "law") (by decide)
    obtain ⟨pm, doc, e⟩ := FRl.fn
    exact ⟨f, _, _, (fnAt 16).1, (fnAt 16).2.1, (fnAt 16).2.2, (glob _).trans hm, e, rfl, theDef_is, rfl, rfl, rfl, rfl, rfl, rfl, rfl, rfl, .inl ⟨law_dflt.1, rfl⟩, [], law_dflt.2, .inl ⟨rfl, rfl⟩⟩
  · obtain ⟨o, e⟩ := Option.isSome_iff_exists.mp (boot1 w.params)
    exact ⟨o, td.kp 1 o (by decide) (by decide) (fr 1 o (by decide) (by decide) (by decide) (by decide) e)⟩
end Mine
end
/-! ## Hm -/
section
open PySem PySem.W PyProof.Rows PySem.Calls
namespace Mine
theorem minus1 {h : Heap} {P b : Addr} {o : Obj} (hP : h.get? P = some (tabObj #[])) (e : h.get? b = some o) (ne : o ≠ tabObj #[]) : (minus h [P]).get? b = some o := by
  refine get_minus_of e fun hm => ?_
  rw [List.mem_singleton] at hm
  rw [hm, hP] at e
  cases e
  exact ne rfl
theorem FR.toFn {h : Heap} {P f c P' : Addr} {i : Nat} {x : Str} {m : Str → Option Value} (hP : h.get? P = some (tabObj #[])) (F : FR h i x f c P') (hm : m x = some (.ref f)) : FnC (minus h [P]) m i x f c := by
  obtain ⟨⟨pm, doc, e⟩, ⟨c₂, o, vs, t, e2, e3, e4, e5⟩, hd, tb, nf, nc, nP⟩ := F
  cases e2
  refine ⟨hm, _, pm, doc, minus1 hP e (fun q => by cases q), rfl, c, o, vs, t, rfl, minus1 hP e3 (fun q => ?_), e4, e5⟩
  rw [q] at e4
  cases e4
  cases e5
theorem boot_fn : ((["chr", "len", "sum", "ord", "iter", "isinstance"] : List String).all fun x => bootBuiltins (Str.ofString x) == some (.builtin x)) = true := by kernel_rfl
theorem boot_ty : ((["range", "bool"] : List String).all fun x => bootBuiltins (Str.ofString x) == some (.type x)) = true := by kernel_rfl
theorem no_names (P : Params) : ((["chr", "len", "range", "sum", "ord", "iter", "isinstance", "bool"] : List Str).all fun x => !newL.contains x && (m4 P x).isNone) = true := by kernel_rfl
theorem topF_of {w : World} {s₀ s : Shared} {m' : Str → Option Value} {h4 h1 : Heap} (TT : Tops w s₀ s m' h4) (keeps : Sub s.heap h1) : ∃ mb P f c, TopF w m' mb (minus h1 [P]) P ∧ FnC (minus h1 [P]) m' 16 "law" f c ∧ h1.get? P = some (tabObj #[]) ∧ isCodeTable h1 P := by
  obtain ⟨ps', md⟩ := TT.td.md
  obtain ⟨mb, hb, hbe⟩ := md.bl
  obtain ⟨f9, c9, P, hm9, F9, hP9⟩ := TT.td.fs (9, "_law_stream") (by decide)
  have hPs : s.heap.get? P = some (tabObj #[]) := F9.tb
  have hP := keeps _ _ hPs
  have md1 : Md m' ps' h1 := md.ext keeps
  have fn : ∀ (i : Nat) (x : Str), (i, x) ∈ defsL → ∃ f c, FnC (minus h1 [P]) m' i x f c := fun i x hp => by
    obtain ⟨f, c, P', hm, FF, _⟩ := TT.td.fs (i, x) hp
    obtain ⟨⟨pm, doc, e⟩, cr, hd, tb, nf, nc, nP⟩ := FF
    exact ⟨f, c, FR.toFn hP ⟨⟨pm, doc, keeps _ _ e⟩, cr.keeps keeps, hd.keeps keeps, keeps _ _ tb, nf, nc, nP⟩ hm⟩
  have k4 : Sub (minus h4 [3, 12]) (minus h1 [P]) := fun b o e => by
    have hb : b ∉ ([3, 12] : List Addr) := fun hm => by rw [get_minus_in hm] at e; cases e
    have e4 := minus_sub _ _ _ _ e
    simp only [List.mem_cons, List.not_mem_nil, or_false, not_or] at hb
    have e1 := keeps _ _ (TT.td.kp b o hb.1 hb.2 e4)
    refine get_minus_of e1 fun hm => ?_
    rw [List.mem_singleton] at hm
    rw [hm, hP9] at e4
    cases e4
  have ns : ∀ {a : Addr} {m : Str → Option Value}, h1.Ns a m → (minus h1 [P]).Ns a m := fun x => by
    obtain ⟨o, es, ep, e, hd, r⟩ := x
    exact ⟨o, es, ep, minus1 hP e (fun q => by rw [q] at hd; cases hd), hd, r⟩
  have o2 : h1.get? cStatics = some { cls := .none, data := .dict #[] } := keeps _ _ (TT.td.kp 2 _ (by decide) (by decide) TT.f4.g2)
  have noN : ∀ x ∈ (["chr", "len", "range", "sum", "ord", "iter", "isinstance", "bool"] : List Str), m' x = none := fun x hx => by
    have := List.all_eq_true.mp (no_names w.params) x hx
    rw [Bool.and_eq_true] at this
    rw [TT.td.old x (by simpa using this.1)]
    simpa using this.2
  obtain ⟨f5, c5, g5⟩ := fn 5 "in_table_b1" (by decide)
  obtain ⟨f7, c7, g7⟩ := fn 7 "map_table_b3" (by decide)
  obtain ⟨f9', c9', g9⟩ := fn 9 "_law_stream" (by decide)
  obtain ⟨f10, c10, g10⟩ := fn 10 "_law_sign" (by decide)
  obtain ⟨f11, c11, g11⟩ := fn 11 "_law_words" (by decide)
  obtain ⟨f12, c12, g12⟩ := fn 12 "_law_marks" (by decide)
  obtain ⟨f13, c13, g13⟩ := fn 13 "_law_parts" (by decide)
  obtain ⟨f14, c14, g14⟩ := fn 14 "_law_file" (by decide)
  obtain ⟨f15, c15, g15⟩ := fn 15 "_law_reads" (by decide)
  obtain ⟨f16, c16, g16⟩ := fn 16 "law" (by decide)
  have hd9 : CodeHd h1 c9 P := F9.hd.keeps keeps
  have s9 : FnC (minus h1 [P]) m' 9 "_law_stream" f9 c9 := by
    obtain ⟨⟨pm, doc, e⟩, cr, hd, tb, nf, nc, nP⟩ := F9
    exact FR.toFn hP ⟨⟨pm, doc, keeps _ _ e⟩, cr.keeps keeps, hd.keeps keeps, keeps _ _ tb, nf, nc, nP⟩ hm9
  refine ⟨mb, P, f16, c16, ⟨⟨ns md1.ns, ns (hb.keeps keeps), ⟨fun _ => none, ns ⟨_, _, _, o2, rfl, fun e he => by simp at he, fun _ => by simp [nsFind, findBy]⟩, rfl⟩⟩,
    ⟨f5, g5.fn⟩, ⟨f7, g7.fn⟩, ⟨f9, c9, s9, ?_⟩, ⟨f10, g10.fn⟩, ⟨f11, g11.fn⟩, ⟨f12, g12.fn⟩, ⟨f13, g13.fn⟩, ⟨f14, c14, g14⟩, ⟨f15, g15.fn⟩, ⟨59, 58, _, 35, 42, 49, TT.f4.minus.kl.sub k4, ?_⟩, ?_, fun q => F9.nP.1 q.symm, noN, ?_, ?_, ?_, ?_⟩, g16, hP, ?_⟩
  · obtain ⟨o, vs, file, tf, flags, tg, inF, text, tt, e, hc, r⟩ := hd9
    exact ⟨o, vs, file, tf, flags, tg, inF, text, tt, minus1 hP e (fun q => by rw [q] at hc; cases hc), hc, r⟩
  · rw [TT.td.old _ (by decide)]; kernel_rfl
  · have b4 := md1.b4
    have n4 : (4 : Addr) ≠ P := fun q => by rw [q, hP] at b4; cases b4
    exact ⟨4, _, md.bm, by decide, by decide, n4, minus1 hP b4 (fun q => by cases q), rfl, rfl, rfl⟩
  · intro x hx
    have := List.all_eq_true.mp boot_fn x hx
    rw [hbe _ (fun q => ?_)]
    · exact eq_of_beq this
    · have h2 : ((["chr", "len", "sum", "ord", "iter", "isinstance"] : List String).all fun x => !(Str.ofString x == ("__name__" : Str))) = true := by kernel_rfl
      have := List.all_eq_true.mp h2 x hx
      rw [q] at this
      simp at this
  · intro x hx
    have := List.all_eq_true.mp boot_ty x hx
    rw [hbe _ (fun q => ?_)]
    · exact eq_of_beq this
    · have h2 : ((["range", "bool"] : List String).all fun x => !(Str.ofString x == ("__name__" : Str))) = true := by kernel_rfl
      have := List.all_eq_true.mp h2 x hx
      rw [q] at this
      simp at this
  · obtain ⟨bs, n, S, h1', h2', h3'⟩ := TT.td.b1
    refine ⟨bs, n, S, h1', ?_, h3'⟩
    obtain ⟨o, es, ep, tb, e, hx, hd, r⟩ := h2'
    exact ⟨o, es, ep, tb, minus1 hP (keeps _ _ e) (fun q => by rw [q] at hd; cases hd), hx, hd, r⟩
  · obtain ⟨d, M, h1', h2', h3', h4'⟩ := TT.td.b3
    refine ⟨d, M, h1', h2', ?_, h4'⟩
    obtain ⟨o, es, ep, e, hx, hd, r⟩ := h3'
    exact ⟨o, es, ep, minus1 hP (keeps _ _ e) (fun q => by rw [q] at hd; cases hd), hx, hd, r⟩
  · exact (hd9.tab hP).isCodeTable
end Mine
end
/-! ## Hn -/
section
open PySem PySem.W PyProof.Rows PySem.Calls
namespace Mine
def Plain : Prop := ∀ ws wl, (∀ x ∈ ws, WdOk x) → WdEnd wl → Chain (fileOf (ws ++ [wl])).tx 0 ((fileOf (ws ++ [wl])).rd ++ [([], (fileOf (ws ++ [wl])).tx.length), ([], (fileOf (ws ++ [wl])).tx.length)]) ∧
      Chain (preparedOf (fileOf (ws ++ [wl])).tx) 0 ((fileOf (ws ++ [wl])).td ++ [([], (preparedOf (fileOf (ws ++ [wl])).tx).length), ([], (preparedOf (fileOf (ws ++ [wl])).tx).length)])
abbrev rr : OpenRow := PySem.Challenge.rw_pk0103_01.row
theorem intsOf_of : ∀ {vs : List Value} {ns : List Int}, IntsAre vs ns → IntsOf vs ns
  | [], [], _ => ⟨rfl, fun i n h => by simp at h⟩
  | _, _, .cons n t h => ⟨by simp [(intsOf_of h).1], fun i m hi => by
      cases i with
      | zero => simp at hi; subst hi; exact ⟨t, rfl⟩
      | succ i => simpa using (intsOf_of h).2 i m (by simpa using hi)⟩
theorem room_caller : Room callerA 8 := ⟨by decide +kernel, by decide +kernel, rfl⟩
theorem rowHolds (pl : Plain) (said : rr.wellSaid = true) (hw : rr.toRowW.promised) : rr.Holds := by
  refine ⟨said, hw, ⟨⟨by exact ⟨rfl, rfl, rfl, rfl, rfl, by decide +kernel⟩, by kernel_rfl, rfl⟩, hw.witness, fun w => ⟨(s0_is w).1, fun s' hs' => ?_⟩⟩⟩
  obtain ⟨hf, z, os, rfl⟩ := (s0_is w).2 s' hs'
  obtain ⟨s, m', h4, TT⟩ := top_all w os z
  refine ⟨_, hf, rfl, s, TT.ran, fun n hn => ?_, fun x hx => (nomatch hx), fun x hx => (nomatch hx), ?_⟩
  · obtain rfl : n = "law" := by
      have : n ∈ (["law"] : List Str) := hn
      simpa using this
    exact TT.pin
  refine ClaimW.callFrom_of_specG (c := rr.toRowW.claim) TT.z TT.gens fun args hpre hlay ord hord => ?_
  have hgens := TT.gens
  obtain ⟨⟨vs, s₁⟩, hlaid⟩ := Option.isSome_iff_exists.mp (layAllW_isSome (cl := classAt s.heap) (P := w.params) (ord := ord) (R := rr.toRowW.records) (fun c hc => (nomatch hc)) args rr.toRowW.args s (pre_splitW (r := rr.toRowW) hpre).1)
  have keeps := layAllW_keeps _ _ _ hlaid
  have hal := layAllW_rest _ _ _ hlaid
  obtain ⟨as, hrd, hin, hold⟩ := reads_layAllW hord _ _ _ hlaid hlay s₁.heap (fun _ _ e => e)
  have L : Laid rr.toRowW.records w s s₁ args vs as := ⟨⟨ord, hord, hlaid⟩, hrd, hin, hold, keeps, hal.1.trans hgens, hal.2.2.1⟩
  refine ⟨vs, s₁, hlaid, ?_⟩
  have hwl := well_layAllW hord args s _ hlaid _ fun _ _ e => e
  have hlo : ∀ a ∈ as, (a == sysModules) = false := fun a ha => beq_eq_false_iff_ne.mpr fun e => by
    obtain ⟨o, e'⟩ := TT.sys
    have h1 : @LT.lt Nat _ sysModules s.heap.objs.size := Heap.lt_size e'
    have h2 := (hin.2.2 a ha).1
    rw [e] at h2
    exact absurd h1 (Nat.not_lt.mpr h2)
  wrow_args hpre hlay hrd hwl hlo
  rename_i ns hs0 hlay00 hL1 hr1 hl2 a1 a2 la vv a3 hlist ra r0 hI hr w1 hcond _
  obtain ⟨mb, P, f, c, TF, H, hP, hct⟩ := topF_of TT keeps
  obtain ⟨ps', md⟩ := TT.td.md
  have hns : s₁.heap.Ns mainGlobals m' := md.ns.keeps keeps
  have hi := ident_freeW (r := rr.toRowW) rfl rfl rfl
  obtain ⟨h1, gg, d1, k1, o1⟩ := s₁
  have hg1 : gg = #[] := L.gens
  subst hg1
  have main : wpAny (model pr w) callerA (call (.ref f) [.ref la]) (fun v s' => GoodWG rr.toRowW.claim (classAt s.heap) (ExcName.means s.heap) [ofPy (PyData.list (List.map PyData.int ns))] ⟨h1, #[], d1, k1, o1⟩ (.ok (.ret v)) s') (fun _ _ => False) ⟨h1, #[], d1, k1, o1⟩ := by
    refine (law_spec (h := h1) (G := #[]) (D := d1) (tk := k1) (O := o1) TF H ⟨_, hP, #[], rfl, trivial, rfl⟩ (get_minus_in (by simp)) (minus_sub _ _) room_caller hlist (intsOf_of hI) (by omega) pl fun c' h' tk' hs hP' => ?_).any
    refine ⟨.inl ⟨_, .bool true, [], rfl, fun _ => rfl, ReadsW.bool true, ?_, fun _ => ⟨List.nodup_nil, fun _ hm => (nomatch hm)⟩⟩, ⟨fun b o e => ?_, fun b o e => ?_⟩, rfl, AllBare.empty⟩
    · first | rfl | wrow_post
    · by_cases hb : b = P
      · subst hb
        rw [show h1.get? b = some (tabObj #[]) from hP] at e
        cases e
        obtain ⟨ob, e', ps, rfl, _⟩ := hP'
        exact .inr (.inl ⟨hct, rfl, #[], ps, rfl, by rw [Array.empty_append]; exact e'⟩)
      · exact .inl (hs _ _ (get_minus_of e (by simpa using hb)))
    · by_cases hb : b = P
      · subst hb
        obtain ⟨ob, e', _⟩ := hP'
        exact ⟨ob, e'⟩
      · exact ⟨o, hs _ _ (get_minus_of e (by simpa using hb))⟩
  refine wpAny_bind (wpAny_nsGet hns ?_)
  rw [show m' rr.name = some (.ref f) from H.nm]
  refine wpAny_bind (wpAny_mono main (fun v s' g => wpAny_pure ?_) fun _ _ e => e.elim)
  have zz := g.laid (c := rr.toRowW.claim) rfl rfl hi L
  exact ⟨_, rfl, zz.1, zz.2.1, zz.2.2, fun q => absurd q (by decide)⟩
end Mine
end
/-! ## Pl -/
section
namespace Mine
/-! the plain law: steps of the lexer -/
theorem quo_esc (d : Nat) (R acc : List Nat) : quo (92 :: d :: R) acc = quo R (acc ++ [d]) := by
  rw [quo_cons, if_neg (by decide)]; rfl
theorem quo_go {c : Nat} (h1 : c ≠ 34) (h2 : c ≠ 92) (R acc : List Nat) : quo (c :: R) acc = quo R (acc ++ [c]) := by
  rw [quo_cons, if_neg (by simpa using h1)]
  unfold esc
  rw [if_neg (by simpa using h2)]
theorem quo_end (R acc : List Nat) : quo (34 :: R) acc = (acc, R) := by rw [quo_cons, if_pos (by decide)]
theorem pla_esc (d : Nat) (R acc : List Nat) : pla (92 :: d :: R) acc = pla R (acc ++ [d]) := by
  rw [pla_cons, if_neg (by decide)]; rfl
theorem pla_go {c : Nat} (h1 : isW c = false) (h2 : c ≠ 92) (R acc : List Nat) : pla (c :: R) acc = pla R (acc ++ [c]) := by
  rw [pla_cons, if_neg (by simp [h1])]
  unfold esc
  rw [if_neg (by simpa using h2)]
theorem pla_white {c : Nat} (h : isW c = true) (R acc : List Nat) : pla (c :: R) acc = (acc, R) := by rw [pla_cons, if_pos h]
theorem tokn_esc (d : Nat) (R : List Nat) : tokn (92 :: d :: R) = pla R [d] := by
  rw [tokn_cons, if_neg (by decide), if_neg (by decide)]; rfl
theorem tokn_go {c : Nat} (h1 : isW c = false) (h2 : c ≠ 92) (h3 : c ≠ 34) (R : List Nat) : tokn (c :: R) = pla R [c] := by
  rw [tokn_cons, if_neg (by simp [h1]), if_neg (by simpa using h3)]
  unfold esc
  rw [if_neg (by simpa using h2)]
theorem tokn_white1 {c : Nat} (h : isW c = true) (R : List Nat) : tokn (c :: R) = tokn R := by rw [tokn_cons, if_pos h]
theorem tokn_quo (R : List Nat) : tokn (34 :: R) = quo R [] := by rw [tokn_cons, if_neg (by decide), if_pos (by decide)]
theorem tokn_white {W : List Nat} (h : ∀ c ∈ W, isW c = true) (X : List Nat) : tokn (W ++ X) = tokn X := by
  induction W with
  | nil => rfl
  | cons c r ih => rw [List.cons_append, tokn_white1 (h c (.head _)), ih fun d hd => h d (.tail _ hd)]
theorem wh_isW {c : Nat} (h : wh c = true) : isW c = true := by
  unfold wh at h
  simp only [Bool.or_eq_true] at h
  rcases h with ((h | h) | h) | h <;> (have := Nat.eq_of_beq_eq_true h; subst this; rfl)
theorem sp_iff (c : Nat) : sp c = true ↔ isW c = true ∨ c = 34 ∨ c = 92 := by
  constructor
  · unfold sp
    simp only [Bool.or_eq_true]
    rintro (((((h | h) | h) | h) | h) | h) <;> (obtain rfl := Nat.eq_of_beq_eq_true h; first | exact .inl rfl | exact .inr (.inl rfl) | exact .inr (.inr rfl))
  · rintro (h | rfl | rfl)
    · unfold isW at h
      have h := List.contains_iff_mem.mp h
      rcases List.mem_cons.mp h with rfl | h
      · rfl
      rcases List.mem_cons.mp h with rfl | h
      · rfl
      rcases List.mem_cons.mp h with rfl | h
      · rfl
      rcases List.mem_cons.mp h with rfl | h
      · rfl
      cases h
    · rfl
    · rfl
theorem sp_no {c : Nat} (h : sp c = false) : isW c = false ∧ c ≠ 34 ∧ c ≠ 92 := by
  have : ¬ (isW c = true ∨ c = 34 ∨ c = 92) := fun q => by rw [(sp_iff c).mpr q] at h; cases h
  refine ⟨by cases q : isW c with | false => rfl | true => exact absurd (.inl q) this, fun q => this (.inr (.inl q)), fun q => this (.inr (.inr q))⟩
/-- what a sign is -/
inductive SK (c : Nat) (f : List Nat) : Prop
  | gone : f = [] → sp c = false → SK c f
  | self : f = [c] → sp c = true → SK c f
  | all : f ≠ [] → (∀ x ∈ f, sp x = false) → sp c = false → SK c f
  | iota (t : List Nat) : f = 32 :: t → t ≠ [] → (∀ x ∈ t, sp x = false) → sp c = false → SK c f
theorem gs_sk {c : Nat} {f : List Nat} (h : gs c f = true) : SK c f ∧ preparedOf [c] = f := by
  unfold gs at h
  unfold preparedOf
  split at h
  · rename_i hb
    rw [Bool.and_eq_true] at h
    have hf : f = [] := List.isEmpty_iff.mp h.1
    refine ⟨.gone hf (by simpa using h.2), ?_⟩
    rw [hf]; simp [hb]
  · rename_i hb
    rw [Bool.and_eq_true, Bool.and_eq_true] at h
    obtain ⟨⟨h1, -⟩, h2⟩ := h
    have h1 : prep c = f := eq_of_beq h1
    refine ⟨?_, by simp [hb, h1]⟩
    split at h2
    · rename_i hs
      exact .self (eq_of_beq h2) hs
    · rename_i hs
      rw [Bool.or_eq_true] at h2
      rcases h2 with h2 | h2
      · rw [Bool.and_eq_true] at h2
        refine .all (fun q => by rw [q] at h2; simp at h2) (fun x hx => ?_) hs
        have := List.all_eq_true.mp h2.2 x hx
        simpa using this
      · split at h2
        · rename_i x t _
          rw [Bool.and_eq_true, Bool.and_eq_true] at h2
          obtain ⟨⟨a, b⟩, d⟩ := h2
          have := Nat.eq_of_beq_eq_true a
          subst this
          refine .iota t rfl (fun q => by rw [q] at b; simp at b) (fun x hx => ?_) hs
          have := List.all_eq_true.mp d x hx
          simpa using this
        · cases h2
theorem prep_app (a b : List Nat) : preparedOf (a ++ b) = preparedOf a ++ preparedOf b := by
  unfold preparedOf
  rw [List.filter_append, List.map_append, List.flatten_append]
theorem prep_sp {c : Nat} (h : c ∈ [32, 10, 9, 13, 34, 92]) : preparedOf [c] = [c] := (gs_sk (gs5 c h)).2
theorem prep_rep (n : Nat) : preparedOf (List.replicate n 92) = List.replicate n 92 := by
  induction n with
  | zero => rfl
  | succ n ih =>
    rw [List.replicate_succ, show (92 :: List.replicate n 92) = [92] ++ List.replicate n 92 from rfl, prep_app, ih, prep_sp (by decide)]
theorem prep_white {b : List Nat} (h : ∀ c ∈ b, wh c = true) : preparedOf b = b := by
  induction b with
  | nil => rfl
  | cons c r ih =>
    rw [show c :: r = [c] ++ r from rfl, prep_app, ih fun d hd => h d (.tail _ hd), prep_sp]
    have := h c (.head _)
    unfold wh at this
    simp only [Bool.or_eq_true] at this
    rcases this with ((h | h) | h) | h <;> (obtain rfl := Nat.eq_of_beq_eq_true h; decide)
/-! marks, along the list -/
def zm (q : Bool) : Option Sn → List Sn → List (Sn × Nat)
  | _, [] => []
  | p, x :: r => (x, (need q p x).toNat) :: zm q (some x) r
def prevAt (p : Option Sn) (ss : List Sn) : Nat → Option Sn
  | 0 => p
  | k + 1 => ss[k]?
theorem zm_get (q : Bool) : ∀ (p : Option Sn) (ss : List Sn) (i : Nat), (zm q p ss)[i]? = ss[i]?.map fun x => (x, (need q (prevAt p ss i) x).toNat)
  | p, [], i => by simp [zm]
  | p, x :: r, 0 => by simp [zm, prevAt]
  | p, x :: r, i + 1 => by
    rw [zm, List.getElem?_cons_succ, List.getElem?_cons_succ, zm_get q (some x) r i]
    congr 1
    funext y
    cases i with
    | zero => simp [prevAt]
    | succ i => simp [prevAt]
theorem zip_marks (q : Bool) (ss : List Sn) : ss.zip (marksOf q ss) = zm q none ss := by
  apply List.ext_getElem?
  intro i
  rw [zm_get]
  by_cases hi : i < ss.length
  · obtain ⟨x, hx⟩ : ∃ x, ss[i]? = some x := ⟨ss[i], by simp [hi]⟩
    have hm : (marksOf q ss)[i]? = some (markAt q ss i) := by
      unfold marksOf
      rw [List.getElem?_map, List.getElem?_range hi]; rfl
    have : (ss.zip (marksOf q ss))[i]? = some (x, markAt q ss i) := by rw [List.getElem?_zip_eq_some]; exact ⟨hx, hm⟩
    rw [this, hx]
    unfold markAt
    rw [hx]
    cases i <;> rfl
  · have h1 : ss[i]? = none := by simp; omega
    rw [h1, List.getElem?_eq_none (by rw [List.length_zip]; omega)]; rfl
end Mine
end
/-! ## Pn -/
section
namespace Mine
/-! one word's signs -/
def rawT (zs : List (Sn × Nat)) : List Nat := (zs.map fun z => List.replicate z.2 92 ++ [z.1.c]).flatten
def prpT (zs : List (Sn × Nat)) : List Nat := (zs.map fun z => List.replicate z.2 92 ++ z.1.f).flatten
theorem rawT_cons (z : Sn × Nat) (r : List (Sn × Nat)) : rawT (z :: r) = List.replicate z.2 92 ++ z.1.c :: rawT r := by unfold rawT; simp
theorem prpT_cons (z : Sn × Nat) (r : List (Sn × Nat)) : prpT (z :: r) = List.replicate z.2 92 ++ (z.1.f ++ prpT r) := by unfold prpT; simp
theorem raw_quo : ∀ (zs : List (Sn × Nat)) (acc R : List Nat), (∀ z ∈ zs, z.2 = 1 ∨ (z.2 = 0 ∧ z.1.c ≠ 34 ∧ z.1.c ≠ 92)) → quo (rawT zs ++ R) acc = quo R (acc ++ zs.map (·.1.c))
  | [], acc, R, _ => by simp [rawT]
  | z :: r, acc, R, h => by
    have ih := fun acc => raw_quo r acc R fun y hy => h y (.tail _ hy)
    rw [rawT_cons]
    rcases h z (.head _) with e | ⟨e, h1, h2⟩
    · rw [e]
      show quo (92 :: z.1.c :: (rawT r ++ R)) acc = _
      rw [quo_esc, ih]; simp
    · rw [e]
      show quo (z.1.c :: (rawT r ++ R)) acc = _
      rw [quo_go h1 h2, ih]; simp
theorem raw_pla : ∀ (zs : List (Sn × Nat)) (acc R : List Nat), (∀ z ∈ zs, z.2 = 1 ∨ (z.2 = 0 ∧ isW z.1.c = false ∧ z.1.c ≠ 92)) → pla (rawT zs ++ R) acc = pla R (acc ++ zs.map (·.1.c))
  | [], acc, R, _ => by simp [rawT]
  | z :: r, acc, R, h => by
    have ih := fun acc => raw_pla r acc R fun y hy => h y (.tail _ hy)
    rw [rawT_cons]
    rcases h z (.head _) with e | ⟨e, h1, h2⟩
    · rw [e]
      show pla (92 :: z.1.c :: (rawT r ++ R)) acc = _
      rw [pla_esc, ih]; simp
    · rw [e]
      show pla (z.1.c :: (rawT r ++ R)) acc = _
      rw [pla_go h1 h2, ih]; simp
theorem toNat01 (b : Bool) : b.toNat = 1 ∧ b = true ∨ b.toNat = 0 ∧ b = false := by cases b <;> simp
theorem zm_mem {q : Bool} : ∀ {ss : List Sn} {p : Option Sn} {z : Sn × Nat}, z ∈ zm q p ss → z.1 ∈ ss ∧ ∃ p', z.2 = (need q p' z.1).toNat
  | [], p, z, h => by cases h
  | x :: r, p, z, h => by
    unfold zm at h
    rcases List.mem_cons.mp h with rfl | h
    · exact ⟨.head _, p, rfl⟩
    · obtain ⟨a, b⟩ := zm_mem h
      exact ⟨.tail _ a, b⟩
theorem zm_word (q : Bool) : ∀ (p : Option Sn) (ss : List Sn), (zm q p ss).map (·.1.c) = wordOf ss
  | p, [] => rfl
  | p, x :: r => by unfold zm wordOf; rw [List.map_cons, List.map_cons]; exact congrArg _ (zm_word q (some x) r)
theorem zm_fold (q : Bool) : ∀ (p : Option Sn) (ss : List Sn), ((zm q p ss).map (·.1.f)).flatten = foldOf ss
  | p, [] => rfl
  | p, x :: r => by unfold zm foldOf; rw [List.map_cons, List.map_cons, List.flatten_cons, List.flatten_cons]; exact congrArg _ (zm_fold q (some x) r)
theorem need_quoted {p : Option Sn} {x : Sn} (h : need true p x = false) : x.c ≠ 34 ∧ x.c ≠ 92 := by
  unfold need at h
  simp only [Bool.or_eq_false_iff, List.contains_cons, List.contains_nil, Bool.or_false, beq_eq_false_iff_ne] at h
  exact h.1
theorem need_plain {p : Option Sn} {x : Sn} (h : need false p x = false) : isW x.c = false ∧ x.c ≠ 92 ∧ (x.c = 34 → ∃ y, p = some y ∧ y.f ≠ [] ∧ isW y.c = false) := by
  unfold need at h
  dsimp only at h
  cases hc : x.c == 34 with
  | true =>
    have e : x.c = 34 := eq_of_beq hc
    rw [hc] at h
    rw [e]
    refine ⟨rfl, by decide, fun _ => ?_⟩
    dsimp only at h
    rw [Bool.or_eq_false_iff] at h
    cases p with
    | none => cases h.2
    | some y =>
      have h2 := h.2
      dsimp only at h2
      rw [Bool.or_eq_false_iff] at h2
      refine ⟨y, rfl, fun q => ?_, ?_⟩
      · rw [q] at h2; exact absurd h2.1 (by simp)
      · have := h2.2
        unfold isW
        simp only [List.contains_cons, List.contains_nil, Bool.or_false, Bool.or_eq_false_iff, beq_eq_false_iff_ne] at this ⊢
        omega
  | false =>
    rw [hc] at h
    dsimp only at h
    rw [Bool.or_eq_false_iff] at h
    have := h.2
    have hc : x.c ≠ 34 := beq_eq_false_iff_ne.mp hc
    simp only [List.contains_cons, List.contains_nil, Bool.or_false, Bool.or_eq_false_iff, beq_eq_false_iff_ne] at this
    refine ⟨?_, by omega, fun e => absurd e hc⟩
    unfold isW
    simp only [List.contains_cons, List.contains_nil, Bool.or_false, Bool.or_eq_false_iff, beq_eq_false_iff_ne]
    omega
theorem raw_quoted (p : Option Sn) (ss : List Sn) (acc R : List Nat) : quo (rawT (zm true p ss) ++ R) acc = quo R (acc ++ wordOf ss) := by
  rw [raw_quo, zm_word]
  intro z hz
  obtain ⟨-, p', e⟩ := zm_mem hz
  rcases toNat01 (need true p' z.1) with ⟨h1, -⟩ | ⟨h1, h2⟩
  · exact .inl (e.trans h1)
  · exact .inr ⟨e.trans h1, need_quoted h2⟩
theorem raw_plain {ss : List Sn} (h0 : ss ≠ []) (R : List Nat) : tokn (rawT (zm false none ss) ++ R) = pla R (wordOf ss) := by
  cases ss with
  | nil => exact absurd rfl h0
  | cons x r =>
    have rest : ∀ acc, pla (rawT (zm false (some x) r) ++ R) acc = pla R (acc ++ wordOf r) := fun acc => by
      rw [raw_pla, zm_word]
      intro z hz
      obtain ⟨-, p', e⟩ := zm_mem hz
      rcases toNat01 (need false p' z.1) with ⟨h1, -⟩ | ⟨h1, h2⟩
      · exact .inl (e.trans h1)
      · obtain ⟨a, b, -⟩ := need_plain h2
        exact .inr ⟨e.trans h1, a, b⟩
    unfold zm
    rw [rawT_cons]
    dsimp only
    rcases toNat01 (need false none x) with ⟨h1, -⟩ | ⟨h1, h2⟩
    · rw [h1]
      show tokn (92 :: x.c :: (rawT (zm false (some x) r) ++ R)) = _
      rw [tokn_esc, rest]; rfl
    · rw [h1]
      obtain ⟨a, b, d⟩ := need_plain h2
      show tokn (x.c :: (rawT (zm false (some x) r) ++ R)) = _
      rw [tokn_go a b (fun e => by obtain ⟨y, q, _⟩ := d e; cases q), rest]; rfl
theorem quo_list : ∀ (t acc R : List Nat), (∀ c ∈ t, c ≠ 34 ∧ c ≠ 92) → quo (t ++ R) acc = quo R (acc ++ t)
  | [], acc, R, _ => by simp
  | c :: t, acc, R, h => by
    obtain ⟨h1, h2⟩ := h c (.head _)
    rw [List.cons_append, quo_go h1 h2, quo_list t _ R fun d hd => h d (.tail _ hd)]
    simp
theorem prp_quoted : ∀ (ss : List Sn) (p : Option Sn) (acc R : List Nat), (∀ y ∈ ss, SnOk y) → quo (prpT (zm true p ss) ++ R) acc = quo R (acc ++ foldOf ss)
  | [], p, acc, R, _ => by simp [zm, prpT, foldOf]
  | x :: r, p, acc, R, h => by
    have ih := fun acc => prp_quoted r (some x) acc R fun y hy => h y (.tail _ hy)
    have hf : foldOf (x :: r) = x.f ++ foldOf r := by unfold foldOf; simp
    unfold zm
    rw [prpT_cons, hf]
    dsimp only
    obtain ⟨sk, -⟩ := gs_sk (h x (.head _)).2
    rcases toNat01 (need true p x) with ⟨h1, h2⟩ | ⟨h1, h2⟩
    · rw [h1]
      have hfn : x.f ≠ [] ∧ ∀ y t, x.f = y :: t → ∀ c ∈ t, c ≠ 34 ∧ c ≠ 92 := by
        cases sk with
        | gone e hs =>
          exfalso
          unfold need at h2
          have := sp_no hs
          simp only [Bool.or_eq_true, Bool.and_eq_true, List.contains_cons, List.contains_nil, Bool.or_false, beq_iff_eq, e] at h2
          rcases h2 with h2 | h2
          · omega
          · simp at h2
        | self e hs => exact ⟨by rw [e]; simp, fun y t q => by rw [e] at q; cases q; intro c hc; cases hc⟩
        | all e1 e2 hs => exact ⟨e1, fun y t q c hc => (sp_no (e2 c (by rw [q]; exact .tail _ hc))).2⟩
        | iota t' e1 e2 e3 hs => exact ⟨by rw [e1]; simp, fun y t q c hc => by rw [e1] at q; cases q; exact (sp_no (e3 c hc)).2⟩
      obtain ⟨hn, ht⟩ := hfn
      cases hx : x.f with
      | nil => exact absurd hx hn
      | cons y t =>
        show quo (92 :: y :: ((t ++ prpT (zm true (some x) r)) ++ R)) acc = _
        rw [quo_esc, List.append_assoc, quo_list t _ _ (ht y t hx), ih]
        simp
    · rw [h1]
      show quo ((x.f ++ prpT (zm true (some x) r)) ++ R) acc = _
      obtain ⟨n1, n2⟩ := need_quoted h2
      rw [List.append_assoc, quo_list x.f _ _ ?_, ih]
      · simp
      · cases sk with
        | gone e hs => rw [e]; intro c hc; cases hc
        | self e hs => rw [e]; intro c hc; rw [List.mem_singleton] at hc; subst hc; exact ⟨n1, n2⟩
        | all e1 e2 hs => exact fun c hc => (sp_no (e2 c hc)).2
        | iota t' e1 e2 e3 hs =>
          rw [e1]
          intro c hc
          rcases List.mem_cons.mp hc with rfl | hc
          · decide
          · exact (sp_no (e3 c hc)).2
end Mine
end
/-! ## Po -/
section
namespace Mine
/-! a plain word, prepared: its parts -/
def Lx (tok R : List Nat) : List Nat × List Nat := match tok with
  | [] => tokn R
  | c :: r => pla R (c :: r)
def Ch (tx R : List Nat) : List (List Nat × Nat) → Prop
  | [] => True
  | (t, e) :: r => tokn R = (t, tx.drop e) ∧ e ≤ tx.length ∧ Chain tx e r
def ChL (tx tok R : List Nat) : List (List Nat × Nat) → Prop
  | [] => True
  | (t, e) :: r => Lx tok R = (t, tx.drop e) ∧ e ≤ tx.length ∧ Chain tx e r
theorem chain_ch {tx : List Nat} {p : Nat} {ds : List (List Nat × Nat)} : Chain tx p ds ↔ Ch tx (tx.drop p) ds := by
  cases ds with
  | nil => exact Iff.rfl
  | cons d r => obtain ⟨t, e⟩ := d; exact Iff.rfl
theorem chL_congr {tx tok tok' R R' : List Nat} {ds : List (List Nat × Nat)} (e : Lx tok R = Lx tok' R') (h : ChL tx tok' R' ds) : ChL tx tok R ds := by
  cases ds with
  | nil => trivial
  | cons d r => obtain ⟨t, x⟩ := d; exact ⟨e.trans h.1, h.2⟩
theorem ch_white {tx W R : List Nat} {ds : List (List Nat × Nat)} (hW : ∀ c ∈ W, isW c = true) (h : Ch tx R ds) : Ch tx (W ++ R) ds := by
  cases ds with
  | nil => trivial
  | cons d r => obtain ⟨t, x⟩ := d; exact ⟨(tokn_white hW R).trans h.1, h.2⟩
theorem Lx_cons (tok : List Nat) (h : tok ≠ []) (R : List Nat) : Lx tok R = pla R tok := by
  cases tok with
  | nil => exact absurd rfl h
  | cons c r => rfl
theorem Lx_two (tok R : List Nat) : Lx tok (92 :: 92 :: R) = Lx (tok ++ [92]) R := by
  cases tok with
  | nil => exact tokn_esc 92 R
  | cons c r => exact (pla_esc 92 R (c :: r))
theorem Lx_esc (tok : List Nat) (d : Nat) (R : List Nat) : Lx tok (92 :: d :: R) = pla R (tok ++ [d]) := by
  cases tok with
  | nil => exact tokn_esc d R
  | cons c r => exact (pla_esc d R (c :: r))
theorem Lx_even : ∀ (n : Nat) (tok R : List Nat), Lx tok (List.replicate (2 * n) 92 ++ R) = Lx (tok ++ List.replicate n 92) R
  | 0, tok, R => by simp
  | n + 1, tok, R => by
    rw [show 2 * (n + 1) = 2 * n + 1 + 1 by omega, List.replicate_succ, List.replicate_succ]
    show Lx tok (92 :: 92 :: (List.replicate (2 * n) 92 ++ R)) = _
    rw [Lx_two, Lx_even n, List.replicate_succ]
    simp
theorem Lx_odd (n : Nat) (tok : List Nat) (d : Nat) (R : List Nat) : Lx tok (List.replicate (2 * n + 1) 92 ++ d :: R) = pla R (tok ++ List.replicate n 92 ++ [d]) := by
  rw [List.replicate_succ', List.append_assoc]
  show Lx tok (List.replicate (2 * n) 92 ++ (92 :: d :: R)) = _
  rw [Lx_even, Lx_esc]
theorem Lx_go {c : Nat} {tok : List Nat} (h1 : isW c = false) (h2 : c ≠ 92) (h3 : tok ≠ [] ∨ c ≠ 34) (R : List Nat) : Lx tok (c :: R) = Lx (tok ++ [c]) R := by
  cases tok with
  | nil => exact tokn_go h1 h2 (by rcases h3 with h | h; exact absurd rfl h; exact h) R
  | cons d r => exact pla_go h1 h2 R (d :: r)
theorem Lx_list : ∀ (t tok R : List Nat), (∀ c ∈ t, sp c = false) → Lx tok (t ++ R) = Lx (tok ++ t) R
  | [], tok, R, _ => by simp
  | c :: t, tok, R, h => by
    obtain ⟨h1, h2, h3⟩ := sp_no (h c (.head _))
    rw [List.cons_append, Lx_go h1 h3 (.inr h2), Lx_list t _ R fun d hd => h d (.tail _ hd)]
    simp
theorem pla_list : ∀ (t acc R : List Nat), (∀ c ∈ t, sp c = false) → pla (t ++ R) acc = pla R (acc ++ t)
  | [], acc, R, _ => by simp
  | c :: t, acc, R, h => by
    obtain ⟨h1, h2, h3⟩ := sp_no (h c (.head _))
    rw [List.cons_append, pla_go h1 h3, pla_list t _ R fun d hd => h d (.tail _ hd)]
    simp
/-- the parts that come from here on -/
def PF (b : List Nat) : List (Sn × Nat) → PS → List (List Nat × Nat)
  | [], s => pend b ⟨[], s.tok, s.ah, s.at'⟩
  | z :: r, s => (pstep ⟨[], s.tok, s.ah, s.at'⟩ z).P ++ PF b r (pstep ⟨[], s.tok, s.ah, s.at'⟩ z)
theorem pstep_P (s : PS) (z : Sn × Nat) : pstep s z = ⟨s.P ++ (pstep ⟨[], s.tok, s.ah, s.at'⟩ z).P, (pstep ⟨[], s.tok, s.ah, s.at'⟩ z).tok, (pstep ⟨[], s.tok, s.ah, s.at'⟩ z).ah, (pstep ⟨[], s.tok, s.ah, s.at'⟩ z).at'⟩ := by
  unfold pstep
  dsimp only
  cases z.1.c == 92 with
  | true => simp
  | false =>
    dsimp only
    cases z.1.f with
    | nil => simp
    | cons y t =>
      dsimp only
      cases ((s.ah + z.2) % 2 == 0 && [32, 10, 9, 13].contains y) with
      | true =>
        dsimp only
        cases s.tok ++ List.replicate ((s.ah + z.2) / 2) 92 with
        | nil => simp
        | cons c r => simp
      | false => simp
theorem pend_P (b : List Nat) (s : PS) : pend b s = s.P ++ pend b ⟨[], s.tok, s.ah, s.at'⟩ := by
  unfold pend
  dsimp only
  cases s.tok ++ (List.replicate (s.ah / 2) 92 ++ b.take (s.ah % 2)) with
  | nil => simp
  | cons c r => simp
theorem PF_is (b : List Nat) : ∀ (zs : List (Sn × Nat)) (s : PS), pend b (zs.foldl pstep s) = s.P ++ PF b zs s
  | [], s => pend_P b s
  | z :: r, s => by
    rw [List.foldl_cons, PF_is b r, PF]
    have e := pstep_P s z
    have e1 : (pstep s z).P = s.P ++ (pstep ⟨[], s.tok, s.ah, s.at'⟩ z).P := by rw [e]
    have e2 : PF b r (pstep s z) = PF b r (pstep ⟨[], s.tok, s.ah, s.at'⟩ z) := by
      rw [e]
      generalize pstep ⟨[], s.tok, s.ah, s.at'⟩ z = q
      cases r with
      | nil => rfl
      | cons _ _ => rfl
    rw [e1, e2, List.append_assoc]
end Mine
end
/-! ## Pq -/
section
namespace Mine
theorem adv {px X Y : List Nat} {p : Nat} (hp : p ≤ px.length) (h : px.drop p = X ++ Y) : px.drop (p + X.length) = Y ∧ p + X.length ≤ px.length := by
  constructor
  · rw [← List.drop_drop, h, List.drop_left]
  · have := congrArg List.length h
    rw [List.length_drop, List.length_append] at this
    omega
theorem pla_end {T X R : List Nat} (hX : ∀ c ∈ X, isW c = true) (hR : R = [] ∨ X ≠ []) : pla (X ++ R) T = (T, X.drop 1 ++ R) := by
  cases X with
  | nil =>
    rcases hR with rfl | h
    · rfl
    · exact absurd rfl h
  | cons c r => exact pla_white (hX c (.head _)) _ _
theorem chL_nil {px R : List Nat} {ds : List (List Nat × Nat)} : ChL px [] R ds ↔ Ch px R ds := by
  cases ds with
  | nil => exact Iff.rfl
  | cons d r => obtain ⟨t, e⟩ := d; exact Iff.rfl
theorem chL_part {px tok Y T X R : List Nat} {e : Nat} {ds : List (List Nat × Nat)} (h : Lx tok Y = (T, X)) (hd : px.drop e = X) (he : e ≤ px.length) (hn : Ch px X ds) : ChL px tok Y ((T, e) :: ds) := by
  refine ⟨?_, he, ?_⟩
  · rw [h, hd]
  · rw [chain_ch, hd]; exact hn
theorem end_parts {px b R tok : List Nat} {ah at' base : Nat} {ds : List (List Nat × Nat)} (hb : ∀ c ∈ b, isW c = true) (hR : R = [] ∨ b.length = 2) (hn : Ch px R ds)
    (hd : px.drop (base + at') = b ++ R) (hl : base + at' ≤ px.length) :
    ChL px tok (List.replicate ah 92 ++ (b ++ R)) ((pend b ⟨[], tok, ah, at'⟩).map (fun p => (p.1, base + p.2)) ++ ds) := by
  have hpos : ∀ k, px.drop (base + (at' + (b.take k).length)) = b.drop k ++ R ∧ base + (at' + (b.take k).length) ≤ px.length := fun k => by
    have := adv (X := b.take k) (Y := b.drop k ++ R) hl (by rw [← List.append_assoc, List.take_append_drop]; exact hd)
    rw [Nat.add_assoc] at this
    exact this
  have hw : ∀ k, Ch px (b.drop k ++ R) ds := fun k => ch_white (fun c hc => hb c (List.mem_of_mem_drop hc)) hn
  rcases Nat.mod_two_eq_zero_or_one ah with hm | hm
  · obtain ⟨n, rfl⟩ : ∃ n, ah = 2 * n := ⟨ah / 2, by omega⟩
    refine chL_congr (Lx_even n tok _) ?_
    unfold pend
    dsimp only
    rw [hm, Nat.mul_div_cancel_left n (by decide), List.take_zero, List.append_nil]
    cases hT : tok ++ List.replicate n 92 with
    | nil => exact chL_nil.mpr (hw 0)
    | cons c r =>
      dsimp only
      refine chL_part (R := R) ?_ (hpos 1).1 (hpos 1).2 (hw 1)
      rw [Lx_cons _ (by simp)]
      exact pla_end hb (hR.imp id fun q e => by rw [e] at q; cases q)
  · obtain ⟨n, rfl⟩ : ∃ n, ah = 2 * n + 1 := ⟨ah / 2, by omega⟩
    unfold pend
    dsimp only
    rw [hm, show (2 * n + 1) / 2 = n by omega]
    cases b with
    | nil =>
      obtain rfl : R = [] := by
        rcases hR with h | h
        · exact h
        · cases h
      have e : Lx tok (List.replicate (2 * n + 1) 92 ++ ([] ++ [])) = Lx (tok ++ List.replicate n 92) [92] := by
        rw [List.replicate_succ', List.append_assoc]
        exact Lx_even n tok [92]
      refine chL_congr e ?_
      rw [show ([] : List Nat).take 1 = [] from rfl, List.append_nil]
      cases hT : tok ++ List.replicate n 92 with
      | nil => exact chL_congr (tok' := []) (R' := []) rfl (chL_nil.mpr hn)
      | cons c r =>
        dsimp only
        exact chL_part (R := []) (X := []) rfl (hpos 2).1 (hpos 2).2 hn
    | cons w bs =>
      have hT : tok ++ (List.replicate n 92 ++ [w]) = tok ++ List.replicate n 92 ++ [w] := (List.append_assoc _ _ _).symm
      rw [show (w :: bs).take 1 = [w] from rfl, hT]
      have hne : tok ++ List.replicate n 92 ++ [w] ≠ [] := by simp
      have e : Lx tok (List.replicate (2 * n + 1) 92 ++ (w :: bs ++ R)) = pla (bs ++ R) (tok ++ List.replicate n 92 ++ [w]) := Lx_odd n tok w (bs ++ R)
      generalize tok ++ List.replicate n 92 ++ [w] = T at hne e
      cases T with
      | nil => exact absurd rfl hne
      | cons c r =>
        dsimp only
        refine chL_part (R := R) (e.trans (pla_end (fun d hd => hb d (.tail _ hd)) (hR.imp id fun q e => by rw [e] at q; cases q))) (hpos 2).1 (hpos 2).2 ?_
        have := hw 2
        cases bs with
        | nil => exact this
        | cons v bs => exact this
theorem isW4 (c : Nat) : [32, 10, 9, 13].contains c = isW c := by
  unfold isW
  simp only [List.contains_cons, List.contains_nil, Bool.or_false]
  cases c == 32 <;> cases c == 10 <;> cases c == 9 <;> cases c == 13 <;> rfl
def GP (prev : Option Sn) (tok : List Nat) (ah : Nat) : Prop := ∀ y, prev = some y → y.f ≠ [] → isW y.c = false → tok ≠ [] ∨ 2 ≤ ah
theorem word_parts {px b R : List Nat} {base : Nat} {ds : List (List Nat × Nat)} (hb : ∀ c ∈ b, isW c = true) (hR : R = [] ∨ b.length = 2) (hn : Ch px R ds) :
    ∀ (ss : List Sn) (prev : Option Sn) (P : List (List Nat × Nat)) (tok : List Nat) (ah at' : Nat), (∀ y ∈ ss, SnOk y) → GP prev tok ah →
      px.drop (base + at') = prpT (zm false prev ss) ++ (b ++ R) → base + at' ≤ px.length →
      ChL px tok (List.replicate ah 92 ++ (prpT (zm false prev ss) ++ (b ++ R))) ((PF b (zm false prev ss) ⟨P, tok, ah, at'⟩).map (fun p => (p.1, base + p.2)) ++ ds)
  | [], prev, P, tok, ah, at', _, _, hd, hl => end_parts hb hR hn hd hl
  | x :: r, prev, P, tok, ah, at', hs, hg, hd, hl => by
    have ih := fun (P : List (List Nat × Nat)) (tok : List Nat) (ah at' : Nat) => word_parts (base := base) hb hR hn r (some x) P tok ah at' (fun y hy => hs y (.tail _ hy))
    obtain ⟨sk, -⟩ := gs_sk (hs x (.head _)).2
    have need34 : x.c = 34 → (need false prev x).toNat = 0 → tok ≠ [] ∨ 2 ≤ ah := fun e h => by
      rcases toNat01 (need false prev x) with ⟨h1, -⟩ | ⟨-, h2⟩
      · omega
      · obtain ⟨y, e1, e2, e3⟩ := (need_plain h2).2.2 e
        exact hg y e1 e2 e3
    have need92 : x.c = 92 → (need false prev x).toNat = 1 := fun e => by
      rcases toNat01 (need false prev x) with ⟨h1, -⟩ | ⟨-, h2⟩
      · exact h1
      · exact absurd e (need_plain h2).2.1
    unfold zm at hd ⊢
    generalize hz : zm false (some x) r = zs at hd ih ⊢
    generalize hm : (need false prev x).toNat = m at hd need34 need92 ⊢
    rw [prpT_cons] at hd ⊢
    dsimp only at hd ⊢
    rw [PF]
    have hX : ∀ (f : List Nat), x.f = f → px.drop (base + (at' + m + f.length)) = prpT zs ++ (b ++ R) ∧ base + (at' + m + f.length) ≤ px.length := fun f e => by
      rw [e] at hd
      have := adv (X := List.replicate m 92 ++ f) (Y := prpT zs ++ (b ++ R)) hl (by rw [hd]; simp)
      rw [List.length_append, List.length_replicate] at this
      rw [show base + (at' + m + f.length) = base + at' + (m + f.length) by omega]
      exact this
    have hrep : ∀ f : List Nat, List.replicate ah 92 ++ (List.replicate m 92 ++ (f ++ prpT zs) ++ (b ++ R)) = List.replicate (ah + m) 92 ++ (f ++ (prpT zs ++ (b ++ R))) := fun f => by
      rw [← List.replicate_append_replicate]; simp only [List.append_assoc]
    rw [hrep]
    unfold pstep
    dsimp only
    cases h92 : x.c == 92 with
    | true =>
      have e92 : x.c = 92 := eq_of_beq h92
      have hf : x.f = [92] := by
        cases sk with
        | gone e hs => rw [e92] at hs; cases hs
        | self e hs => rw [e, e92]
        | all e1 e2 hs => rw [e92] at hs; cases hs
        | iota t e1 e2 e3 hs => rw [e92] at hs; cases hs
      have := need92 e92
      dsimp only
      rw [hf]
      have q : List.replicate (ah + m) 92 ++ ([92] ++ (prpT zs ++ (b ++ R))) = List.replicate (ah + m + 1) 92 ++ (prpT zs ++ (b ++ R)) := by
        rw [List.replicate_succ']; simp
      rw [q]
      exact ih [] tok (ah + m + 1) (at' + m + 1) (fun y e _ _ => .inr (by omega)) (hX [92] hf).1 (hX [92] hf).2
    | false =>
      have n92 : x.c ≠ 92 := beq_eq_false_iff_ne.mp h92
      dsimp only
      cases hf : x.f with
      | nil =>
        dsimp only
        exact ih [] tok (ah + m) (at' + m) (fun y e h _ => by cases e; exact absurd hf h) (hX [] hf).1 (hX [] hf).2
      | cons y t =>
        dsimp only
        have ht : ∀ c ∈ t, sp c = false := by
          cases sk with
          | gone e hs => rw [hf] at e; cases e
          | self e hs => rw [hf] at e; cases e; intro c hc; cases hc
          | all e1 e2 hs => exact fun c hc => e2 c (by rw [hf]; exact .tail _ hc)
          | iota t' e1 e2 e3 hs => rw [hf] at e1; cases e1; exact e3
        rw [isW4]
        rcases Nat.mod_two_eq_zero_or_one (ah + m) with hp | hp
        · obtain ⟨n, hn2⟩ : ∃ n, ah + m = 2 * n := ⟨(ah + m) / 2, by omega⟩
          rw [hp, hn2, Nat.mul_div_cancel_left n (by decide)]
          cases hy : isW y with
          | true =>
            rw [show ((0 == 0 && true) : Bool) = true from rfl]
            dsimp only
            have gNew : GP (some x) t 0 := fun y' e h1 h2 => by
              cases e
              cases sk with
              | gone e hs => exact absurd e h1
              | self e hs => rw [hf] at e; cases e; rw [hy] at h2; cases h2
              | all e1 e2 hs => have := (sp_no (e2 y (by rw [hf]; exact .head _))).1; rw [hy] at this; cases this
              | iota t' e1 e2 e3 hs => rw [hf] at e1; cases e1; exact .inl e2
            have IH := fun P => ih P t 0 (at' + m + (y :: t).length) gNew (hX (y :: t) hf).1 (hX (y :: t) hf).2
            refine chL_congr (Lx_even n tok _) ?_
            have hL : ∀ X, Lx [] (t ++ X) = Lx t X := fun X => Lx_list t [] X ht
            cases hT : tok ++ List.replicate n 92 with
            | nil =>
              dsimp only
              refine chL_congr ?_ (IH [])
              show tokn (y :: (t ++ _)) = _
              rw [tokn_white1 hy]
              exact hL _
            | cons c q =>
              dsimp only
              refine chL_part (R := R) (X := t ++ (prpT zs ++ (b ++ R))) (pla_white hy _ _) ?_ ?_ ?_
              · have := adv (X := List.replicate m 92 ++ [y]) (Y := t ++ (prpT zs ++ (b ++ R))) hl (by rw [hd, hf]; simp)
                rw [List.length_append, List.length_replicate] at this
                rw [show base + (at' + m + 1) = base + at' + (m + 1) by omega]
                exact this.1
              · have := (hX (y :: t) hf).2
                simp only [List.length_cons] at this
                omega
              · exact chL_nil.mp (chL_congr (hL _) (IH _))
          | false =>
            rw [show ((0 == 0 && false) : Bool) = false from rfl]
            dsimp only
            have hne : tok ++ List.replicate n 92 ++ (y :: t) ≠ [] := by simp
            have IH := fun P => ih P (tok ++ List.replicate n 92 ++ (y :: t)) 0 (at' + m + (y :: t).length) (fun _ _ _ _ => .inl hne) (hX (y :: t) hf).1 (hX (y :: t) hf).2
            refine chL_congr (Lx_even n tok _) (chL_congr ?_ (IH []))
            show Lx (tok ++ List.replicate n 92) (y :: (t ++ (prpT zs ++ (b ++ R)))) = Lx _ (prpT zs ++ (b ++ R))
            have hy92 : y ≠ 92 := by
              rintro rfl
              cases sk with
              | gone e hs => rw [hf] at e; cases e
              | self e hs => rw [hf] at e; exact n92 (List.cons.inj e).1.symm
              | all e1 e2 hs => exact absurd (e2 92 (by rw [hf]; exact .head _)) (by decide)
              | iota t' e1 e2 e3 hs => rw [hf] at e1; exact absurd (List.cons.inj e1).1 (by decide)
            have hy34 : tok ++ List.replicate n 92 ≠ [] ∨ y ≠ 34 := by
              by_cases h34 : y = 34
              · subst h34
                refine .inl ?_
                have : x.c = 34 := by
                  cases sk with
                  | gone e hs => rw [hf] at e; cases e
                  | self e hs => rw [hf] at e; exact (List.cons.inj e).1.symm
                  | all e1 e2 hs => exact absurd (e2 34 (by rw [hf]; exact .head _)) (by decide)
                  | iota t' e1 e2 e3 hs => rw [hf] at e1; exact absurd (List.cons.inj e1).1 (by decide)
                by_cases hm0 : m = 0
                · rcases need34 this hm0 with h | h
                  · simp [h]
                  · have : n ≠ 0 := by omega
                    simp [this]
                · have : n ≠ 0 := by omega
                  simp [this]
              · exact .inr h34
            rw [Lx_go hy hy92 hy34, Lx_list t _ _ ht]
            simp
        · obtain ⟨n, hn2⟩ : ∃ n, ah + m = 2 * n + 1 := ⟨(ah + m) / 2, by omega⟩
          rw [hp, hn2, show (2 * n + 1) / 2 = n by omega]
          rw [show ((1 == 0 && isW y) : Bool) = false from rfl]
          dsimp only
          have hne : tok ++ List.replicate n 92 ++ (y :: t) ≠ [] := by simp
          have IH := fun P => ih P (tok ++ List.replicate n 92 ++ (y :: t)) 0 (at' + m + (y :: t).length) (fun _ _ _ _ => .inl hne) (hX (y :: t) hf).1 (hX (y :: t) hf).2
          refine chL_congr ?_ (IH [])
          refine (Lx_odd n tok y (t ++ (prpT zs ++ (b ++ R)))).trans ?_
          rw [pla_list t _ _ ht, Lx_cons _ hne]
          simp
end Mine
end
/-! ## Pr -/
section
namespace Mine
/-! the file, word by word -/
def rawX (last : Bool) (x : Wd) : List Nat := match x.q with
  | true => [34] ++ innerOf x.s (marksOf true x.s) ++ closOf last x.s ++ x.b
  | false => innerOf x.s (marksOf false x.s) ++ x.b
def prpX (last : Bool) (x : Wd) : List Nat := match x.q with
  | true => [34] ++ prpT (zm true none x.s) ++ closOf last x.s ++ x.b
  | false => prpT (zm false none x.s) ++ x.b
def rdX (last : Bool) (x : Wd) (n : Nat) : List (List Nat × Nat) := match x.q with
  | true => [(wordOf x.s, n + 1 + (innerOf x.s (marksOf true x.s) ++ closOf last x.s).length)]
  | false => [(wordOf x.s, n + (innerOf x.s (marksOf false x.s)).length + (x.b.take 1).length)]
def tdX (last : Bool) (x : Wd) (a : Nat) : List (List Nat × Nat) := match x.q with
  | true => [(foldOf x.s, a + 1 + sizeOf' x.s (marksOf true x.s) + (closOf last x.s).length)]
  | false => (partsOf x.s (marksOf false x.s) x.b).map (fun p => (p.1, a + p.2))
def szX (last : Bool) (x : Wd) : Nat := match x.q with
  | true => 1 + sizeOf' x.s (marksOf true x.s) + (closOf last x.s ++ x.b).length
  | false => sizeOf' x.s (marksOf false x.s) + x.b.length
theorem fstep_is (last : Bool) (s : FS) (x : Wd) : fstep last s x = ⟨s.tx ++ rawX last x, s.rd ++ rdX last x s.tx.length, s.td ++ tdX last x s.at', s.at' + szX last x⟩ := by
  unfold fstep rawX rdX tdX szX
  cases x.q <;> rfl
theorem inner_raw (q : Bool) (ss : List Sn) : innerOf ss (marksOf q ss) = rawT (zm q none ss) := by
  rw [← zip_marks]; rfl
theorem size_prp : ∀ (ss : List Sn) (ms : List Nat), ms.length = ss.length → sizeOf' ss ms = (prpT (ss.zip ms)).length
  | [], [], _ => rfl
  | [], _ :: _, h => by cases h
  | _ :: _, [], h => by cases h
  | x :: r, m :: ms, h => by
    have ih := size_prp r ms (Nat.succ.inj h)
    rw [List.zip_cons_cons, prpT_cons, List.length_append, List.length_append, ← ih, List.length_replicate]
    unfold sizeOf'
    simp only [List.sum_cons, List.map_cons]
    omega
theorem size_zm (q : Bool) (ss : List Sn) : sizeOf' ss (marksOf q ss) = (prpT (zm q none ss)).length := by
  rw [size_prp _ _ (marksOf_len _ _), zip_marks]
theorem prep_raw : ∀ (zs : List (Sn × Nat)), (∀ z ∈ zs, SnOk z.1) → preparedOf (rawT zs) = prpT zs
  | [], _ => rfl
  | z :: r, h => by
    rw [rawT_cons, prpT_cons, show z.1.c :: rawT r = [z.1.c] ++ rawT r from rfl, prep_app, prep_app, prep_rep, (gs_sk (h z (.head _)).2).2, prep_raw r fun y hy => h y (.tail _ hy)]
theorem prep_inner {q : Bool} {ss : List Sn} (h : ∀ y ∈ ss, SnOk y) : preparedOf (innerOf ss (marksOf q ss)) = prpT (zm q none ss) := by
  rw [inner_raw]
  exact prep_raw _ fun z hz => h _ (zm_mem hz).1
theorem prep_clos (last : Bool) (ss : List Sn) : preparedOf (closOf last ss) = closOf last ss := by
  unfold closOf
  cases last with
  | false => exact prep_sp (by decide)
  | true =>
    dsimp only
    rcases Nat.mod_two_eq_zero_or_one ss.length with h | h
    · rw [h]; rfl
    · rw [h]; exact prep_sp (by decide)
theorem prep_rawX {last : Bool} {x : Wd} (h : ∀ y ∈ x.s, SnOk y) (hb : ∀ c ∈ x.b, wh c = true) : preparedOf (rawX last x) = prpX last x := by
  unfold rawX prpX
  cases x.q with
  | true => dsimp only; rw [prep_app, prep_app, prep_app, prep_inner h, prep_clos, prep_white hb, prep_sp (by decide)]
  | false => dsimp only; rw [prep_app, prep_inner h, prep_white hb]
theorem prpX_len (last : Bool) (x : Wd) : (prpX last x).length = szX last x := by
  unfold prpX szX
  cases x.q with
  | true => dsimp only; rw [size_zm]; simp only [List.length_append, List.length_cons, List.length_nil]; omega
  | false => dsimp only; rw [size_zm]; simp only [List.length_append]
theorem clos_end (acc : List Nat) (ss : List Sn) : quo (closOf true ss) acc = (acc, []) := by
  unfold closOf
  dsimp only
  rcases Nat.mod_two_eq_zero_or_one ss.length with h | h
  · rw [h]; rfl
  · rw [h]; rfl
theorem quo_clos {last : Bool} {ss : List Sn} {b R acc : List Nat} (hL : last = true → R = [] ∧ b = []) : quo (closOf last ss ++ (b ++ R)) acc = (acc, b ++ R) := by
  cases last with
  | false => exact quo_end _ _
  | true =>
    obtain ⟨rfl, rfl⟩ := hL rfl
    rw [List.append_nil, List.append_nil]
    exact clos_end _ _
def XOk (last : Bool) (x : Wd) (R : List Nat) : Prop := (∀ y ∈ x.s, SnOk y) ∧ (∀ c ∈ x.b, wh c = true) ∧
  (x.q = true ∧ (last = true → R = [] ∧ x.b = []) ∨ x.q = false ∧ x.s ≠ [] ∧ (R = [] ∨ x.b.length = 2))
theorem word_raw {last : Bool} {x : Wd} {A R tx : List Nat} {ds : List (List Nat × Nat)} (hx : XOk last x R) (htx : tx = A ++ (rawX last x ++ R)) (hn : Ch tx R ds) : Ch tx (rawX last x ++ R) (rdX last x A.length ++ ds) := by
  obtain ⟨h1, h2, h3⟩ := hx
  have hA : tx.drop A.length = rawX last x ++ R := by rw [htx, List.drop_left]
  have hAl : A.length ≤ tx.length := by rw [htx, List.length_append]; omega
  have hw : Ch tx (x.b ++ R) ds := ch_white (fun c hc => wh_isW (h2 c hc)) hn
  clear htx
  unfold rawX at hA ⊢
  unfold rdX
  rcases h3 with ⟨hq, hL⟩ | ⟨hq, hs, hR⟩
  · rw [hq] at hA ⊢
    dsimp only at hA ⊢
    have hP := adv (X := 34 :: (innerOf x.s (marksOf true x.s) ++ closOf last x.s)) (Y := x.b ++ R) hAl (by rw [hA]; simp)
    rw [List.length_cons] at hP
    rw [show ∀ n, A.length + 1 + n = A.length + (n + 1) by intro n; omega]
    refine chL_nil.mp (chL_part (X := x.b ++ R) (R := R) ?_ hP.1 hP.2 hw)
    show tokn _ = _
    have e : [34] ++ innerOf x.s (marksOf true x.s) ++ closOf last x.s ++ x.b ++ R = 34 :: (rawT (zm true none x.s) ++ (closOf last x.s ++ (x.b ++ R))) := by rw [inner_raw]; simp
    rw [e, tokn_quo, raw_quoted, quo_clos hL]
    rfl
  · rw [hq] at hA ⊢
    dsimp only at hA ⊢
    have hP := adv (X := innerOf x.s (marksOf false x.s) ++ x.b.take 1) (Y := x.b.drop 1 ++ R) hAl (by rw [hA]; simp only [List.append_assoc]; rw [← List.append_assoc (x.b.take 1), List.take_append_drop])
    rw [List.length_append, ← Nat.add_assoc] at hP
    refine chL_nil.mp (chL_part (X := x.b.drop 1 ++ R) (R := R) ?_ hP.1 hP.2 (ch_white (fun c hc => wh_isW (h2 c (List.mem_of_mem_drop hc))) hn))
    show tokn _ = _
    rw [inner_raw, List.append_assoc, raw_plain hs]
    exact pla_end (fun c hc => wh_isW (h2 c hc)) (hR.imp id fun q e => by rw [e] at q; cases q)
theorem word_prep {last : Bool} {x : Wd} {A R px : List Nat} {ds : List (List Nat × Nat)} (hx : XOk last x R) (htx : px = A ++ (prpX last x ++ R)) (hn : Ch px R ds) : Ch px (prpX last x ++ R) (tdX last x A.length ++ ds) := by
  obtain ⟨h1, h2, h3⟩ := hx
  have hA : px.drop A.length = prpX last x ++ R := by rw [htx, List.drop_left]
  have hAl : A.length ≤ px.length := by rw [htx, List.length_append]; omega
  have hw : Ch px (x.b ++ R) ds := ch_white (fun c hc => wh_isW (h2 c hc)) hn
  clear htx
  unfold prpX at hA ⊢
  unfold tdX
  rcases h3 with ⟨hq, hL⟩ | ⟨hq, hs, hR⟩
  · rw [hq] at hA ⊢
    dsimp only at hA ⊢
    have hP := adv (X := 34 :: (prpT (zm true none x.s) ++ closOf last x.s)) (Y := x.b ++ R) hAl (by rw [hA]; simp)
    rw [List.length_cons, List.length_append, ← size_zm] at hP
    rw [show ∀ n m, A.length + 1 + n + m = A.length + (n + m + 1) by intro n m; omega]
    refine chL_nil.mp (chL_part (X := x.b ++ R) (R := R) ?_ hP.1 hP.2 hw)
    show tokn _ = _
    have e : [34] ++ prpT (zm true none x.s) ++ closOf last x.s ++ x.b ++ R = 34 :: (prpT (zm true none x.s) ++ (closOf last x.s ++ (x.b ++ R))) := by simp
    rw [e, tokn_quo, prp_quoted _ _ _ _ h1, quo_clos hL]
    rfl
  · rw [hq] at hA ⊢
    dsimp only at hA ⊢
    have e : partsOf x.s (marksOf false x.s) x.b = PF x.b (zm false none x.s) ⟨[], [], 0, 0⟩ := by
      unfold partsOf
      rw [zip_marks, PF_is]; rfl
    rw [e, List.append_assoc]
    have := word_parts (px := px) (base := A.length) (fun c hc => wh_isW (h2 c hc)) hR hn x.s none [] [] 0 0 h1 (fun y e => by cases e) (by rw [Nat.add_zero, hA, List.append_assoc]) (by omega)
    exact chL_nil.mp this
def goF : List Wd → FS → FS
  | [], s => s
  | x :: r, s => goF r (fstep r.isEmpty s x)
theorem goF_fst (ws : List Wd) : ∀ (n k : Nat), k + n = ws.length → goF (ws.drop k) (fst' ws k) = fileOf ws
  | 0, k, h => by
    have : k = ws.length := by omega
    subst this
    rw [List.drop_length]; rfl
  | n + 1, k, h => by
    have hk : k < ws.length := by omega
    obtain ⟨x, hx⟩ : ∃ x, ws[k]? = some x := ⟨ws[k], by simp [hk]⟩
    have hd : ws.drop k = x :: ws.drop (k + 1) := by
      rw [List.drop_eq_getElem_cons hk]
      congr 1
      simpa [hk] using hx
    have hl : (ws.drop (k + 1)).isEmpty = (k + 1 == ws.length) := by
      rw [Bool.eq_iff_iff, List.isEmpty_iff, List.drop_eq_nil_iff, beq_iff_eq]
      omega
    rw [hd, goF, hl, ← fst_succ hx]
    exact goF_fst ws n (k + 1) (by omega)
theorem goF_file (ws : List Wd) : goF ws ⟨[], [], [], 0⟩ = fileOf ws := goF_fst ws ws.length 0 (by omega)
theorem go_main (wl : Wd) (hl : WdEnd wl) : ∀ (ws : List Wd) (s : FS), (∀ x ∈ ws, WdOk x) → s.at' = (preparedOf s.tx).length →
    ∃ X rd td a, goF (ws ++ [wl]) s = ⟨s.tx ++ X, s.rd ++ rd, s.td ++ td, a⟩ ∧
      Ch (s.tx ++ X) X (rd ++ [([], (s.tx ++ X).length), ([], (s.tx ++ X).length)]) ∧
      Ch (preparedOf (s.tx ++ X)) (preparedOf X) (td ++ [([], (preparedOf (s.tx ++ X)).length), ([], (preparedOf (s.tx ++ X)).length)])
  | [], s, _, hat => by
    have hend : ∀ px : List Nat, Ch px [] [([], px.length), ([], px.length)] := fun px => by
      have e : px.drop px.length = [] := List.drop_length
      refine ⟨by rw [e]; rfl, Nat.le_refl _, by rw [e]; rfl, Nat.le_refl _, trivial⟩
    have hx : XOk true wl [] := by
      obtain ⟨h1, h2, h3⟩ := hl
      refine ⟨h1, h2, ?_⟩
      rcases h3 with ⟨q, e⟩ | ⟨q, e, e'⟩
      · exact .inl ⟨q, fun _ => ⟨rfl, e⟩⟩
      · exact .inr ⟨q, e', .inl rfl⟩
    refine ⟨rawX true wl, rdX true wl s.tx.length, tdX true wl s.at', _, fstep_is true s wl, ?_, ?_⟩
    · have := word_raw (A := s.tx) (R := []) (tx := s.tx ++ rawX true wl) hx (by rw [List.append_nil]) (hend _)
      rwa [List.append_nil] at this
    · rw [prep_app, prep_rawX hx.1 hx.2.1, hat]
      have := word_prep (A := preparedOf s.tx) (R := []) (px := preparedOf s.tx ++ prpX true wl) hx (by rw [List.append_nil]) (hend _)
      rwa [List.append_nil] at this
  | x :: ws, s, hw, hat => by
    have hx : ∀ R, XOk false x R := fun R => by
      obtain ⟨h1, h2, h3⟩ := hw x (.head _)
      refine ⟨h1, h2, ?_⟩
      rcases h3 with ⟨q, e⟩ | ⟨q, e, e'⟩
      · exact .inl ⟨q, fun h => by cases h⟩
      · exact .inr ⟨q, e', .inr e⟩
    have e : goF (x :: ws ++ [wl]) s = goF (ws ++ [wl]) (fstep false s x) := by
      show goF (ws ++ [wl]) (fstep (ws ++ [wl]).isEmpty s x) = _
      rw [show (ws ++ [wl]).isEmpty = false by cases ws <;> rfl]
    have hp := prep_rawX (last := false) (hx []).1 (hx []).2.1
    obtain ⟨X, rd, td, a, h1, h2, h3⟩ := go_main wl hl ws (fstep false s x) (fun y hy => hw y (.tail _ hy)) (by
      rw [fstep_is]
      dsimp only
      rw [prep_app, hp, List.length_append, prpX_len, hat])
    rw [fstep_is] at h1 h2 h3
    dsimp only at h1 h2 h3
    refine ⟨rawX false x ++ X, rdX false x s.tx.length ++ rd, tdX false x s.at' ++ td, a, ?_, ?_, ?_⟩
    · rw [e, fstep_is, h1]
      simp only [List.append_assoc]
    · rw [List.append_assoc] at h2
      rw [List.append_assoc]
      exact word_raw (A := s.tx) (hx X) rfl h2
    · rw [List.append_assoc] at h3
      rw [List.append_assoc, prep_app (rawX false x), hp, hat]
      refine word_prep (A := preparedOf s.tx) (hx _) ?_ h3
      rw [prep_app, prep_app, hp]
end Mine
end
/-! ## Ps -/
section
namespace Mine
theorem plain : Plain := by
  intro ws wl hw hl
  obtain ⟨X, rd, td, a, h1, h2, h3⟩ := go_main wl hl ws ⟨[], [], [], 0⟩ hw rfl
  rw [goF_file] at h1
  rw [h1]
  dsimp only [List.nil_append] at h2 h3 ⊢
  exact ⟨chain_ch.mpr h2, chain_ch.mpr h3⟩
end Mine
end
/-! ## Ws -/
section
open PySem PySem.W PyProof.Rows PySem.Calls
namespace Mine
/-! the row is well said -/
abbrev lw : OpenLaw := PySem.Challenge.rw_pk0103_01
abbrev lp : Program := lw.row.prog
theorem said_bare : (["vars", "dir", "locals"] : List Str).filter (readsOut lp lp.main.body) = [] := by decide +kernel
theorem said_strict : (!(importedModules lp.main.body).all cThrough.contains) = false := by decide +kernel
theorem said_noroad : noRoadLSs { strict := false, foot := none, bare := [] } lp.main.body = true := by decide +kernel
theorem said_looks : looksOpen lp = true := by
  unfold looksOpen
  rw [said_bare, said_strict]
  refine look_both (look_both (look_both (look_both (look_both ?_ ?_) ?_) ?_) said_noroad) ?_
  all_goals decide +kernel
theorem said_row : lw.row.wellSaid = true := by
  unfold OpenRow.wellSaid OpenRow.partSaid
  repeat' (with_reducible refine look_both ?_ ?_)
  · exact said_looks
  all_goals decide +kernel
theorem said : lw.wellSaid = true := by
  unfold OpenLaw.wellSaid
  repeat' (with_reducible refine look_both ?_ ?_)
  · exact said_row
  all_goals decide +kernel
end Mine
end
open PySem PySem.W PyProof.Rows PySem.Calls
set_option maxRecDepth 100000 in
set_option maxHeartbeats 8000000 in
theorem PySem.Challenge.cw_pk0103_01_holds : PySem.Challenge.rw_pk0103_01.Holds :=
  holds_law Mine.said fun said => Mine.rowHolds Mine.plain said (by w_witness2)
