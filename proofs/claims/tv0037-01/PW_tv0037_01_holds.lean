import PyProof.Rows.All
import Wide.All
import OpenK.AllK
import Wide.FinOn
import PySem.Challenge.RW_tv0037_01
set_option Elab.async false
namespace Mine
section
open PySem PySem.W PyProof.Rows
set_option maxRecDepth 100000 in
set_option maxHeartbeats 8000000 in
open_top hd for PySem.Challenge.rw_tv0037_01
end
end Mine
section
open PySem PySem.W PyProof.Rows PySem.Calls
set_option autoImplicit false
namespace Mine

/- a def's own names, its cells beside them -/
noncomputable abbrev envX (name : Str) (scope : Scope) (L a : Addr) (cd : Value) (cl : List (Str × Addr)) : Env := { envOf name scope L a cd with cells := cl }

noncomputable abbrev Fz := Addr → Option Obj
noncomputable def Le (F F' : Fz) : Prop := ∀ a o, F a = some o → F' a = some o
theorem Le.refl (F : Fz) : Le F F := fun _ _ e => e
theorem Le.trans {F F' F'' : Fz} (x : Le F F') (y : Le F' F'') : Le F F'' := fun a o e => y a o (x a o e)
noncomputable def ins (F : Fz) (a : Addr) (o : Obj) : Fz := fun b => if b = a then some o else F b
theorem Le.ins {F : Fz} {a : Addr} {o : Obj} (h : F a = none) : Le F (ins F a o) := fun b o' e => by
  unfold Mine.ins
  by_cases hb : b = a
  · subst hb; rw [h] at e; cases e
  · rw [if_neg hb]; exact e
theorem ins_self (F : Fz) (a : Addr) (o : Obj) : ins F a o a = some o := if_pos rfl

noncomputable abbrev KF (w : World) : Frag := hd.heap_39 w.params

/- what the top has left, under any heap that bears F -/
structure Base (w : World) (F : Fz) : Prop where
  k : ∀ a o, (KF w).lookup a = some o → F a = some o
  glob : ∃ mg mb, (∀ h : Heap, (∀ a o, F a = some o → h.get? a = some o) → h.Ns mainGlobals mg ∧ h.Ns builtinsNs mb ∧ h.NoLimit ∧ CodeHd h 83 79 ∧ CodeHd h 100 96) ∧
    (∀ x : Str, x ≠ "__name__" → mb x = bootBuiltins x) ∧
    (∃ bm ob, mg "__builtins__" = some (.ref bm) ∧ bm ≠ builtinsNs ∧ F bm = some ob ∧ ob.cls = .type "module" ∧ ob.dict = some builtinsNs ∧ ob.data = .plain)
theorem Base.up {w : World} {F F' : Fz} (B : Base w F) (l : Le F F') : Base w F' := by
  obtain ⟨k, mg, mb, h1, h2, bm, ob, h3, h4, h5, h6⟩ := B
  exact ⟨fun a o e => l _ _ (k a o e), mg, mb, fun h hh => h1 h fun a o e => hh a o (l _ _ e), h2, bm, ob, h3, h4, l _ _ h5, h6⟩

/- a lambda's place in its def's table of codes -/
noncomputable def TabIn (h : Heap) (F : Fz) (P : Addr) (pos : Pos) (q : Str) : Prop :=
  ∃ ps, h.get? P = some (tabObj ps) ∧ (ps = #[] ∨ ∃ c oc vs t, ps = #[rawInt pos.line, rawInt pos.col, .ref c] ∧ F c = some oc ∧ oc.data = .fields vs ∧ vs[1]? = some (.str q t))

/- where the two lambdas stand -/
noncomputable def lamS : Pos := ⟨68, 49, 68, 84⟩
noncomputable def lamJ : Pos := ⟨99, 50, 99, 87⟩

structure St (w : World) (h : Heap) (F : Fz) (M : List (Addr × Obj)) : Prop where
  b : Base w F
  f : ∀ a o, F a = some o → h.get? a = some o
  m : ∀ p ∈ M, h.get? p.1 = some p.2
  nd : (M.map (·.1)).Nodup
  fm : ∀ p ∈ M, F p.1 = none
  t1 : F 79 = none ∧ F 96 = none
  t2 : ∀ p ∈ M, p.1 ≠ 79 ∧ p.1 ≠ 96
  t3 : TabIn h F 79 lamS "split_header_words.<locals>.<lambda>" ∧ TabIn h F 96 lamJ "join_header_words.<locals>.<lambda>"

theorem TabIn.up {h h' : Heap} {F F' : Fz} {P : Addr} {pos : Pos} {q : Str} (t : TabIn h F P pos q) (hp : ∀ o, h.get? P = some o → h'.get? P = some o) (l : Le F F') : TabIn h' F' P pos q := by
  obtain ⟨ps, e, r⟩ := t
  refine ⟨ps, hp _ e, r.imp id ?_⟩
  rintro ⟨c, oc, vs, t, a1, a2, a3, a4⟩
  exact ⟨c, oc, vs, t, a1, l _ _ a2, a3, a4⟩

section
variable {w : World} {h h' : Heap} {F F' : Fz} {M M' M1 M2 : List (Addr × Obj)} {a : Addr} {o o' : Obj}
theorem St.ext (S : St w h F M) (k : ∀ b o, h.get? b = some o → h'.get? b = some o) : St w h' F M :=
  ⟨S.b, fun a o e => k _ _ (S.f a o e), fun p hp => k _ _ (S.m p hp), S.nd, S.fm, S.t1, S.t2, S.t3.1.up (fun _ e => k _ _ e) (Le.refl _), S.t3.2.up (fun _ e => k _ _ e) (Le.refl _)⟩
theorem St.sub (S : St w h F M) (l : M'.Sublist M) : St w h F M' :=
  ⟨S.b, S.f, fun p hp => S.m p (l.subset hp), S.nd.sublist (l.map _), fun p hp => S.fm p (l.subset hp), S.t1, fun p hp => S.t2 p (l.subset hp), S.t3⟩
theorem St.tl {p : Addr × Obj} (S : St w h F (p :: M)) : St w h F M := S.sub (List.sublist_cons_self _ _)
theorem St.perm (S : St w h F M) (l : M.Perm M') : St w h F M' :=
  ⟨S.b, S.f, fun p hp => S.m p (l.mem_iff.mpr hp), (l.map _).nodup_iff.mp S.nd, fun p hp => S.fm p (l.mem_iff.mpr hp), S.t1, fun p hp => S.t2 p (l.mem_iff.mpr hp), S.t3⟩
theorem St.none_of_size (S : St w h F M) (hs : h.objs.size ≤ a) : F a = none ∧ (∀ p ∈ M, p.1 ≠ a) ∧ a ≠ 79 ∧ a ≠ 96 := by
  have hn : h.get? a = none := Heap.get?_none_of_le hs
  refine ⟨?_, fun p hp e => ?_, ?_, ?_⟩
  · cases q : F a with
    | none => rfl
    | some o => rw [S.f _ _ q] at hn; cases hn
  · have := S.m p hp; rw [e, hn] at this; cases this
  · rintro rfl; obtain ⟨ps, e, _⟩ := S.t3.1; rw [hn] at e; cases e
  · rintro rfl; obtain ⟨ps, e, _⟩ := S.t3.2; rw [hn] at e; cases e
/- a new object that may be changed -/
theorem St.newAt (S : St w h F M) (k : ∀ b o, h.get? b = some o → h'.get? b = some o) (hs : h.objs.size ≤ a) (ho : h'.get? a = some o) : St w h' F ((a, o) :: M) := by
  obtain ⟨n1, n2, n3, n4⟩ := S.none_of_size hs
  have S' := S.ext k
  refine ⟨S'.b, S'.f, fun p hp => ?_, ?_, fun p hp => ?_, S'.t1, fun p hp => ?_, S'.t3⟩
  · rcases List.mem_cons.mp hp with rfl | hp
    · exact ho
    · exact S'.m p hp
  · rw [List.map_cons, List.nodup_cons]
    refine ⟨fun hm => ?_, S'.nd⟩
    obtain ⟨p, hp, e⟩ := List.mem_map.mp hm
    exact n2 p hp e
  · rcases List.mem_cons.mp hp with rfl | hp
    · exact n1
    · exact S'.fm p hp
  · rcases List.mem_cons.mp hp with rfl | hp
    · exact ⟨n3, n4⟩
    · exact S'.t2 p hp
theorem St.push (S : St w h F M) (hf : o.isFreed = false) : St w (h.push o) F ((h.objs.size, o) :: M) :=
  S.newAt (fun _ _ e => Heap.get?_push_of_some _ e) (Nat.le_refl _) (Heap.get?_push_size _ hf)
/- an object that is changed no more -/
theorem St.freeze (S : St w h F ((a, o) :: M)) : St w h (ins F a o) M ∧ Le F (ins F a o) := by
  have hn := S.fm _ (.head _)
  have l : Le F (ins F a o) := Le.ins hn
  have nd := S.nd
  rw [List.map_cons, List.nodup_cons] at nd
  refine ⟨⟨S.b.up l, fun b o' e => ?_, fun p hp => S.m p (.tail _ hp), nd.2, fun p hp => ?_, ?_, fun p hp => S.t2 p (.tail _ hp), S.t3.1.up (fun _ e => e) l, S.t3.2.up (fun _ e => e) l⟩, l⟩
  · unfold Mine.ins at e
    split at e
    · rename_i q; cases e; rw [q]; exact S.m _ (.head _)
    · exact S.f _ _ e
  · unfold Mine.ins
    rw [if_neg fun q => nd.1 (List.mem_map.mpr ⟨p, hp, q⟩)]
    exact S.fm p (.tail _ hp)
  · have := S.t2 _ (.head _)
    unfold Mine.ins
    rw [if_neg (Ne.symm this.1), if_neg (Ne.symm this.2)]
    exact S.t1
theorem St.newF (S : St w h F M) (k : ∀ b o, h.get? b = some o → h'.get? b = some o) (hs : h.objs.size ≤ a) (ho : h'.get? a = some o) : St w h' (ins F a o) M ∧ Le F (ins F a o) :=
  (S.newAt k hs ho).freeze
theorem St.pushF (S : St w h F M) (hf : o.isFreed = false) : St w (h.push o) (ins F h.objs.size o) M ∧ Le F (ins F h.objs.size o) := (S.push hf).freeze
/- a change at one place -/
theorem St.upd (S : St w h F (M1 ++ (a, o) :: M2)) (k : Heap.ExtBut a h h') (ho : h'.get? a = some o') : St w h' F (M1 ++ (a, o') :: M2) := by
  have nd := S.nd
  have hm : (a, o) ∈ M1 ++ (a, o) :: M2 := List.mem_append_right _ (.head _)
  have fa := S.fm _ hm
  have ta := S.t2 _ hm
  have ha : ∀ p, p ∈ M1 ∨ p ∈ M2 → p.1 ≠ a := by
    intro p hp e
    rw [List.map_append, List.map_cons, List.nodup_append] at nd
    obtain ⟨_, n2, n3⟩ := nd
    rw [List.nodup_cons] at n2
    rcases hp with hp | hp
    · exact n3 p.1 (List.mem_map.mpr ⟨p, hp, rfl⟩) a (.head _) e
    · exact n2.1 (List.mem_map.mpr ⟨p, hp, e⟩)
  have cases' : ∀ p, p ∈ M1 ++ (a, o') :: M2 → p = (a, o') ∨ ((p ∈ M1 ∨ p ∈ M2) ∧ p ∈ M1 ++ (a, o) :: M2) := by
    intro p hp
    rcases List.mem_append.mp hp with hp | hp
    · exact .inr ⟨.inl hp, List.mem_append_left _ hp⟩
    · rcases List.mem_cons.mp hp with hp | hp
      · exact .inl hp
      · exact .inr ⟨.inr hp, List.mem_append_right _ (.tail _ hp)⟩
  refine ⟨S.b, fun b o1 e => k b o1 (fun q => ?_) (S.f _ _ e), fun p hp => ?_, ?_, fun p hp => ?_, S.t1, fun p hp => ?_, S.t3.1.up (fun _ e => k _ _ (Ne.symm ta.1) e) (Le.refl _), S.t3.2.up (fun _ e => k _ _ (Ne.symm ta.2) e) (Le.refl _)⟩
  · rw [q, fa] at e; cases e
  · rcases cases' p hp with rfl | ⟨q, hp⟩
    · exact ho
    · exact k _ _ (ha p q) (S.m p hp)
  · rw [List.map_append, List.map_cons] at nd ⊢; exact nd
  · rcases cases' p hp with rfl | ⟨q, hp⟩
    · exact fa
    · exact S.fm p hp
  · rcases cases' p hp with rfl | ⟨q, hp⟩
    · exact ta
    · exact S.t2 p hp
end

/- the frame's names, as far as they are known -/
noncomputable def NsO (o : Obj) (V : List (Str × Value)) : Prop := ∃ es ep, o.data = .dict es ep ∧ StrKeys es ∧ ∀ x v, V.lookup x = some v → nsFind es x = some v
noncomputable def Sf (w : World) (h : Heap) (F : Fz) (M : List (Addr × Obj)) (L : Addr) (V : List (Str × Value)) : Prop := ∃ oL, St w h F ((L, oL) :: M) ∧ NsO oL V

section
variable {w : World} {h h' : Heap} {F F' : Fz} {M M' M1 M2 : List (Addr × Obj)} {a L : Addr} {o o' : Obj} {V V' : List (Str × Value)}
theorem Sf.st (S : Sf w h F M L V) : St w h F M := let ⟨_, s, _⟩ := S; s.tl
theorem Sf.f (S : Sf w h F M L V) {a : Addr} {o : Obj} (e : F a = some o) : h.get? a = some o := S.st.f _ _ e
theorem Sf.m (S : Sf w h F M L V) {a : Addr} {o : Obj} (e : (a, o) ∈ M) : h.get? a = some o := S.st.m _ e
theorem Sf.ns (S : Sf w h F M L V) : ∃ m, h.Ns L m ∧ ∀ x v, V.lookup x = some v → m x = some v := by
  obtain ⟨oL, s, es, ep, d, k, f⟩ := S
  exact ⟨fun x => nsFind es x, ⟨oL, es, ep, s.m _ (.head _), d, k, fun _ => rfl⟩, f⟩
theorem Sf.ext (S : Sf w h F M L V) (k : ∀ b o, h.get? b = some o → h'.get? b = some o) : Sf w h' F M L V := let ⟨oL, s, n⟩ := S; ⟨oL, s.ext k, n⟩
theorem Sf.sub (S : Sf w h F M L V) (l : M'.Sublist M) : Sf w h F M' L V := let ⟨oL, s, n⟩ := S; ⟨oL, s.sub (l.cons_cons _), n⟩
theorem Sf.tl {p : Addr × Obj} (S : Sf w h F (p :: M) L V) : Sf w h F M L V := S.sub (List.sublist_cons_self _ _)
theorem Sf.perm (S : Sf w h F M L V) (l : M.Perm M') : Sf w h F M' L V := let ⟨oL, s, n⟩ := S; ⟨oL, s.perm (l.cons _), n⟩
theorem Sf.swap {p q : Addr × Obj} (S : Sf w h F (p :: q :: M) L V) : Sf w h F (q :: p :: M) L V := S.perm (.swap _ _ _)
theorem Sf.newAt (S : Sf w h F M L V) (k : ∀ b o, h.get? b = some o → h'.get? b = some o) (hs : h.objs.size ≤ a) (ho : h'.get? a = some o) : Sf w h' F ((a, o) :: M) L V :=
  let ⟨oL, s, n⟩ := S; ⟨oL, (s.newAt k hs ho).perm (.swap _ _ _), n⟩
theorem Sf.push (S : Sf w h F M L V) (hf : o.isFreed = false) : Sf w (h.push o) F ((h.objs.size, o) :: M) L V :=
  S.newAt (fun _ _ e => Heap.get?_push_of_some _ e) (Nat.le_refl _) (Heap.get?_push_size _ hf)
theorem Sf.freeze (S : Sf w h F ((a, o) :: M) L V) : Sf w h (ins F a o) M L V ∧ Le F (ins F a o) :=
  let ⟨oL, s, n⟩ := S; let z := (s.perm (.swap _ _ _)).freeze; ⟨⟨oL, z.1, n⟩, z.2⟩
theorem Sf.newF (S : Sf w h F M L V) (k : ∀ b o, h.get? b = some o → h'.get? b = some o) (hs : h.objs.size ≤ a) (ho : h'.get? a = some o) : Sf w h' (ins F a o) M L V ∧ Le F (ins F a o) :=
  (S.newAt k hs ho).freeze
theorem Sf.pushF (S : Sf w h F M L V) (hf : o.isFreed = false) : Sf w (h.push o) (ins F h.objs.size o) M L V ∧ Le F (ins F h.objs.size o) := (S.push hf).freeze
theorem Sf.upd (S : Sf w h F (M1 ++ (a, o) :: M2) L V) (k : Heap.ExtBut a h h') (ho : h'.get? a = some o') : Sf w h' F (M1 ++ (a, o') :: M2) L V :=
  let ⟨oL, s, n⟩ := S; ⟨oL, St.upd (M1 := (L, oL) :: M1) s k ho, n⟩
theorem Sf.upd0 (S : Sf w h F ((a, o) :: M2) L V) (k : Heap.ExtBut a h h') (ho : h'.get? a = some o') : Sf w h' F ((a, o') :: M2) L V := Sf.upd (M1 := []) S k ho
theorem Sf.sto {x : Str} {v : Value} {m : Str → Option Value} (S : Sf w h F M L V) (hm : h.Ns L m) (hn : h'.Ns L (fun y => if y = x then some v else m y)) (k : Heap.SameBut L h h') : Sf w h' F M L ((x, v) :: V) := by
  obtain ⟨oL, s, es, ep, d, kk, f⟩ := S
  obtain ⟨o1, es1, ep1, e1, d1, k1, f1⟩ := hm
  have := s.m _ (.head _)
  rw [this] at e1; cases e1
  rw [d] at d1; cases d1
  obtain ⟨o2, es2, ep2, e2, d2, k2, f2⟩ := hn
  refine ⟨o2, St.upd (M1 := []) s k.extBut e2, es2, ep2, d2, k2, fun y u hy => ?_⟩
  rw [f2]
  show (if y = x then some v else m y) = some u
  rw [List.lookup_cons] at hy
  by_cases q : y = x
  · subst q; rw [if_pos rfl]; simpa using hy
  · rw [if_neg q, ← f1]
    have : (y == x) = false := beq_eq_false_iff_ne.mpr q
    rw [this] at hy
    exact f _ _ hy
end

structure Cx (A : Around) (d u : Nat) : Prop where
  hd : A.handled = none
  dp : A.depth + d < recursionLimit
  un : A.units + u < cLine
theorem Cx.mono {A : Around} {d u d' u' : Nat} (C : Cx A d u) (h1 : d' ≤ d := by first | with_reducible assumption | decide | lia | omega) (h2 : u' ≤ u := by first | with_reducible assumption | decide | lia | omega) : Cx A d' u' := ⟨C.hd, by have := C.dp; first | with_reducible assumption | decide | lia | omega, by have := C.un; first | with_reducible assumption | decide | lia | omega⟩
theorem Cx.deeper {A : Around} {d u : Nat} {env : Env} (C : Cx A (d + 1) (u + 3)) : Cx (A.deeper env) d u :=
  ⟨C.hd, by have := C.dp; show A.depth + 1 + d < _; first | with_reducible assumption | decide | lia | omega, by have := C.un; show A.units + 3 + u < _; first | with_reducible assumption | decide | lia | omega⟩
theorem Cx.in1 {A : Around} {d u : Nat} (C : Cx A d (u + 1)) : Cx A.in1 d u := ⟨C.hd, C.dp, by have := C.un; show A.units + 1 + u < _; first | with_reducible assumption | decide | lia | omega⟩

/- a call that changes nothing that stood before it -/
noncomputable def Fn (w : World) (f : Value) (args : List Value) (F : Fz) (D U : Nat) (P : Fz → Value → Prop) : Prop :=
  ∀ {prog : Program} {A : Around} {M : List (Addr × Obj)} {h : Heap} {g : Array GenState} {d : Drawn} {tk : Nat} {os : OsState} {Q E : Value → Shared → Prop}, Cx A D U → St w h F M →
    (∀ F' h' tk' v, Le F F' → St w h' F' M → P F' v → Q v ⟨h', g, d, tk', os⟩) → wpAny (model prog w) A (call f args) Q E ⟨h, g, d, tk, os⟩

section
variable {prog : Program} {w : World} {A : Around} {E : Value → Shared → Prop} {h : Heap} {F : Fz} {M : List (Addr × Obj)} {L a : Addr} {V : List (Str × Value)} {g : Array GenState} {d : Drawn} {tk : Nat} {os : OsState}
  {cn : Str} {cs : Scope} {cd : Value} {cl : List (Str × Addr)}

theorem Fn.use {f : Value} {args : List Value} {D U : Nat} {P : Fz → Value → Prop} {Q : Value → Shared → Prop} (R : Fn w f args F D U P) (C : Cx A D U) (S : Sf w h F M L V)
    (H : ∀ F' h' tk' v, Le F F' → Sf w h' F' M L V → P F' v → Q v ⟨h', g, d, tk', os⟩) : wpAny (model prog w) A (call f args) Q E ⟨h, g, d, tk, os⟩ :=
  let ⟨oL, s, n⟩ := S
  R C s fun F' h' tk' v l s' p => H F' h' tk' v l ⟨oL, s', n⟩ p

/- the same, what the call gives back taken apart -/
theorem Fn.useT {f : Value} {args : List Value} {D U : Nat} {x : Str} {Q : Value → Shared → Prop} (R : Fn w f args F D U (fun _ v => ∃ t, v = .str x t)) (C : Cx A D U) (S : Sf w h F M L V)
    (H : ∀ F' h' tk' t, Le F F' → Sf w h' F' M L V → Q (.str x t) ⟨h', g, d, tk', os⟩) : wpAny (model prog w) A (call f args) Q E ⟨h, g, d, tk, os⟩ :=
  Fn.use R C S fun F' h' tk' v le S' p => by obtain ⟨t, rfl⟩ := p; exact H F' h' tk' t le S'
theorem Fn.useM {f : Value} {args : List Value} {D U : Nat} {K : Fz → Addr → Prop} {Q : Value → Shared → Prop} (R : Fn w f args F D U (fun F' v => ∃ a, v = .ref a ∧ K F' a)) (C : Cx A D U) (S : Sf w h F M L V)
    (H : ∀ F' h' tk' a, Le F F' → Sf w h' F' M L V → K F' a → Q (.ref a) ⟨h', g, d, tk', os⟩) : wpAny (model prog w) A (call f args) Q E ⟨h, g, d, tk, os⟩ :=
  Fn.use R C S fun F' h' tk' v le S' p => by obtain ⟨t, rfl, q⟩ := p; exact H F' h' tk' t le S' q
theorem Fn.useN {f : Value} {args : List Value} {D U : Nat} {Q : Value → Shared → Prop} (R : Fn w f args F D U (fun _ v => v = .none)) (C : Cx A D U) (S : Sf w h F M L V)
    (H : ∀ F' h' tk', Le F F' → Sf w h' F' M L V → Q .none ⟨h', g, d, tk', os⟩) : wpAny (model prog w) A (call f args) Q E ⟨h, g, d, tk, os⟩ :=
  Fn.use R C S fun F' h' tk' v le S' p => by subst p; exact H F' h' tk' le S'
theorem r_name {x : Str} {pos : Pos} {v : Value} {Q : Value → Shared → Prop} (S : Sf w h F M L V) (hv : V.lookup x = some v) (H : Q v ⟨h, g, d, tk, os⟩)
    (hk : cs.kind = .function := by rfl) (hl : (envX cn cs L a cd cl).kindOf x = some .local := by rfl) (hd : (x == ("__debug__" : Str)) = false := by decide) :
    wpAny (model prog w) A (eval (.Name x pos) (envX cn cs L a cd cl)) Q E ⟨h, g, d, tk, os⟩ :=
  let ⟨_, n, f⟩ := S.ns
  wpAny_Name (wpAny_loadName_local hk hl n (f _ _ hv) H) hd

theorem r_store {x : Str} {v : Value} {Q : Unit → Shared → Prop} (S : Sf w h F M L V) (H : ∀ h' tk', Sf w h' F M L ((x, v) :: V) → Q () ⟨h', g, d, tk', os⟩)
    (hk : cs.kind = .function := by rfl) (hl : (envX cn cs L a cd cl).kindOf x = some .local := by rfl) :
    wpAny (model prog w) A (storeName (envX cn cs L a cd cl) x v) Q E ⟨h, g, d, tk, os⟩ :=
  let ⟨_, n, _⟩ := S.ns
  wpAny_storeName_local hl n (fun h' hn hs => H h' _ (S.sto n hn hs)) (by show (cs.kind == .class || (cs.kind == .module && L != mainGlobals)) = false; rw [hk]; rfl)

theorem r_global {x : Str} {pos : Pos} {v : Value} {Q : Value → Shared → Prop} (S : Sf w h F M L V) (e : nsIn (KF w) mainGlobals x = some (some v)) (H : Q v ⟨h, g, d, tk, os⟩)
    (hk : cs.kind = .function := by rfl) (hl : (envX cn cs L a cd cl).kindOf x = some .globalImplicit := by rfl) (hd : (x == ("__debug__" : Str)) = false := by decide) :
    wpAny (model prog w) A (eval (.Name x pos) (envX cn cs L a cd cl)) Q E ⟨h, g, d, tk, os⟩ := by
  obtain ⟨mg, mb, h1, _⟩ := S.st.b.glob
  have n := h1 h fun a o e => S.f e
  have X : (KF w).In h := fun a o e => S.f (S.st.b.k _ _ e)
  exact Name_function_global hk hl (loadGlobal_global (env := envX cn cs L a cd cl) n.1 (mg_of X n.1 e) H) hd

theorem r_builtin {x : Str} {pos : Pos} {v : Value} {Q : Value → Shared → Prop} (S : Sf w h F M L V) (e : nsIn (KF w) mainGlobals x = some none) (hv : bootBuiltins x = some v) (hn : x ≠ "__name__") (H : Q v ⟨h, g, d, tk, os⟩)
    (hk : cs.kind = .function := by rfl) (hl : (envX cn cs L a cd cl).kindOf x = some .globalImplicit := by rfl) (hd : (x == ("__debug__" : Str)) = false := by decide) :
    wpAny (model prog w) A (eval (.Name x pos) (envX cn cs L a cd cl)) Q E ⟨h, g, d, tk, os⟩ := by
  obtain ⟨mg, mb, h1, h2, _⟩ := S.st.b.glob
  have n := h1 h fun a o e => S.f e
  have X : (KF w).In h := fun a o e => S.f (S.st.b.k _ _ e)
  exact Name_function_global hk hl (loadGlobal_builtin (env := envX cn cs L a cd cl) n.1 (mg_none_of X n.1 e) n.2.1 ((h2 x hn).trans hv) H) hd

theorem lookup_rev {l : List (Str × Value)} {x : Str} {v : Value} (hn : (l.map (·.1)).Nodup) (e : l.lookup x = some v) : l.reverse.lookup x = some v := by
  have mem : ∀ {l : List (Str × Value)}, l.lookup x = some v → (x, v) ∈ l := by
    intro l
    induction l with
    | nil => intro e; cases e
    | cons p r ih =>
      obtain ⟨y, u⟩ := p
      intro e
      rw [List.lookup_cons] at e
      by_cases q : (x == y) = true
      · rw [q] at e; cases e; rw [beq_iff_eq.mp q]; exact .head _
      · have : (x == y) = false := by simpa using q
        rw [this] at e; exact .tail _ (ih e)
  have of : ∀ {l : List (Str × Value)}, (l.map (·.1)).Nodup → (x, v) ∈ l → l.lookup x = some v := by
    intro l
    induction l with
    | nil => intro _ h; cases h
    | cons p r ih =>
      obtain ⟨y, u⟩ := p
      intro hn hm
      rw [List.map_cons, List.nodup_cons] at hn
      rw [List.lookup_cons]
      rcases List.mem_cons.mp hm with q | q
      · cases q; simp
      · have : (x == y) = false := beq_eq_false_iff_ne.mpr fun e => hn.1 (List.mem_map.mpr ⟨_, q, e⟩)
        rw [this]; exact ih hn.2 q
  exact of (by rw [List.map_reverse]; exact (List.reverse_perm _).nodup_iff.mpr hn) (List.mem_reverse.mpr (mem e))
/- a def is entered -/
theorem enter {args : List Value} {oc : Value} {od : Option Addr} {osl : Array (Option Value)} {name qual : Str} {params : Arguments} {body : List Stmt} {scope : Scope} {dV kV doc pm cdv ct : Value} {an : Option Addr} {binds : List (Str × Value)}
    {Q : Value → Shared → Prop} {D U : Nat} (C : Cx A (D + 1) (U + 3)) (S : St w h F M)
    (ho : (KF w).lookup a = some ⟨oc, od, .func (fnOf name qual params body scope dV kV doc pm an cdv ct), osl⟩) (hcd : codeIn (KF w) cdv qual = true)
    (hbind : bindArgs (fnOf name qual params body scope dV kV doc pm an cdv ct) ⟨args, []⟩ = pure binds) (hloc : (binds.all fun x => decide (scope.names.lookup x.1 = some .local)) = true)
    (H : ∀ h' tk' L E', Sf w h' F M L binds → Cx (A.deeper (envOf qual scope L a cdv)) D U →
      wpAny (model prog w) (A.deeper (envOf qual scope L a cdv)) (execs body (envOf qual scope L a cdv)) (fun fl s' => Q (match fl with | .ret v => v | _ => .none) s') E' ⟨h', g, d, tk', os⟩)
    (hnd : decide (binds.map (·.1)).Nodup = true := by exact rfl)
    (hco : scope.isCoroutine = false := by rfl) (hgen : scope.isGenerator = false := by rfl) (hk : scope.kind = .function := by rfl)
    (hcell : ∀ x ∈ scope.names, x.2 ≠ .cell := by decide) : wpAny (model prog w) A (call (.ref a) args) Q E ⟨h, g, d, tk, os⟩ := by
  have X : (KF w).In h := fun a o e => S.f _ _ (S.b.k _ _ e)
  obtain ⟨mg, mb, h1, _⟩ := S.b.glob
  refine wpAny_call (codeAny_call_function (by have := C.dp; first | with_reducible assumption | decide | lia | omega) (X _ _ ho) rfl hco hgen rfl (codeRec_of X hcd) ?_)
  rw [hbind]
  refine wpAny_pure (wpAny_newFunctionEnv hcell (locs hloc) (fun h₁ hns hsb => ⟨?_, ?_⟩) hk)
  · exact (h1 h fun a o e => S.f _ _ e).2.2.1.fresh _ hsb
  · show codeAny _ _ (.func body (envOf qual scope h.objs.size a cdv)) _ _
    refine codeAny_func (H h₁ _ h.objs.size _ ?_ C.deeper)
    obtain ⟨o2, es2, ep2, e2, d2, k2, f2⟩ := hns
    exact ⟨o2, S.newAt (fun b o e => hsb.extBut b o (Nat.ne_of_lt (Heap.lt_size e)) (Heap.get?_push_of_some _ e)) (Nat.le_refl _) e2, es2, ep2, d2, k2, fun x v hx => (f2 x).trans (lookup_rev (of_decide_eq_true hnd) hx)⟩
end
end Mine
end
section
open PySem PySem.W PyProof.Rows PySem.Calls
set_option autoImplicit false
set_option maxRecDepth 100000
namespace Mine
open PySem.Builtin

theorem pa_pat : PlainAttrs "re.Pattern" :=
  ⟨⟨"object.__getattribute__", by rw [typeLookup_type, builtinLookup_eq_fast]; kernel_rfl, by rw [S.canonicalZ_eq]; decide +kernel⟩, by rw [typeLookup_type, builtinLookup_eq_fast]; kernel_rfl⟩
theorem pa_mat : PlainAttrs "re.Match" :=
  ⟨⟨"object.__getattribute__", by rw [typeLookup_type, builtinLookup_eq_fast]; kernel_rfl, by rw [S.canonicalZ_eq]; decide +kernel⟩, by rw [typeLookup_type, builtinLookup_eq_fast]; kernel_rfl⟩
theorem slot_span : Slot "re.Match" "span" "re.Match.span" :=
  .of (owner := "re.Match") (n := "span") (by rw [typeLookup_type, builtinLookup_eq_fast]; kernel_rfl) (by decide +kernel) (by decide +kernel) (by decide +kernel)
    (by rw [S.findZ_eq]; first | exact .inl (by decide +kernel) | exact .inr (by decide +kernel)) (by rw [isSubtype_type]; kernel_rfl)
theorem type_span : typeOf (.builtin "re.Match.span") = pure (.type "method_descriptor") := by show builtinType _ = _; rw [builtinType_eq_fast]; kernel_rfl
theorem entry_span : entryFor table "re.Match.span" = some Builtin.«re.Match.span» := entryFor_of_tree (by kernel_rfl)
theorem args_span (a b : Value) : argsOk "re.Match.span" ⟨[a, b], []⟩ := by unfold argsOk; rw [S.signatureZ_eq]; kernel_rfl
theorem slot_group : Slot "re.Match" "group" "re.Match.group" :=
  .of (owner := "re.Match") (n := "group") (by rw [typeLookup_type, builtinLookup_eq_fast]; kernel_rfl) (by decide +kernel) (by decide +kernel) (by decide +kernel)
    (by rw [S.findZ_eq]; first | exact .inl (by decide +kernel) | exact .inr (by decide +kernel)) (by rw [isSubtype_type]; kernel_rfl)
theorem type_group : typeOf (.builtin "re.Match.group") = pure (.type "method_descriptor") := by show builtinType _ = _; rw [builtinType_eq_fast]; kernel_rfl
theorem entry_group : entryFor table "re.Match.group" = some Builtin.«re.Match.group» := entryFor_of_tree (by kernel_rfl)
theorem args_group (a b : Value) : argsOk "re.Match.group" ⟨[a, b], []⟩ := by unfold argsOk; rw [S.signatureZ_eq]; kernel_rfl
theorem slot_search : Slot "re.Pattern" "search" "re.Pattern.search" :=
  .of (owner := "re.Pattern") (n := "search") (by rw [typeLookup_type, builtinLookup_eq_fast]; kernel_rfl) (by decide +kernel) (by decide +kernel) (by decide +kernel)
    (by rw [S.findZ_eq]; first | exact .inl (by decide +kernel) | exact .inr (by decide +kernel)) (by rw [isSubtype_type]; kernel_rfl)
theorem type_search : typeOf (.builtin "re.Pattern.search") = pure (.type "method_descriptor") := by show builtinType _ = _; rw [builtinType_eq_fast]; kernel_rfl
theorem entry_search : entryFor table "re.Pattern.search" = some Builtin.«re.Pattern.search» := entryFor_of_tree (by kernel_rfl)
theorem args_search (a b : Value) : argsOk "re.Pattern.search" ⟨[a, b], []⟩ := by unfold argsOk; rw [S.signatureZ_eq]; kernel_rfl
theorem slot_fullmatch : Slot "re.Pattern" "fullmatch" "re.Pattern.fullmatch" :=
  .of (owner := "re.Pattern") (n := "fullmatch") (by rw [typeLookup_type, builtinLookup_eq_fast]; kernel_rfl) (by decide +kernel) (by decide +kernel) (by decide +kernel)
    (by rw [S.findZ_eq]; first | exact .inl (by decide +kernel) | exact .inr (by decide +kernel)) (by rw [isSubtype_type]; kernel_rfl)
theorem type_fullmatch : typeOf (.builtin "re.Pattern.fullmatch") = pure (.type "method_descriptor") := by show builtinType _ = _; rw [builtinType_eq_fast]; kernel_rfl
theorem entry_fullmatch : entryFor table "re.Pattern.fullmatch" = some Builtin.«re.Pattern.fullmatch» := entryFor_of_tree (by kernel_rfl)
theorem args_fullmatch (a b : Value) : argsOk "re.Pattern.fullmatch" ⟨[a, b], []⟩ := by unfold argsOk; rw [S.signatureZ_eq]; kernel_rfl
theorem slot_sub : Slot "re.Pattern" "sub" "re.Pattern.sub" :=
  .of (owner := "re.Pattern") (n := "sub") (by rw [typeLookup_type, builtinLookup_eq_fast]; kernel_rfl) (by decide +kernel) (by decide +kernel) (by decide +kernel)
    (by rw [S.findZ_eq]; first | exact .inl (by decide +kernel) | exact .inr (by decide +kernel)) (by rw [isSubtype_type]; kernel_rfl)
theorem type_sub : typeOf (.builtin "re.Pattern.sub") = pure (.type "method_descriptor") := by show builtinType _ = _; rw [builtinType_eq_fast]; kernel_rfl
theorem entry_sub : entryFor table "re.Pattern.sub" = some Builtin.«re.Pattern.sub» := entryFor_of_tree (by kernel_rfl)
theorem args_sub (a b c : Value) : argsOk "re.Pattern.sub" ⟨[a, b, c], []⟩ := by unfold argsOk; rw [S.signatureZ_eq]; kernel_rfl
theorem slot_subn : Slot "re.Pattern" "subn" "re.Pattern.subn" :=
  .of (owner := "re.Pattern") (n := "subn") (by rw [typeLookup_type, builtinLookup_eq_fast]; kernel_rfl) (by decide +kernel) (by decide +kernel) (by decide +kernel)
    (by rw [S.findZ_eq]; first | exact .inl (by decide +kernel) | exact .inr (by decide +kernel)) (by rw [isSubtype_type]; kernel_rfl)
theorem type_subn : typeOf (.builtin "re.Pattern.subn") = pure (.type "method_descriptor") := by show builtinType _ = _; rw [builtinType_eq_fast]; kernel_rfl
theorem entry_subn : entryFor table "re.Pattern.subn" = some Builtin.«re.Pattern.subn» := entryFor_of_tree (by kernel_rfl)
theorem args_subn (a b c : Value) : argsOk "re.Pattern.subn" ⟨[a, b, c], []⟩ := by unfold argsOk; rw [S.signatureZ_eq]; kernel_rfl
theorem ga_mat : Slot "re.Match" "__getattribute__" "object.__getattribute__" :=
  .of (owner := "object") (n := "__getattribute__") (by rw [typeLookup_type, builtinLookup_eq_fast]; kernel_rfl) (by decide +kernel) (by decide +kernel) (by decide +kernel)
    (by rw [S.findZ_eq]; first | exact .inl (by decide +kernel) | exact .inr (by decide +kernel)) (by rw [isSubtype_type]; kernel_rfl)
theorem entry_ga : entryFor table "object.__getattribute__" = some Builtin.«object.__getattribute__» := entryFor_of_tree (by kernel_rfl)
theorem args_ga (a b : Value) : argsOk "object.__getattribute__" ⟨[a, b], []⟩ := by unfold argsOk; rw [S.signatureZ_eq]; kernel_rfl
theorem lk_string : typeLookup (.type "re.Match") "string" = pure (some (.builtin "re.Match.string")) := by rw [typeLookup_type, builtinLookup_eq_fast]; kernel_rfl
theorem type_string : typeOf (.builtin "re.Match.string") = pure (.type "member_descriptor") := by show builtinType _ = _; rw [builtinType_eq_fast]; kernel_rfl
theorem entry_string : entryFor table "re.Match.string" = some Builtin.«re.Match.string» := entryFor_of_tree (by kernel_rfl)
theorem slot_md_get : Slot "member_descriptor" "__get__" "member_descriptor.__get__" :=
  .of (owner := "member_descriptor") (n := "__get__") (by rw [typeLookup_type, builtinLookup_eq_fast]; kernel_rfl) (by decide +kernel) (by decide +kernel) (by decide +kernel)
    (by rw [S.findZ_eq]; first | exact .inl (by decide +kernel) | exact .inr (by decide +kernel)) (by rw [isSubtype_type]; kernel_rfl)
theorem slot_md_set : Slot "member_descriptor" "__set__" "member_descriptor.__set__" :=
  .of (owner := "member_descriptor") (n := "__set__") (by rw [typeLookup_type, builtinLookup_eq_fast]; kernel_rfl) (by decide +kernel) (by decide +kernel) (by decide +kernel)
    (by rw [S.findZ_eq]; first | exact .inl (by decide +kernel) | exact .inr (by decide +kernel)) (by rw [isSubtype_type]; kernel_rfl)
theorem entry_md_get : entryFor table "member_descriptor.__get__" = some Builtin.«member_descriptor.__get__» := entryFor_of_tree (by kernel_rfl)
theorem args_md_get (a b c : Value) : argsOk "member_descriptor.__get__" ⟨[a, b, c], []⟩ := by unfold argsOk; rw [S.signatureZ_eq]; kernel_rfl
theorem owner_string : (".".intercalate ("re.Match.string".cutAt '.').dropLast) = "re.Match" := by
  have e0 : "re.Match.string".cutAt '.' = ["re", "Match", "string"] := by first | rfl | decide +kernel
  rw [e0]; decide +kernel
theorem sub_mat : isSubtype (.type "re.Match") (.type "re.Match") = pure true := by rw [isSubtype_type]; kernel_rfl
theorem no_bool_mat : typeLookup (.type "re.Match") "__bool__" = pure none := by rw [typeLookup_type, builtinLookup_eq_fast]; kernel_rfl
theorem no_len_mat : typeLookup (.type "re.Match") "__len__" = pure none := by rw [typeLookup_type, builtinLookup_eq_fast]; kernel_rfl
end Mine
end
section
open PySem PySem.W PyProof.Rows PySem.Calls
set_option autoImplicit false
set_option maxRecDepth 100000
namespace Mine
open PySem.Builtin PySem.Builtin.Re
noncomputable def tupObj (vs : List Value) : Obj := { cls := .type "tuple", data := .seq vs.toArray }
noncomputable def matchObj (sv pv : Value) (pos lim : Nat) (li : Int) (t : Addr) : Obj := { cls := .type "re.Match", data := .fields [sv, pv, rawInt pos, rawInt lim, rawInt li, .ref t].toArray }

section
variable {M : Model} {prog : Program} {w : World} {A : Around} {E : Value → Shared → Prop} {h : Heap} {g : Array GenState} {d : Drawn} {tk : Nat} {os : OsState} {a t : Addr} {sv pv : Value} {pos lim : Nat} {li : Int} {sp : List Int}
theorem raw_map (sp : List Int) : (List.map rawInt sp).toArray.map reRawOf = sp.toArray := by
  rw [List.map_toArray, List.map_map]
  have : reRawOf ∘ rawInt = fun i => i := by funext i; rfl
  rw [this, List.map_id']
theorem wp_found {Q : ReFound → Shared → Prop} (ho : h.get? a = some (matchObj sv pv pos lim li t)) (ht : h.get? t = some (tupObj (sp.map rawInt)))
   (H : Q ⟨#[sv, pv, rawInt pos, rawInt lim, rawInt li, .ref t], sp.toArray⟩ ⟨h, g, d, tk, os⟩) : wpAny M A (reFound (.ref a)) Q E ⟨h, g, d, tk, os⟩ := by
  unfold reFound
  refine wpAny_bind (wpAny_fieldsOf ho rfl ?_)
  refine wpAny_bind ?_
  unfold reRawItems
  refine wpAny_bind ?_
  refine wpAny_seqItems ht rfl ?_
  refine wpAny_pure ?_
  refine wpAny_pure ?_
  rw [Option.getD_some, raw_map]
  exact H
theorem wp_gnum {x : ReFound} {k : Nat} {u : Tok} {Q : Nat → Shared → Prop} (hk : 2 * (k : Int) < x.spans.size) (H : Q k ⟨h, g, d, tk, os⟩) : wpAny M A (reGroupNumber x (.int k u)) Q E ⟨h, g, d, tk, os⟩ := by
  unfold reGroupNumber
  wp_walk
  exact H

theorem wp_span {u : Tok} {b e : Int} {r : List Int} {Q : Value → Shared → Prop} (ho : h.get? a = some (matchObj sv pv pos lim li t)) (ht : h.get? t = some (tupObj ((b :: e :: r).map rawInt)))
    (H : Q (.ref h.objs.size) ⟨h.push (tupObj [.int b tk, .int e (tk + 1)]), g, d, tk + 1 + 1, os⟩) : wpAny (model prog w) A (call (.builtin "re.Match.span") [.ref a, .int 0 u]) Q E ⟨h, g, d, tk, os⟩ := by
  refine wpAny_call_entry slot_span (show (⟨h, g, d, tk, os⟩ : Shared).TypeIs (.ref a) "re.Match" from ⟨_, ho, rfl⟩) entry_span ?_ (args_span _ _)
  unfold Builtin.«re.Match.span» reOneGroup
  wp_walk using wp_found ho ht, wp_gnum (k := 0)
  exact ⟨_, rfl, H⟩

theorem wp_reTextOf_str {x : Str} {u : Tok} {Q : Array Nat × Nat → Shared → Prop} (H : Q (x.cps, 0) ⟨h, g, d, tk, os⟩) : wpAny M A (reTextOf (.str x u)) Q E ⟨h, g, d, tk, os⟩ := by
  unfold reTextOf
  wp_walk
  exact H

theorem wp_groupText {v : Tok} {x : Str} {b0 e0 : Int} {b e : Nat} {r : List Int} {y : List Value} {Q : Value → Shared → Prop}
    (hs : (x.cps.extract b e).size ≤ sizeLine) (H : Q (.str ⟨x.cps.extract b e⟩ tk) ⟨h, g, d, tk + 1, os⟩) :
    wpAny M A (reGroupText ⟨(Value.str x v :: y).toArray, (b0 :: e0 :: (b : Int) :: (e : Int) :: r).toArray⟩ 1 .none) Q E ⟨h, g, d, tk, os⟩ := by
  have e1 : (b0 :: e0 :: (b : Int) :: (e : Int) :: r).toArray.getD (2 * 1) (-1) = b := by simp
  have e2 : (b0 :: e0 :: (b : Int) :: (e : Int) :: r).toArray.getD (2 * 1 + 1) (-1) = e := by simp
  unfold reGroupText
  dsimp only
  rw [e1, e2]
  have e3 : (decide ((b : Int) < 0) || decide ((e : Int) < 0)) = false := by simp
  rw [e3, if_neg Bool.false_ne_true]
  refine wpAny_bind (wp_reTextOf_str ?_)
  show wpAny M A (reSlice x.cps 0 ((b : Int)).toNat ((e : Int)).toNat) Q E _
  unfold reSlice
  rw [if_pos (by decide)]
  exact wpAny_mkStr H hs
theorem wp_group1 {u v : Tok} {x : Str} {b0 e0 : Int} {b e : Nat} {r : List Int} {Q : Value → Shared → Prop} (ho : h.get? a = some (matchObj (.str x v) pv pos lim li t)) (ht : h.get? t = some (tupObj ((b0 :: e0 :: (b : Int) :: (e : Int) :: r).map rawInt)))
    (hs : (x.cps.extract b e).size ≤ sizeLine)
    (H : Q (.str ⟨x.cps.extract b e⟩ tk) ⟨h, g, d, tk + 1, os⟩) : wpAny (model prog w) A (call (.builtin "re.Match.group") [.ref a, .int 1 u]) Q E ⟨h, g, d, tk, os⟩ := by
  refine wpAny_call_entry slot_group (show (⟨h, g, d, tk, os⟩ : Shared).TypeIs (.ref a) "re.Match" from ⟨_, ho, rfl⟩) entry_group ?_ (args_group _ _)
  show wpAny _ _ (reFound (.ref a) >>= fun x => reGroupNumber x (.int 1 u) >>= fun n => reGroupText x n .none >>= fun r => ret r) _ _ _
  refine wpAny_bind (wp_found ho ht (wpAny_bind (wp_gnum (k := 1) (by simp; first | with_reducible assumption | decide | lia | omega) (wpAny_bind (wp_groupText hs (wpAny_pure ⟨_, rfl, H⟩))))))

theorem string_get {R : Result → Shared → Prop} (hx : h.get? a = some (matchObj sv pv pos lim li t)) (hq : R (.ok (.ret sv)) ⟨h, g, d, tk, os⟩) :
    codeAny (model prog w) A (.call (.builtin "member_descriptor.__get__") ⟨[.builtin "re.Match.string", .ref a, .type "re.Match"], []⟩) R ⟨h, g, d, tk, os⟩ := by
  have hT : (⟨h, g, d, tk, os⟩ : Shared).TypeIs (.ref a) "re.Match" := ⟨_, hx, rfl⟩
  have hT5 : (⟨h, g, d, tk, os⟩ : Shared).TypeIs (.builtin "re.Match.string") "member_descriptor" := type_string
  have f8 : isSubtype (.type "re.Match") (.type (".".intercalate ("re.Match.string".cutAt '.').dropLast)) = pure true := by rw [owner_string]; exact sub_mat
  refine codeAny_call_builtin slot_md_get.plain entry_md_get (slot_md_get.check _ _ _ _ _ _ _ _ hT5 (args_md_get _ _ _) ?_)
  repeat (any_goals (first | assumption | wp_step))
  refine ⟨Code.quiet_builtin _ (by decide +kernel), codeAny_builtin entry_string ?_⟩
  unfold Builtin.«re.Match.string»
  repeat (any_goals (first | assumption | with_reducible refine wpAny_field hx rfl (x := sv) rfl ?_ | wp_step))
theorem string_entry {u : Tok} {Q : Fin → Shared → Prop} (hx : h.get? a = some (matchObj sv pv pos lim li t)) (hq : Q (.done (.ret sv)) ⟨h, g, d, tk, os⟩) :
    wpAny (model prog w) A (Builtin.«object.__getattribute__» ⟨[.ref a, .str "string" u], []⟩) Q E ⟨h, g, d, tk, os⟩ := by
  have hT : (⟨h, g, d, tk, os⟩ : Shared).TypeIs (.ref a) "re.Match" := ⟨_, hx, rfl⟩
  have hT5 : (⟨h, g, d, tk, os⟩ : Shared).TypeIs (.builtin "re.Match.string") "member_descriptor" := type_string
  have f4 := lk_string
  have f5 := type_string
  have f6 := slot_md_get.lookup
  have f7 := slot_md_set.lookup
  repeat (any_goals (first | assumption | wp_step))
  refine string_get hx ?_
  repeat (any_goals (first | assumption | wp_step))
theorem string_call {u : Tok} {R : Result → Shared → Prop} (hx : h.get? a = some (matchObj sv pv pos lim li t)) (hq : R (.ok (.ret sv)) ⟨h, g, d, tk, os⟩) :
    codeAny (model prog w) A (.call (.builtin "object.__getattribute__") ⟨[.ref a, .str "string" u], []⟩) R ⟨h, g, d, tk, os⟩ :=
  codeAny_call_builtin ga_mat.plain entry_ga (ga_mat.check _ _ _ _ _ _ _ _ (show (⟨h, g, d, tk, os⟩ : Shared).TypeIs (.ref a) "re.Match" from ⟨_, hx, rfl⟩) (args_ga _ _) (string_entry hx hq))
theorem string_attr {x : Str} {v : Tok} {expr : Bool} {Q : Value → Shared → Prop} (hx : h.get? a = some (matchObj (.str x v) pv pos lim li t))
    (hq : Q (.str x v) ⟨h, g, d, tk + 1, os⟩) : wpAny (model prog w) A (getAttr (.ref a) "string" expr) Q E ⟨h, g, d, tk, os⟩ := by
  unfold getAttr
  have hT : ∀ n, (⟨h, g, d, n, os⟩ : Shared).TypeIs (.ref a) "re.Match" := fun _ => ⟨_, hx, rfl⟩
  have hT1 := hT tk
  have hT2 := hT (tk + 1)
  have f2 := ga_mat.lookup
  have f3 := ga_mat.bind (.ref a)
  have hx0 : (expr && onTheHeap (Value.builtin "object.__getattribute__")) = false := by cases expr <;> rfl
  repeat (any_goals (first | assumption | wp_step))
  refine string_call hx ?_
  repeat (any_goals (first | assumption | wp_step))
end
end Mine
end
section
open PySem PySem.W PyProof.Rows PySem.Calls
set_option autoImplicit false
set_option maxRecDepth 100000
namespace Mine

theorem on_t {c : Prop} [Decidable c] {p q : Prop} (h : c) (k : p) : if c then p else q := by rw [if_pos h]; exact k
theorem on_f {c : Prop} [Decidable c] {p q : Prop} (h : ¬ c) (k : q) : if c then p else q := by rw [if_neg h]; exact k

section
variable {M : Model} {A : Around} {E : Value → Shared → Prop} {s : Shared} {env : Env} {prog : Program} {w : World}
theorem x_assign {x : Str} {p pos : Pos} {value : Expr} {rest : List Stmt} {Q : Flow → Shared → Prop}
    (H : wpAny M A (eval value env) (fun v s₁ => wpAny M A (storeName env x v) (fun _ s₂ => wpAny M A (execs rest env) Q E s₂) E s₁) E s)
    (hs : swapsWith value (some (.Name x p)) pos.line env = pure false := by rfl) : wpAny M A (execs (.Assign [.Name x p] value pos :: rest) env) Q E s :=
  wpAny_execs_cons (wpAny_Assign_Name H hs)
theorem x_assignT {elts : List Expr} {k : Nat} {p pos : Pos} {value : Expr} {rest : List Stmt} {Q : Flow → Shared → Prop}
    (H : wpAny M A (eval value env) (fun v s₁ => wpAny M A (assign (.Tuple elts k p) env v) (fun _ s₂ => wpAny M A (execs rest env) Q E s₂) E s₁) E s)
    (hs : swapsWithSole [.Tuple elts k p] value pos.line env = pure false := by rfl)
    (hw : swappedStores [.Tuple elts k p] value env = pure none := by rfl) : wpAny M A (execs (.Assign [.Tuple elts k p] value pos :: rest) env) Q E s :=
  wpAny_execs_cons (Assign_Tuple H hs hw)
theorem x_assign2 {x y : Str} {p1 p2 pos : Pos} {value : Expr} {rest : List Stmt} {Q : Flow → Shared → Prop}
    (H : wpAny M A (eval value env) (fun v s₁ => wpAny M A (storeName env x v) (fun _ s₂ => wpAny M A (storeName env y v) (fun _ s₃ => wpAny M A (execs rest env) Q E s₃) E s₂) E s₁) E s)
    (he : (assignEach [.Name x p1, .Name y p2] env).map (·.2) = [assign (.Name x p1) env, assign (.Name y p2) env] := by rfl)
    (hw : swappedStores [.Name x p1, .Name y p2] value env = pure none := by rfl) : wpAny M A (execs (.Assign [.Name x p1, .Name y p2] value pos :: rest) env) Q E s :=
  wpAny_execs_cons (wpAny_Assign_two (wpAny_mono H (fun _ _ z => wpAny_assign_Name (wpAny_mono z (fun _ _ y => wpAny_assign_Name y) fun _ _ e => e)) fun _ _ e => e) he hw)
theorem x_aug {x : Str} {p pos : Pos} {op : Operator} {value : Expr} {rest : List Stmt} {Q : Flow → Shared → Prop}
    (H : wpAny M A (loadName env x) (fun old s₁ => wpAny M A (eval value env) (fun v s₂ => wpAny M A (inplaceOp op old v)
      (fun r s₃ => wpAny M A (storeName env x r) (fun _ s₄ => wpAny M A (execs rest env) Q E s₄) E s₃) E s₂) E s₁) E s) : wpAny M A (execs (.AugAssign (.Name x p) op value pos :: rest) env) Q E s :=
  wpAny_execs_cons (wpAny_AugAssign_Name H)
theorem x_expr {e : Expr} {pos : Pos} {rest : List Stmt} {Q : Flow → Shared → Prop} (H : wpAny (model prog w) A (eval e env) (fun _ s₁ => wpAny (model prog w) A (execs rest env) Q E s₁) E s)
    (hi : interactive env = false := by rfl) (hs : swapsWith e none pos.line env = pure false := by rfl) : wpAny (model prog w) A (execs (.Expr e pos :: rest) env) Q E s :=
  wpAny_execs_cons (wpAny_Expr_any H hi hs)
theorem x_ret {e : Expr} {pos : Pos} {rest : List Stmt} {Q : Flow → Shared → Prop} (H : wpAny M A (eval e env) (fun v s₁ => Q (.ret v) s₁) E s) : wpAny M A (execs (.Return (some e) pos :: rest) env) Q E s :=
  wpAny_execs_cons (wpAny_Return_some H)
theorem x_brk {pos : Pos} {rest : List Stmt} {Q : Flow → Shared → Prop} (H : Q .brk s) : wpAny M A (execs (.Break pos :: rest) env) Q E s :=
  wpAny_execs_cons (wpAny_Break H)
/- what comes behind a statement that may leave -/
noncomputable def Then (M : Model) (A : Around) (env : Env) (rest : List Stmt) (Q : Flow → Shared → Prop) (E : Value → Shared → Prop) : Flow → Shared → Prop :=
  fun f s' => match f with | .next => wpAny M A (execs rest env) Q E s' | f => Q f s'
theorem x_if {test : Expr} {body orelse rest : List Stmt} {pos : Pos} {Q : Flow → Shared → Prop}
    (H : wpAny M A (isTrue test env (eval test env)) (fun b s₁ => if b then wpAny M A (execs body env) (Then M A env rest Q E) E s₁ else wpAny M A (execs orelse env) (Then M A env rest Q E) E s₁) E s) :
    wpAny M A (execs (.If test body orelse pos :: rest) env) Q E s := wpAny_execs_cons (wpAny_If H)
theorem x_nil {Q : Flow → Shared → Prop} (H : Q .next s) : wpAny M A (execs [] env) Q E s := wpAny_execs_nil H
theorem x_assert {test : Expr} {msg : Option Expr} {pos : Pos} {rest : List Stmt} {Q : Flow → Shared → Prop}
    (H : wpAny M A (isTrue test env (eval test env)) (fun b s₁ => b = true ∧ wpAny M A (execs rest env) Q E s₁) E s) : wpAny M A (execs (.Assert test msg pos :: rest) env) Q E s :=
  wpAny_execs_cons (wpAny_Assert_holds H)

/- a call's arguments, none starred -/
theorem r_args0 {f : Value} {Q : Args → Shared → Prop} (H : Q ⟨[], []⟩ s) : wpAny M A (evalArgs f true [] []) Q E s := PySem.evalArgs_none H
theorem r_cwB0 {pos p : Pos} {id : String} {first : List Value} {Q : Value → Shared → Prop} (H : wpAny M A (call (.builtin id) first) Q E s) : wpAny M A (callWith pos (.builtin id) first (backTo p (starEach [] env)) []) Q E s :=
  callWith_builtin rfl (PySem.evalArgs_none (by rw [List.append_nil]; exact H))
theorem r_cwB1 {pos p : Pos} {id : String} {first : List Value} {e1 : Expr} {Q : Value → Shared → Prop} (H : wpAny M A (eval e1 env) (fun v s₁ => wpAny M A (call (.builtin id) (first ++ [v])) Q E s₁) E s)
    (hst : starEach [e1] env = [(false, eval e1 env)] := by rfl) : wpAny M A (callWith pos (.builtin id) first (backTo p (starEach [e1] env)) []) Q E s := by
  rw [hst]
  exact callWith_builtin rfl (evalArgs_plain (spliced_cons (wpAny_mono H (fun _ _ z => spliced_nil z) fun _ _ e => e)))
theorem r_cwB2 {pos p : Pos} {id : String} {first : List Value} {e1 e2 : Expr} {Q : Value → Shared → Prop} (H : wpAny M A (eval e1 env) (fun v s₁ => wpAny M A (eval e2 env) (fun u s₂ => wpAny M A (call (.builtin id) (first ++ [v, u])) Q E s₂) E s₁) E s)
    (hst : starEach [e1, e2] env = [(false, eval e1 env), (false, eval e2 env)] := by rfl) : wpAny M A (callWith pos (.builtin id) first (backTo p (starEach [e1, e2] env)) []) Q E s := by
  rw [hst]
  exact callWith_builtin rfl (evalArgs_plain (spliced_cons (wpAny_mono H (fun _ _ z => spliced_cons (wpAny_mono z (fun _ _ y => spliced_nil y) fun _ _ e => e)) fun _ _ e => e)))
theorem r_cwF1 {pos p : Pos} {a : Addr} {o : Obj} {fd : FuncData} {e1 : Expr} {Q : Value → Shared → Prop}
    (H : wpAny M A (eval e1 env) (fun v s₁ => (s₁.heap.get? a = some o ∧ o.data = .func fd) ∧ wpAny M A (call (.ref a) [v]) Q E s₁) E s)
    (hst : starEach [e1] env = [(false, eval e1 env)] := by rfl) : wpAny M A (callWith pos (.ref a) [] (backTo p (starEach [e1] env)) []) Q E s := by
  rw [hst]
  exact callWith_function (evalArgs_plain (spliced_cons (wpAny_mono H (fun _ _ z => spliced_nil z) fun _ _ e => e)))
theorem r_cwF2 {pos p : Pos} {a : Addr} {o : Obj} {fd : FuncData} {e1 e2 : Expr} {Q : Value → Shared → Prop}
    (H : wpAny M A (eval e1 env) (fun v s₁ => wpAny M A (eval e2 env) (fun u s₂ => (s₂.heap.get? a = some o ∧ o.data = .func fd) ∧ wpAny M A (call (.ref a) [v, u]) Q E s₂) E s₁) E s)
    (hst : starEach [e1, e2] env = [(false, eval e1 env), (false, eval e2 env)] := by rfl) : wpAny M A (callWith pos (.ref a) [] (backTo p (starEach [e1, e2] env)) []) Q E s := by
  rw [hst]
  exact callWith_function (evalArgs_plain (spliced_cons (wpAny_mono H (fun _ _ z => spliced_cons (wpAny_mono z (fun _ _ y => spliced_nil y) fun _ _ e => e)) fun _ _ e => e)))
/- displays -/
theorem r_list {elts : List Expr} {pos : Pos} {Q : Value → Shared → Prop} (H : wpAny (model prog w) A (spliced (backTo pos (starEach elts env))) (fun vs s₁ => vs.length ≤ sizeLine ∧ Q (.ref s₁.heap.objs.size) { s₁ with heap := s₁.heap.push { cls := .type "list", data := .seq vs.toArray } }) E s) :
    wpAny (model prog w) A (eval (.List elts pos) env) Q E s := wpAny_List_spliced H
end

noncomputable def lstObj (vs : List Value) (n : Nat) : Obj := { cls := .type "list", data := .seq vs.toArray n }

section
variable {prog : Program} {w : World} {A : Around} {E : Value → Shared → Prop} {h : Heap} {F : Fz} {M : List (Addr × Obj)} {L a : Addr} {V : List (Str × Value)} {g : Array GenState} {d : Drawn} {tk : Nat} {os : OsState}
  {cn : Str} {cs : Scope} {cd : Value} {cl : List (Str × Addr)}
theorem r_str {x : Str} {k : Nat} {pos : Pos} {env : Env} {Q : Value → Shared → Prop} (H : Q (.str x tk) ⟨h, g, d, tk + 1, os⟩) : wpAny (model prog w) A (eval (.Constant (.str x) k pos) env) Q E ⟨h, g, d, tk, os⟩ := wpAny_Constant_str H
theorem r_int {i : Int} {k : Nat} {pos : Pos} {env : Env} {Q : Value → Shared → Prop} (H : Q (.int i tk) ⟨h, g, d, tk + 1, os⟩) : wpAny (model prog w) A (eval (.Constant (.int i) k pos) env) Q E ⟨h, g, d, tk, os⟩ := wpAny_Constant_int H
theorem r_none {k : Nat} {pos : Pos} {env : Env} {Q : Value → Shared → Prop} (H : Q .none ⟨h, g, d, tk, os⟩) : wpAny (model prog w) A (eval (.Constant .none k pos) env) Q E ⟨h, g, d, tk, os⟩ := wpAny_Constant_none H

/- a method of a built-in type called upon a local name -/
theorem r_meth {x name : Str} {p apos pos : Pos} {args : List Expr} {T id : String} {v : Value} {Q : Value → Shared → Prop} (S : Sf w h F M L V) (hv : V.lookup x = some v)
    (hT : (⟨h, g, d, tk, os⟩ : Shared).TypeIs v T) (hd : ∀ a, v = .ref a → ∃ ob, h.get? a = some ob ∧ ob.dict = none)
    (pa : PlainAttrs T) (slot : Slot T name id) (hty : typeOf (.builtin id) = pure (.type "method_descriptor"))
    (H : wpAny (model prog w) A (callWith pos (.builtin id) [v] (backTo pos (starEach args (envX cn cs L a cd cl))) []) Q E ⟨h, g, d, tk, os⟩)
    (hk : cs.kind = .function := by rfl) (hl : (envX cn cs L a cd cl).kindOf x = some .local := by rfl) (hdb : (x == ("__debug__" : Str)) = false := by decide)
    (hbase : attributeBase (.Name x p) name (envX cn cs L a cd cl) (eval (.Name x p) (envX cn cs L a cd cl)) = eval (.Name x p) (envX cn cs L a cd cl) := by rfl)
    (hfew : ((backTo pos (starEach args (envX cn cs L a cd cl))).all (fun x => !x.1) && (backToKw pos (keywordEach [] (envX cn cs L a cd cl))).all (fun x => x.1.isSome)
      && decide (args.length + ([] : List Keyword).length + (if ([] : List Keyword).isEmpty then 0 else 1) < 30)) = true := by rfl)
    (hline : (apos.endLine == pos.line) = true := by rfl) :
    wpAny (model prog w) A (eval (.Call (.Attribute (.Name x p) name apos) args [] pos) (envX cn cs L a cd cl)) Q E ⟨h, g, d, tk, os⟩ :=
  wpAny_Call_method hbase hfew hline pa slot hty (r_name S hv ⟨hT, hd, H⟩ hk hl hdb)

/- a tuple of two taken apart into two names -/
theorem r_unpack2 {x y : Str} {p1 p2 p : Pos} {k : Nat} {t : Addr} {u v : Value} {n : Nat} {Q : Unit → Shared → Prop} (C : Cx A 0 0) (S : Sf w h F M L V) (ht : h.get? t = some { cls := .type "tuple", data := .seq #[u, v] n })
    (H : ∀ h' tk', Sf w h' F M L ((y, v) :: (x, u) :: V) → Q () ⟨h', g, d, tk', os⟩)
    (hk : cs.kind = .function := by rfl) (hl1 : (envX cn cs L a cd cl).kindOf x = some .local := by rfl) (hl2 : (envX cn cs L a cd cl).kindOf y = some .local := by rfl) :
    wpAny (model prog w) A (assign (.Tuple [.Name x p1, .Name y p2] k p) (envX cn cs L a cd cl) (.ref t)) Q E ⟨h, g, d, tk, os⟩ := by
  refine wpAny_assign_Tuple (items := #[u, v]) C.hd ⟨_, ht, rfl, n, rfl⟩ rfl rfl fun h' hx => ?_
  have k' : ∀ b o, h.get? b = some o → h'.get? b = some o := fun b o e => hx b o (Nat.ne_of_lt (Heap.lt_size e)) e
  show wpAny _ _ (do holding [v] (assign (.Name x p1) (envX cn cs L a cd cl) u); (do holding [] (assign (.Name y p2) (envX cn cs L a cd cl) v); pure ())) _ _ _
  refine wpAny_bind (wpAny_holding (wpAny_assign_Name (r_store (S.ext k') (fun h1 t1 S1 => wpAny_bind (wpAny_holding (wpAny_assign_Name (r_store S1 (fun h2 t2 S2 => wpAny_pure (H h2 t2 S2)) hk hl2)))) hk hl1)))

/- a text by its signs -/
noncomputable abbrev T (l : List Nat) : Str := ⟨l.toArray⟩
theorem T_len (l : List Nat) : (T l).length = l.length := by simp [Str.length]
theorem T_add (a b : List Nat) : T a ++ T b = T (a ++ b) := by
  show Str.append _ _ = _
  simp [Str.append, T]

/- an item or a slice -/
theorem r_sub {value slice : Expr} {pos : Pos} {env : Env} {Q : Value → Shared → Prop} {s : Shared}
    (H : wpAny (model prog w) A (eval value env) (fun o s₁ => wpAny (model prog w) A (eval slice env) (fun i s₂ =>
      ∃ Ty id, s₂.TypeIs o Ty ∧ typeLookup (.type Ty) "__getitem__" = pure (some (.builtin id)) ∧ wpAny (model prog w) A (getItem o i) Q E s₂) E s₁) E s) :
    wpAny (model prog w) A (eval (.Subscript value slice pos) env) Q E s := by
  rw [eval_Subscript]
  refine wpAny_bind (wpAny_mono H (fun o s₁ h₁ => wpAny_bind (wpAny_holding (wpAny_mono h₁ (fun i s₂ h₂ => wpAny_bind (wpAny_standAt ?_)) fun _ _ x => x))) fun _ _ x => x)
  obtain ⟨Ty, id, hT, hl, hg⟩ := h₂
  have fin : ∀ vs, wpAny (model prog w) A (operate vs (getItem o i)) (fun r s₃ => wpAny (model prog w) A (letTemporaryGo value o r >>= fun _ => pure r) Q E s₃) E s₂ := fun vs =>
    wpAny_operating (wpAny_mono hg (fun r s₃ h₃ => wpAny_bind (wpAny_letTemporaryGo (wpAny_pure h₃))) fun _ _ x => x)
  have look : wpAny (model prog w) A (getitemInPython o) (fun b s₃ => b = false ∧ s₃ = s₂) E s₂ := by
    rw [getitemInPython_of_ne hT.not_modules]
    exact wpAny_bind (wpAny_specialOf hT hl (wpAny_pure ⟨rfl, rfl⟩))
  refine wpAny_bind (wpAny_mono look (fun b s₃ hb => ?_) fun _ _ x => x)
  obtain ⟨rfl, rfl⟩ := hb
  have sub : ∃ vs, subscripted slice false o i = operate vs (getItem o i) := by
    cases slice with
    | Slice x y z p => cases z <;> exact ⟨_, rfl⟩
    | _ => exact ⟨_, rfl⟩
  obtain ⟨vs, e⟩ := sub
  rw [e]
  exact wpAny_bind (fin _)

theorem sidx (lo hi : Option Int) (a b len : Nat) (hl : lo = some (a : Int) ∨ (lo = none ∧ a = 0)) (hh : hi = some (b : Int) ∨ (hi = none ∧ b = len)) (hab : a ≤ b) (hb : b ≤ len) :
    Builtin.Str.strSliceIndices lo hi 1 len = (List.range (b - a)).map (fun k => a + k) := by
  have h1 : ¬ ((a : Int) < 0) := by first | with_reducible assumption | decide | lia | omega
  have h2 : ¬ ((b : Int) < 0) := by first | with_reducible assumption | decide | lia | omega
  have e1 : max (0 : Int) (min (a : Int) (len : Int)) = a := by first | with_reducible assumption | decide | lia | omega
  have e2 : max (0 : Int) (min (b : Int) (len : Int)) = b := by first | with_reducible assumption | decide | lia | omega
  have e3 : sliceRange (a : Int) (b : Int) 1 = (List.range (b - a)).map (fun k => a + k) := by
    unfold sliceRange
    rw [if_pos (by decide)]
    by_cases q : (a : Int) < b
    · rw [if_pos q]
      have : ((b : Int) - a + 1 - 1) / 1 = ((b - a : Nat) : Int) := by first | with_reducible assumption | decide | lia | omega
      rw [this]
      refine List.map_congr_left fun k _ => ?_
      first | with_reducible assumption | decide | lia | omega
    · have : b - a = 0 := by first | with_reducible assumption | decide | lia | omega
      rw [if_neg q, this]; rfl
  rcases hl with rfl | ⟨rfl, rfl⟩ <;> rcases hh with rfl | ⟨rfl, rfl⟩ <;> simp only [Builtin.Str.strSliceIndices, h1, h2, if_false, e1, e2, show ((1 : Int) > 0) = True from by simp, if_true]
  · exact e3
  · exact e3
  · exact e3
  · exact e3
theorem slice_post (x : List Nat) (t : Tok) (lo hi : Option (Int × Tok)) (a b : Nat) {Q : Value → Shared → Prop} {s : Shared} (hl : lo.map (·.1) = some (a : Int) ∨ (lo.map (·.1) = none ∧ a = 0)) (hh : hi.map (·.1) = some (b : Int) ∨ (hi.map (·.1) = none ∧ b = x.length))
    (hab : a ≤ b) (hb : b ≤ x.length) (hx : x.length ≤ sizeLine) (H : ∀ t' tk', Q (.str (T ((x.drop a).take (b - a))) t') { s with toks := tk' }) : (sliceMade (T x) t lo hi none).post Q s := by
  have e : slicePicked (T x) lo hi none = (List.range (b - a)).map (fun k => a + k) := by
    unfold slicePicked
    rw [T_len]
    exact sidx _ _ a b _ hl hh hab hb
  have e2 : (slicePicked (T x) lo hi none).filterMap ((T x).cps[·]?) = (x.drop a).take (b - a) := by
    rw [e]
    have := StrLaws.picks x (b - a) a (by first | with_reducible assumption | decide | lia | omega)
    simpa [T] using this
  unfold sliceMade
  split
  · rename_i q
    rw [e] at q
    simp only [List.length_map, List.length_range, T_len, Bool.and_eq_true, beq_iff_eq] at q
    have : (x.drop a).take (b - a) = x := by
      have : a = 0 := by first | with_reducible assumption | decide | lia | omega
      subst this
      rw [List.drop_zero]; exact List.take_of_length_le (by first | with_reducible assumption | decide | lia | omega)
    have := H t s.toks
    rw [‹List.take _ _ = x›] at this
    exact this
  · rw [e2]
    exact ⟨by rw [show (⟨((x.drop a).take (b - a)).toArray⟩ : Str) = T ((x.drop a).take (b - a)) from rfl, T_len, List.length_take, List.length_drop]; first | with_reducible assumption | decide | lia | omega, H _ _⟩

/- text[:b], text[a:] of ints known -/
theorem r_getSlice {x : List Nat} {t : Tok} {sl : Addr} {lo hi : Option (Int × Tok)} {a b : Nat} {Q : Value → Shared → Prop} (hsl : h.get? sl = some { cls := .type "slice", data := .fields #[partValue lo, partValue hi, .none] })
    (hl : lo.map (·.1) = some (a : Int) ∨ (lo.map (·.1) = none ∧ a = 0)) (hh : hi.map (·.1) = some (b : Int) ∨ (hi.map (·.1) = none ∧ b = x.length)) (hab : a ≤ b) (hb : b ≤ x.length) (hx : x.length ≤ sizeLine)
    (H : ∀ t' tk', Q (.str (T ((x.drop a).take (b - a))) t') ⟨h, g, d, tk', os⟩) : wpAny (model prog w) A (getItem (.str (T x) t) (.ref sl)) Q E ⟨h, g, d, tk, os⟩ :=
  wpAny_getItem_str_slice (l := lo) (u := hi) (st := none) ⟨_, hsl, rfl, rfl⟩ rfl (slice_post x t lo hi a b hl hh hab hb hx H)

theorem r_slice {lo hi : Option Expr} {p : Pos} {env : Env} {Q : Value → Shared → Prop} {s : Shared}
    (H : wpAny (model prog w) A (evalPart lo env) (fun l s₁ => wpAny (model prog w) A (evalPart hi env) (fun u s₂ => Q (.ref s₂.heap.objs.size) { s₂ with heap := s₂.heap.push { cls := .type "slice", data := .fields #[l, u, .none] } }) E s₁) E s) :
    wpAny (model prog w) A (eval (.Slice lo hi none p) env) Q E s :=
  wpAny_Slice (wpAny_mono H (fun l s₁ h₁ => wpAny_mono h₁ (fun u s₂ h₂ => by rw [evalPart_none]; exact wpAny_pure h₂) fun _ _ e => e) fun _ _ e => e)

theorem r_addS {a b : List Nat} {t u : Tok} {Q : Value → Shared → Prop} (hs : a.length + b.length ≤ sizeLine) (H : ∀ t' tk', Q (.str (T (a ++ b)) t') ⟨h, g, d, tk', os⟩) :
    wpAny (model prog w) A (binaryOp .Add (.str (T a) t) (.str (T b) u)) Q E ⟨h, g, d, tk, os⟩ :=
  PyProof.Rows.add_str (fun t' tk' => by rw [T_add]; exact H t' tk') (by rw [T_len, T_len]; exact hs)
end
end Mine
end
section
set_option autoImplicit false
namespace Mine
open PySem hiding Frame run Kept
open PySem.Sre

noncomputable def stepN : Nat → M → M
  | 0, m => m
  | n + 1, m => stepN n m.step
theorem stepN_one (m : M) : stepN 1 m = m.step := rfl
theorem stepN_add (a b : Nat) (m : M) : stepN (a + b) m = stepN b (stepN a m) := by
  induction a generalizing m with
  | zero => rw [Nat.zero_add]; rfl
  | succ a ih => rw [Nat.succ_add]; exact ih m.step
theorem step_done {m : M} (h : m.outcome.isSome = true) : m.step = m := by unfold M.step; rw [if_pos h]
theorem stepN_done {m : M} (h : m.outcome.isSome = true) : ∀ n, stepN n m = m
  | 0 => rfl
  | n + 1 => by show stepN n m.step = m; rw [step_done h]; exact stepN_done h n
theorem runFor_eq : ∀ (n : Nat) (m : M), M.runFor n m = stepN n m
  | 0, _ => rfl
  | n + 1, m => by
    show (if m.outcome.isSome = true then m else M.runFor n m.step) = stepN (n + 1) m
    by_cases h : m.outcome.isSome = true
    · rw [if_pos h, stepN_done h]
    · rw [if_neg h]; exact runFor_eq n m.step

/- in k steps, whatever has been seen -/
noncomputable def Goes (k : Nat) (m m' : M) : Prop := ∀ s, ∃ s', stepN k { m with seen := s } = { m' with seen := s' }
theorem Goes.trans {a b : Nat} {m m' m'' : M} (x : Goes a m m') (y : Goes b m' m'') : Goes (a + b) m m'' := fun s => by
  obtain ⟨s1, e1⟩ := x s
  obtain ⟨s2, e2⟩ := y s1
  exact ⟨s2, by rw [stepN_add, e1, e2]⟩
theorem Goes.refl (m : M) : Goes 0 m m := fun s => ⟨s, rfl⟩
theorem Goes.cast {a b : Nat} {m m' : M} (x : Goes a m m') (e : a = b) : Goes b m m' := e ▸ x

/- a state of the machine -/
structure Cf where
  code : Array Nat
  text : List Nat
  start : Nat
  ls : Nat
  wt : Bool
  ma : Bool
noncomputable abbrev st (K : Cf) (pc pos handed : Nat) (om : Bool) (mk : Array (Option Nat)) (lm li : Int) (lo : Array Loop) (inn : Option Nat) (fr : List Frame) (wg : Nat) (an : Option Bool) : M :=
  { code := K.code, text := K.text.toArray, lim := K.text.length, start := K.start, lastStart := K.ls, wholeText := K.wt, mustAdvance := K.ma, pc := pc, pos := pos, handed := handed, outermost := om,
    marks := mk, lastmark := lm, lastindex := li, loops := lo, inner := inn, frames := fr, weight := wg, answer := an }

section
variable {K : Cf} {pc pos handed : Nat} {om : Bool} {mk : Array (Option Nat)} {lm li : Int} {lo : Array Loop} {inn : Option Nat} {fr : List Frame} {wg : Nat}
theorem getD_text (x : List Nat) (p : Nat) : x.toArray.getD p 0 = x.getD p 0 := by simp

theorem step_exec {m : M} (ho : m.outcome = none) (ha : m.answer = none) (hp : m.pc < m.code.size) : m.step = m.exec := by
  unfold M.step
  rw [ho, ha]
  simp only [Option.isSome_none, Bool.false_eq_true, if_false, hp, if_true]

theorem exec_via {P : M → Prop} (m : M) (h : ∀ m', m' = m → P m') : P m := h m rfl
theorem g_at_yes (h0 : K.code.getD pc 0 = 6) (h1 : K.code.getD (pc + 1) 0 = 0) (hp : pc < K.code.size) (hpos : pos = 0) :
    Goes 1 (st K pc pos handed om mk lm li lo inn fr wg none) (st K (pc + 2) pos handed om mk lm li lo inn fr wg none) := by
  subst hpos
  intro s
  refine ⟨(s.add 6).add 43, ?_⟩
  rw [stepN_one, step_exec rfl rfl hp]
  have e : ops[K.code.getD pc 0]? = some .AT := by rw [h0]; rfl
  refine exec_via (P := fun x => M.exec x = _) _ fun m hm => ?_
  have e2 : ops[m.word 0]? = some .AT := by rw [hm]; exact e
  unfold M.exec
  rw [e2]
  dsimp only
  subst hm
  dsimp only [M.word, Nat.add_zero]
  clear e2
  try dsimp only [M.isAt, Nat.add_zero]
  rw [h1, h0]
  rfl
theorem g_at_no (h0 : K.code.getD pc 0 = 6) (h1 : K.code.getD (pc + 1) 0 = 0) (hp : pc < K.code.size) (hpos : pos ≠ 0) :
    Goes 1 (st K pc pos handed om mk lm li lo inn fr wg none) (st K pc pos handed om mk lm li lo inn fr wg (some false)) := by
  intro s
  refine ⟨(s.add 6).add 43, ?_⟩
  rw [stepN_one, step_exec rfl rfl hp]
  have e : ops[K.code.getD pc 0]? = some .AT := by rw [h0]; rfl
  have hb : (pos == 0) = false := beq_eq_false_iff_ne.mpr hpos
  refine exec_via (P := fun x => M.exec x = _) _ fun m hm => ?_
  have e2 : ops[m.word 0]? = some .AT := by rw [hm]; exact e
  unfold M.exec
  rw [e2]
  dsimp only
  subst hm
  dsimp only [M.word, Nat.add_zero]
  clear e2
  try dsimp only [M.isAt, Nat.add_zero]
  rw [h1, h0, hb]
  rfl
theorem g_lit_yes (h0 : K.code.getD pc 0 = 16) (hp : pc < K.code.size) (hl : pos < K.text.length) (hc : K.text.getD pos 0 = K.code.getD (pc + 1) 0) :
    Goes 1 (st K pc pos handed om mk lm li lo inn fr wg none) (st K (pc + 2) (pos + 1) handed om mk lm li lo inn fr wg none) := by
  intro s
  refine ⟨s.add 16, ?_⟩
  rw [stepN_one, step_exec rfl rfl hp]
  have e : ops[K.code.getD pc 0]? = some .LITERAL := by rw [h0]; rfl
  refine exec_via (P := fun x => M.exec x = _) _ fun m hm => ?_
  have e2 : ops[m.word 0]? = some .LITERAL := by rw [hm]; exact e
  unfold M.exec
  rw [e2]
  dsimp only
  subst hm
  dsimp only [M.word, Nat.add_zero]
  clear e2
  try dsimp only
  rw [if_neg (Nat.not_le.mpr hl)]
  unfold accepts itemWidth
  dsimp only
  rw [e, getD_text, hc, beq_self_eq_true, h0]
theorem g_lit_no (h0 : K.code.getD pc 0 = 16) (hp : pc < K.code.size) (hl : pos < K.text.length) (hc : K.text.getD pos 0 ≠ K.code.getD (pc + 1) 0) :
    Goes 1 (st K pc pos handed om mk lm li lo inn fr wg none) (st K pc pos handed om mk lm li lo inn fr wg (some false)) := by
  intro s
  refine ⟨s.add 16, ?_⟩
  rw [stepN_one, step_exec rfl rfl hp]
  have e : ops[K.code.getD pc 0]? = some .LITERAL := by rw [h0]; rfl
  have hb : (K.text.getD pos 0 == K.code.getD (pc + 1) 0) = false := beq_eq_false_iff_ne.mpr hc
  refine exec_via (P := fun x => M.exec x = _) _ fun m hm => ?_
  have e2 : ops[m.word 0]? = some .LITERAL := by rw [hm]; exact e
  unfold M.exec
  rw [e2]
  dsimp only
  subst hm
  dsimp only [M.word, Nat.add_zero]
  clear e2
  try dsimp only
  rw [if_neg (Nat.not_le.mpr hl)]
  unfold accepts
  dsimp only
  rw [e, getD_text, hb, h0]
  rfl
theorem g_lit_end (h0 : K.code.getD pc 0 = 16) (hp : pc < K.code.size) (hl : K.text.length ≤ pos) :
    Goes 1 (st K pc pos handed om mk lm li lo inn fr wg none) (st K pc pos handed om mk lm li lo inn fr wg (some false)) := by
  intro s
  refine ⟨s.add 16, ?_⟩
  rw [stepN_one, step_exec rfl rfl hp]
  have e : ops[K.code.getD pc 0]? = some .LITERAL := by rw [h0]; rfl
  refine exec_via (P := fun x => M.exec x = _) _ fun m hm => ?_
  have e2 : ops[m.word 0]? = some .LITERAL := by rw [hm]; exact e
  unfold M.exec
  rw [e2]
  dsimp only
  subst hm
  dsimp only [M.word, Nat.add_zero]
  clear e2
  try dsimp only
  rw [if_pos hl, h0]
  rfl
theorem g_any (h0 : K.code.getD pc 0 = 2) (hp : pc < K.code.size) (hl : pos < K.text.length) (hc : K.text.getD pos 0 ≠ 10) :
    Goes 1 (st K pc pos handed om mk lm li lo inn fr wg none) (st K (pc + 1) (pos + 1) handed om mk lm li lo inn fr wg none) := by
  intro s
  refine ⟨s.add 2, ?_⟩
  rw [stepN_one, step_exec rfl rfl hp]
  have e : ops[K.code.getD pc 0]? = some .ANY := by rw [h0]; rfl
  have hb : (K.text.getD pos 0 != 10) = true := bne_iff_ne.mpr hc
  refine exec_via (P := fun x => M.exec x = _) _ fun m hm => ?_
  have e2 : ops[m.word 0]? = some .ANY := by rw [hm]; exact e
  unfold M.exec
  rw [e2]
  dsimp only
  subst hm
  dsimp only [M.word, Nat.add_zero]
  clear e2
  try dsimp only
  rw [if_neg (Nat.not_le.mpr hl)]
  unfold accepts itemWidth
  dsimp only
  rw [e, getD_text, hb, h0]
/- what an item says of a sign -/
noncomputable def Acc (c : Array Nat) (i : Nat) (f : Nat → Bool) : Prop := ∀ ch s, ∃ s', accepts c i ch s = .ok (f ch, s')
theorem g_in_yes {f : Nat → Bool} (h0 : K.code.getD pc 0 = 13) (ha : Acc K.code pc f) (hp : pc < K.code.size) (hl : pos < K.text.length) (hc : f (K.text.getD pos 0) = true) :
    Goes 1 (st K pc pos handed om mk lm li lo inn fr wg none) (st K (pc + (1 + K.code.getD (pc + 1) 0)) (pos + 1) handed om mk lm li lo inn fr wg none) := by
  intro s
  obtain ⟨s', hs⟩ := ha (K.text.getD pos 0) (s.add 13)
  refine ⟨s', ?_⟩
  rw [stepN_one, step_exec rfl rfl hp]
  have e : ops[K.code.getD pc 0]? = some .IN := by rw [h0]; rfl
  refine exec_via (P := fun x => M.exec x = _) _ fun m hm => ?_
  have e2 : ops[m.word 0]? = some .IN := by rw [hm]; exact e
  unfold M.exec
  rw [e2]
  dsimp only
  subst hm
  dsimp only [M.word, Nat.add_zero]
  clear e2
  try dsimp only
  rw [if_neg (Nat.not_le.mpr hl), getD_text, h0, hs, hc]
  dsimp only
  unfold itemWidth
  rw [e]
theorem g_mark {i : Nat} {mk' : Array (Option Nat)} {lm' li' : Int} (h0 : K.code.getD pc 0 = 17) (h1 : K.code.getD (pc + 1) 0 = i) (hp : pc < K.code.size)
    (hm : (M.mark (st K pc pos handed om mk lm li lo inn fr wg none) i).marks = mk') (hm2 : max lm i = lm') (hm3 : (if i % 2 == 1 then ((i / 2 + 1 : Nat) : Int) else li) = li') :
    Goes 1 (st K pc pos handed om mk lm li lo inn fr wg none) (st K (pc + 2) pos handed om mk' lm' li' lo inn fr wg none) := by
  intro s
  subst hm hm2 hm3
  refine ⟨s.add 17, ?_⟩
  rw [stepN_one, step_exec rfl rfl hp]
  have e : ops[K.code.getD pc 0]? = some .MARK := by rw [h0]; rfl
  refine exec_via (P := fun x => M.exec x = _) _ fun m hm => ?_
  have e2 : ops[m.word 0]? = some .MARK := by rw [hm]; exact e
  unfold M.exec
  rw [e2]
  dsimp only
  subst hm
  dsimp only [M.word, Nat.add_zero]
  clear e2
  try dsimp only
  rw [h1, h0]
  rfl
theorem g_succ (h0 : K.code.getD pc 0 = 1) (hp : pc < K.code.size) (hw : (om && ((K.wt && pos != K.text.length) || (K.ma && pos == K.start))) = false) :
    Goes 1 (st K pc pos handed om mk lm li lo inn fr wg none) (st K pc pos pos om mk lm li lo inn fr wg (some true)) := by
  intro s
  refine ⟨s.add 1, ?_⟩
  rw [stepN_one, step_exec rfl rfl hp]
  have e : ops[K.code.getD pc 0]? = some .SUCCESS := by rw [h0]; rfl
  refine exec_via (P := fun x => M.exec x = _) _ fun m hm => ?_
  have e2 : ops[m.word 0]? = some .SUCCESS := by rw [hm]; exact e
  unfold M.exec
  rw [e2]
  dsimp only
  subst hm
  dsimp only [M.word, Nat.add_zero]
  clear e2
  try dsimp only
  rw [hw, if_neg Bool.false_ne_true, h0]
  rfl
theorem g_succ_no (h0 : K.code.getD pc 0 = 1) (hp : pc < K.code.size) (hw : (om && ((K.wt && pos != K.text.length) || (K.ma && pos == K.start))) = true) :
    Goes 1 (st K pc pos handed om mk lm li lo inn fr wg none) (st K pc pos handed om mk lm li lo inn fr wg (some false)) := by
  intro s
  refine ⟨s.add 1, ?_⟩
  rw [stepN_one, step_exec rfl rfl hp]
  have e : ops[K.code.getD pc 0]? = some .SUCCESS := by rw [h0]; rfl
  refine exec_via (P := fun x => M.exec x = _) _ fun m hm => ?_
  have e2 : ops[m.word 0]? = some .SUCCESS := by rw [hm]; exact e
  unfold M.exec
  rw [e2]
  dsimp only
  subst hm
  dsimp only [M.word, Nat.add_zero]
  clear e2
  try dsimp only
  rw [hw, if_pos rfl, h0]
  rfl

/- how far an item is taken -/
theorem run_eq {c : Array Nat} {x : List Nat} {i : Nat} {f : Nat → Bool} (ha : Acc c i f) : ∀ (n p found : Nat), p + n ≤ x.length → ∀ s, ∃ s', run c x.toArray i n p found s = .ok (found + (((x.drop p).take n).takeWhile f).length, s')
  | 0, p, found, _, s => ⟨s, by simp [run]⟩
  | n + 1, p, found, h, s => by
    obtain ⟨s1, e1⟩ := ha (x.getD p 0) s
    have hp : p < x.length := by first | with_reducible assumption | decide | lia | omega
    have hd : x.drop p = x.getD p 0 :: x.drop (p + 1) := by
      rw [List.drop_eq_getElem_cons hp]; simp [List.getD_eq_getElem?_getD, List.getElem?_eq_getElem hp]
    unfold run
    rw [getD_text, e1]
    show ∃ s', (if f (x.getD p 0) = true then run c x.toArray i n (p + 1) (found + 1) s1 else pure (found, s1)) = _
    rw [hd, List.take_succ_cons, List.takeWhile_cons]
    cases q : f (x.getD p 0) with
    | true =>
      obtain ⟨s2, e2⟩ := run_eq (x := x) ha n (p + 1) (found + 1) (by first | with_reducible assumption | decide | lia | omega) s1
      refine ⟨s2, ?_⟩
      rw [if_pos rfl, e2, if_pos rfl, List.length_cons]
      congr 2
      first | with_reducible assumption | decide | lia | omega
    | false =>
      refine ⟨s1, ?_⟩
      rw [if_neg Bool.false_ne_true, if_neg Bool.false_ne_true]
      rfl
theorem run_all {c : Array Nat} {x : List Nat} {i : Nat} {f : Nat → Bool} (ha : Acc c i f) (p k : Nat) (hp : p ≤ x.length) (hk : x.length - p ≤ k) (s : Seen) :
    ∃ s', run c x.toArray i (min k (x.length - p)) p 0 s = .ok (((x.drop p).takeWhile f).length, s') := by
  obtain ⟨s', e⟩ := run_eq (x := x) ha (min k (x.length - p)) p 0 (by first | with_reducible assumption | decide | lia | omega) s
  refine ⟨s', ?_⟩
  rw [e, Nat.zero_add, List.take_of_length_le (by rw [List.length_drop]; first | with_reducible assumption | decide | lia | omega)]

/- as many as there are: the rest is tried -/
theorem g_rep1 {f : Nat → Bool} {lst n : Nat} (h0 : K.code.getD pc 0 = 24) (h2 : K.code.getD (pc + 2) 0 = lst) (h3 : K.code.getD (pc + 3) 0 = 4294967295) (ha : Acc K.code (pc + 4) f) (hp : pc < K.code.size)
    (hp' : pos ≤ K.text.length) (hx : K.text.length ≤ 4294967295) (hn : ((K.text.drop pos).takeWhile f).length = n) (hl : lst ≤ n)
    (hw : wg + 1 + ((M.keep (st K pc pos handed om mk lm li lo inn fr wg none) inn.isSome).marks).size ≤ 16777216) :
    Goes 1 (st K pc pos handed om mk lm li lo inn fr wg none)
      (st K (pc + 1 + K.code.getD (pc + 1) 0) (pos + n) (pos + n) om mk lm li lo inn
        ({ wait := .giveBack, pc := pc, pos := pos + n, outermost := om, count := n, kept := M.keep (st K pc pos handed om mk lm li lo inn fr wg none) inn.isSome } :: fr) (wg + 1 + (M.keep (st K pc pos handed om mk lm li lo inn fr wg none) inn.isSome).marks.size) none) := by
  intro s
  obtain ⟨s', hs⟩ := run_all (x := K.text) ha pos 4294967295 hp' (by first | with_reducible assumption | decide | lia | omega) ((s.add 24).add (K.code.getD (pc + 4) 0))
  refine ⟨s', ?_⟩
  rw [stepN_one, step_exec rfl rfl hp]
  have e : ops[K.code.getD pc 0]? = some .REPEAT_ONE := by rw [h0]; rfl
  have hlen : ((K.text.drop pos).takeWhile f).length ≤ K.text.length - pos := by
    have := List.takeWhile_sublist f (l := K.text.drop pos)
    have := this.length_le
    rwa [List.length_drop] at this
  have er : ((K.text.length : Int) - (pos : Int)).toNat = K.text.length - pos := by first | with_reducible assumption | decide | lia | omega
  unfold M.exec
  dsimp only [M.word, Nat.add_zero]
  rw [e]
  dsimp only
  rw [h2, h3, if_neg (by first | with_reducible assumption | decide | lia | omega), er, h0]
  simp only [Bool.false_eq_true, if_false]
  rw [hs, hn]
  dsimp only
  rw [if_neg (by first | with_reducible assumption | decide | lia | omega)]
  unfold M.afterRun M.attempt
  have hk : ∀ (a : Seen) (b : Nat), (M.keep { (st K pc b handed om mk lm li lo inn fr wg none) with seen := a } inn.isSome) = M.keep (st K pc pos handed om mk lm li lo inn fr wg none) inn.isSome := fun _ _ => rfl
  dsimp only [M.frame, M.word]
  rw [if_neg]
  · rfl
  · have := hw
    show ¬ (wg + 1 + _ > _)
    exact Nat.not_lt.mpr hw
theorem g_rep1_no {f : Nat → Bool} {lst n : Nat} (h0 : K.code.getD pc 0 = 24) (h2 : K.code.getD (pc + 2) 0 = lst) (h3 : K.code.getD (pc + 3) 0 = 4294967295) (ha : Acc K.code (pc + 4) f) (hp : pc < K.code.size)
    (hp' : pos ≤ K.text.length) (hx : K.text.length ≤ 4294967295) (hn : ((K.text.drop pos).takeWhile f).length = n) (hl : n < lst) :
    Goes 1 (st K pc pos handed om mk lm li lo inn fr wg none) (st K pc pos handed om mk lm li lo inn fr wg (some false)) := by
  intro s
  rw [stepN_one, step_exec rfl rfl hp]
  have e : ops[K.code.getD pc 0]? = some .REPEAT_ONE := by rw [h0]; rfl
  unfold M.exec
  dsimp only [M.word, Nat.add_zero]
  rw [e]
  dsimp only
  rw [h2, h3]
  by_cases hr : (lst : Int) > (K.text.length : Int) - (pos : Int)
  · rw [if_pos hr]
    exact ⟨s.add (K.code.getD pc 0), rfl⟩
  · obtain ⟨s', hs⟩ := run_all (x := K.text) ha pos 4294967295 hp' (by first | with_reducible assumption | decide | lia | omega) ((s.add (K.code.getD pc 0)).add (K.code.getD (pc + 4) 0))
    have er : ((K.text.length : Int) - (pos : Int)).toNat = K.text.length - pos := by first | with_reducible assumption | decide | lia | omega
    rw [if_neg hr, er]
    simp only [Bool.false_eq_true, if_false]
    rw [hs, hn]
    dsimp only
    rw [if_pos hl]
    exact ⟨s', rfl⟩

theorem step_ans {m : M} {f : Frame} {rest : List Frame} {yes : Bool} (ho : m.outcome = none) (ha : m.answer = some yes) (hf : m.frames = f :: rest) :
    m.step = M.resume { m with answer := none, frames := rest, weight := m.weight - (1 + f.kept.marks.size), pc := f.pc, pos := f.pos, outermost := f.outermost } f yes := by
  unfold M.step
  rw [ho, ha, hf]
  simp only [Option.isSome_none, Bool.false_eq_true, if_false]
theorem g_end {yes : Bool} (s : Seen) : stepN 1 { (st K pc pos handed om mk lm li lo inn [] wg (some yes)) with seen := s } =
    { (st K pc pos handed om mk lm li lo inn [] wg (some yes)) with seen := s, outcome := some (if yes then .matched else .failed) } := by
  rw [stepN_one]
  unfold M.step
  simp only [Option.isSome_none, Bool.false_eq_true, if_false]
section
variable {f : Frame}
theorem g_next_yes (hw : f.wait = .nextStart) :
    Goes 1 (st K pc pos handed om mk lm li lo inn (f :: fr) wg (some true)) (st K f.pc f.pos handed f.outermost mk lm li lo inn fr (wg - (1 + f.kept.marks.size)) (some true)) := by
  intro s
  refine ⟨s, ?_⟩
  rw [stepN_one, step_ans rfl rfl rfl]
  unfold M.resume
  rw [hw]
  rfl
theorem g_next_out (hw : f.wait = .nextStart) (hl : K.ls ≤ f.pos) :
    Goes 1 (st K pc pos handed om mk lm li lo inn (f :: fr) wg (some false)) (st K f.pc f.pos handed f.outermost mk lm li lo inn fr (wg - (1 + f.kept.marks.size)) (some false)) := by
  intro s
  refine ⟨s, ?_⟩
  rw [stepN_one, step_ans rfl rfl rfl]
  unfold M.resume
  rw [hw]
  dsimp only
  rw [if_neg Bool.false_ne_true, if_neg (Nat.not_lt.mpr hl)]
  rfl
theorem g_next_on (hw : f.wait = .nextStart) (hl : f.pos < K.ls) (hfs : (st K f.pc f.pos handed f.outermost mk lm li lo inn fr (wg - (1 + f.kept.marks.size)) none).hasFirstSet = false)
    (hwg : wg - (1 + f.kept.marks.size) + 1 + 0 ≤ 16777216) :
    Goes 1 (st K pc pos handed om mk lm li lo inn (f :: fr) wg (some false))
      (st { K with ma := false, start := f.pos + 1 } f.pc (f.pos + 1) (f.pos + 1) false mk (-1) (-1) lo inn ({ wait := .nextStart, pc := f.pc, pos := f.pos + 1, outermost := false } :: fr) (wg - (1 + f.kept.marks.size) + 1 + 0) none) := by
  intro s
  refine ⟨s, ?_⟩
  rw [stepN_one, step_ans rfl rfl rfl]
  unfold M.resume
  rw [hw]
  dsimp only
  rw [if_neg Bool.false_ne_true, if_pos hl]
  unfold M.attemptFrom
  have e : ∀ (a : Bool) (b : Seen), M.hasFirstSet { (st K f.pc f.pos handed f.outermost mk lm li lo inn fr (wg - (1 + f.kept.marks.size)) none) with mustAdvance := a, seen := b } = false := fun _ _ => hfs
  rw [e]
  rw [show (!false) = true from rfl, if_pos rfl]
  unfold M.attemptAt M.attempt
  rw [if_neg]
  · rfl
  · exact Nat.not_lt.mpr hwg
theorem g_give_yes (hw : f.wait = .giveBack) :
    Goes 1 (st K pc pos handed om mk lm li lo inn (f :: fr) wg (some true)) (st K f.pc f.pos handed f.outermost mk lm li lo inn fr (wg - (1 + f.kept.marks.size)) (some true)) := by
  intro s
  refine ⟨s, ?_⟩
  rw [stepN_one, step_ans rfl rfl rfl]
  unfold M.resume
  rw [hw]
  rfl
theorem putBack_plain {m : M} {k : Kept} (hk : k.whole = false) : m.putBack k = { m with lastmark := k.lastmark, lastindex := k.lastindex } := by
  unfold M.putBack; rw [hk]; rfl
/- nothing more to give back (outside of any loop) -/
theorem g_give_out (hw : f.wait = .giveBack) (hk : f.kept.whole = false) (hc : f.count - 1 < (K.code.getD (f.pc + 2) 0 : Nat)) :
    Goes 1 (st K pc pos handed om mk lm li lo inn (f :: fr) wg (some false)) (st K f.pc f.pos handed f.outermost mk f.kept.lastmark f.kept.lastindex lo inn fr (wg - (1 + f.kept.marks.size)) (some false)) := by
  intro s
  refine ⟨s, ?_⟩
  rw [stepN_one, step_ans rfl rfl rfl]
  unfold M.resume
  rw [hw]
  rw [if_neg Bool.false_ne_true]
  refine (if_pos hc).trans ?_
  unfold M.putBack
  rw [hk]
  rfl
theorem g_give_on (hw : f.wait = .giveBack) (hk : f.kept.whole = false) (hm : f.kept.marks = #[]) (hc : ¬ f.count - 1 < (K.code.getD (f.pc + 2) 0 : Nat)) (hwg : wg - (1 + f.kept.marks.size) + 1 + 0 ≤ 16777216) :
    Goes 1 (st K pc pos handed om mk lm li lo inn (f :: fr) wg (some false))
      (st K (f.pc + 1 + K.code.getD (f.pc + 1) 0) (f.pos - 1) (f.pos - 1) f.outermost mk f.kept.lastmark f.kept.lastindex lo inn
        ({ wait := .giveBack, pc := f.pc, pos := f.pos - 1, outermost := f.outermost, count := f.count - 1, kept := f.kept } :: fr) (wg - (1 + f.kept.marks.size) + 1 + 0) none) := by
  intro s
  refine ⟨s, ?_⟩
  rw [stepN_one, step_ans rfl rfl rfl]
  unfold M.resume
  rw [hw]
  dsimp only
  rw [if_neg Bool.false_ne_true]
  refine (if_neg hc).trans ?_
  rw [putBack_plain hk]
  unfold M.afterRun M.attempt
  dsimp only [M.frame, M.word]
  have hs : f.kept.marks.size = 0 := by rw [hm]; rfl
  rw [hs] at hwg
  rw [hs]
  exact if_neg (Nat.not_lt.mpr hwg)
theorem g_close {yes : Bool} (hw : f.wait = .closeLoop) :
    Goes 1 (st K pc pos handed om mk lm li lo inn (f :: fr) wg (some yes)) (st K f.pc f.pos handed f.outermost mk lm li lo.pop (lo.getD f.loop { pc := 0, outer := none }).outer fr (wg - (1 + f.kept.marks.size)) (some yes)) := by
  intro s
  refine ⟨s, ?_⟩
  rw [stepN_one, step_ans rfl rfl rfl]
  unfold M.resume
  rw [hw]
  rfl
theorem g_maxTail {yes : Bool} (hw : f.wait = .maxTail) :
    Goes 1 (st K pc pos handed om mk lm li lo inn (f :: fr) wg (some yes)) (st K f.pc f.pos handed f.outermost mk lm li lo (some f.loop) fr (wg - (1 + f.kept.marks.size)) (some yes)) := by
  intro s
  refine ⟨s, ?_⟩
  rw [stepN_one, step_ans rfl rfl rfl]
  unfold M.resume
  rw [hw]
  rfl
theorem g_maxMore_yes (hw : f.wait = .maxMore) :
    Goes 1 (st K pc pos handed om mk lm li lo inn (f :: fr) wg (some true)) (st K f.pc f.pos handed f.outermost mk lm li (lo.modify f.loop fun l => { l with began := f.began }) inn fr (wg - (1 + f.kept.marks.size)) (some true)) := by
  intro s
  refine ⟨s, ?_⟩
  rw [stepN_one, step_ans rfl rfl rfl]
  unfold M.resume
  rw [hw]
  rfl
end
end

section
variable {K : Cf} {pc pos handed : Nat} {om : Bool} {mk : Array (Option Nat)} {lm li : Int} {lo : Array Loop} {inn : Option Nat} {fr : List Frame} {wg : Nat} {f : Frame}
/- a loop is begun (outside of any other) -/
theorem g_rep (h0 : K.code.getD pc 0 = 23) (hp : pc < K.code.size) (hw : wg + 1 + 0 ≤ 16777216) :
    Goes 1 (st K pc pos handed om mk lm li #[] inn fr wg none)
      (st K (pc + 1 + K.code.getD (pc + 1) 0) pos pos om mk lm li #[{ pc := pc, outer := inn }] (some 0) ({ wait := .closeLoop, pc := pc, pos := pos, outermost := om, loop := 0 } :: fr) (wg + 1 + 0) none) := by
  intro s
  refine ⟨s.add 23, ?_⟩
  rw [stepN_one, step_exec rfl rfl hp]
  have e : ops[K.code.getD pc 0]? = some .REPEAT := by rw [h0]; rfl
  refine exec_via (P := fun x => M.exec x = _) _ fun m hm => ?_
  have e2 : ops[m.word 0]? = some .REPEAT := by rw [hm]; exact e
  unfold M.exec
  rw [e2]
  dsimp only
  subst hm
  dsimp only [M.word, Nat.add_zero]
  clear e2
  try dsimp only
  unfold M.attempt
  dsimp only [M.frame, M.word]
  rw [h0]
  exact if_neg (Nat.not_lt.mpr hw)
/- one more turn is tried -/
theorem g_until {c : Int} {b : Option Nat} {lp : Nat} (h0 : K.code.getD pc 0 = 18) (hp : pc < K.code.size) (h2 : K.code.getD (lp + 2) 0 = 0) (h3 : K.code.getD (lp + 3) 0 = 4294967295) (hc : 0 ≤ c + 1) (hb : b ≠ some pos)
    (hw : wg + 1 + (mk.extract 0 (lm + 1).toNat).size ≤ 16777216) :
    Goes 1 (st K pc pos handed om mk lm li #[{ pc := lp, count := c, began := b, outer := none }] (some 0) fr wg none)
      (st K (lp + 4) pos pos om mk lm li #[{ pc := lp, count := c + 1, began := some pos, outer := none }] (some 0)
        ({ wait := .maxMore, pc := pc + 1, pos := pos, outermost := om, loop := 0, count := c + 1, kept := { lastmark := lm, lastindex := li, whole := true, marks := mk.extract 0 (lm + 1).toNat }, began := b } :: fr)
        (wg + 1 + (mk.extract 0 (lm + 1).toNat).size) none) := by
  intro s
  refine ⟨s.add 18, ?_⟩
  rw [stepN_one, step_exec rfl rfl hp]
  have e : ops[K.code.getD pc 0]? = some .MAX_UNTIL := by rw [h0]; rfl
  have hb' : (b != some pos) = true := bne_iff_ne.mpr hb
  refine exec_via (P := fun x => M.exec x = _) _ fun m hm => ?_
  have e2 : ops[m.word 0]? = some .MAX_UNTIL := by rw [hm]; exact e
  unfold M.exec
  rw [e2]
  dsimp only
  subst hm
  dsimp only [M.word, Nat.add_zero]
  clear e2
  unfold M.until_
  have e1 : ∀ (a : Nat) (sn : Seen), M.loopAt { (st K a pos handed om mk lm li #[{ pc := lp, count := c, began := b, outer := none }] (some 0) fr wg none) with seen := sn } 0 = { pc := lp, count := c, began := b, outer := none } := fun _ _ => rfl
  dsimp only
  rw [e1]
  dsimp only
  rw [h2, h3, if_neg (by first | with_reducible assumption | decide | lia | omega), if_neg (by decide), hb', if_pos (by simp [maxRepeat])]
  unfold M.round
  dsimp only
  rw [e1]
  unfold M.attempt
  dsimp only [M.frame, M.keep, M.setLoop]
  rw [h0]
  simp only [if_true]
  exact if_neg (Nat.not_lt.mpr hw)
/- no more turns: the rest is tried -/
theorem g_maxMore_no {lp : Nat} {c1 : Int} {b1 : Option Nat} (hw : f.wait = .maxMore) (hl : f.loop = 0) (hk : f.kept.whole = true) (hm : f.kept.marks ++ mk.extract f.kept.marks.size mk.size = mk)
    (hwg : wg - (1 + f.kept.marks.size) + 1 + 0 ≤ 16777216) :
    Goes 1 (st K pc pos handed om mk lm li #[{ pc := lp, count := c1, began := b1, outer := none }] inn (f :: fr) wg (some false))
      (st K f.pc f.pos f.pos f.outermost mk f.kept.lastmark f.kept.lastindex #[{ pc := lp, count := f.count - 1, began := f.began, outer := none }] none
        ({ wait := .maxTail, pc := f.pc, pos := f.pos, outermost := f.outermost, loop := 0, count := f.count, kept := { lastmark := f.kept.lastmark, lastindex := f.kept.lastindex, whole := false, marks := #[] } } :: fr)
        (wg - (1 + f.kept.marks.size) + 1 + 0) none) := by
  intro s
  refine ⟨s, ?_⟩
  rw [stepN_one, step_ans rfl rfl rfl]
  unfold M.resume
  rw [hw]
  dsimp only
  rw [if_neg Bool.false_ne_true, hl]
  have hp : ∀ m : M, m.marks = mk → m.putBack f.kept = { m with lastmark := f.kept.lastmark, lastindex := f.kept.lastindex } := by
    intro m e
    unfold M.putBack
    rw [hk, if_pos rfl, e, hm]
  unfold M.afterLoop
  rw [hp _ rfl]
  unfold M.attempt
  exact if_neg (Nat.not_lt.mpr hwg)
end
end Mine
end
section
set_option autoImplicit false
namespace Mine
open PySem hiding Frame run Kept
open PySem.Sre
noncomputable def cTwin : Array Nat := #[14, 4, 0, 0, 4294967295, 6, 0, 24, 13, 0, 4294967295, 13, 8, 16, 61, 8, 12, 16, 59, 0, 1, 1]
noncomputable def cTok : Array Nat := #[14, 4, 0, 1, 4294967295, 6, 0, 24, 9, 0, 4294967295, 13, 4, 8, 12, 0, 1, 17, 0, 24, 19, 1, 4294967295, 13, 14, 21, 9, 0, 671092736, 0, 0, 0, 0, 0, 0, 8, 12, 0, 1, 17, 1, 1]
noncomputable def cQuo : Array Nat := #[14, 4, 0, 3, 4294967295, 6, 0, 24, 9, 0, 4294967295, 13, 4, 8, 12, 0, 1, 16, 61, 24, 9, 0, 4294967295, 13, 4, 8, 12, 0, 1, 16, 34, 17, 0, 24, 12, 0, 4294967295, 13, 7, 21, 16, 34, 16, 92, 0, 1, 23, 19, 0, 4294967295, 16, 92, 2, 24, 12, 0, 4294967295, 13, 7, 21, 16, 34, 16, 92, 0, 1, 18, 17, 1, 16, 34, 1]
noncomputable def cVal : Array Nat := #[14, 4, 0, 1, 4294967295, 6, 0, 24, 9, 0, 4294967295, 13, 4, 8, 12, 0, 1, 16, 61, 24, 9, 0, 4294967295, 13, 4, 8, 12, 0, 1, 17, 0, 24, 14, 0, 4294967295, 13, 9, 21, 8, 12, 16, 59, 16, 44, 0, 1, 17, 1, 1]
noncomputable def cEsc : Array Nat := #[14, 8, 1, 2, 2, 1, 1, 92, 0, 16, 92, 17, 0, 2, 17, 1, 1]
noncomputable def cJtok : Array Nat := #[14, 4, 0, 1, 4294967295, 24, 16, 1, 4294967295, 13, 11, 9, 0, 67071226, 3355443198, 1476395007, 0, 0, 0, 0, 0, 1, 1]
noncomputable def cJesc : Array Nat := #[14, 9, 4, 1, 1, 16, 34, 16, 92, 0, 17, 0, 13, 6, 16, 34, 16, 92, 0, 17, 1, 1]

noncomputable def fSp (c : Nat) : Bool := Unicode.isSpace c
noncomputable def fPlain (c : Nat) : Bool := !(c == 34) && !(c == 92)
noncomputable def fTok (c : Nat) : Bool := !(c < 256 && ((#[0, 671092736, 0, 0, 0, 0, 0, 0] : Array Nat).getD (c / 32) 0).testBit (c % 32)) && !Unicode.isSpace c
noncomputable def fVal (c : Nat) : Bool := !Unicode.isSpace c && !(c == 59) && !(c == 44)
noncomputable def fTwin (c : Nat) : Bool := c == 61 || Unicode.isSpace c || c == 59
noncomputable def fJtok (c : Nat) : Bool := c < 256 && ((#[0, 67071226, 3355443198, 1476395007, 0, 0, 0, 0] : Array Nat).getD (c / 32) 0).testBit (c % 32)
noncomputable def fJesc (c : Nat) : Bool := c == 34 || c == 92

section
variable {c : Array Nat} {ch i fuel : Nat} {yes : Bool} {s : Seen}
theorem is_fail (h : c.getD i 0 = 0) : inSet c ch (fuel + 1) i yes s = .ok (!yes, s.add 0) := by
  conv => lhs; whnf
  dsimp only [Nat.add_zero]
  rw [h]; rfl
theorem is_neg (h : c.getD i 0 = 21) : inSet c ch (fuel + 1) i yes s = inSet c ch fuel (i + 1) (!yes) (s.add 21) := by
  conv => lhs; whnf
  dsimp only [Nat.add_zero]
  rw [h]; rfl
theorem is_lit {v : Nat} (h : c.getD i 0 = 16) (h1 : c.getD (i + 1) 0 = v) : inSet c ch (fuel + 1) i yes s = if ch == v then .ok (yes, s.add 16) else inSet c ch fuel (i + 2) yes (s.add 16) := by
  subst h1
  conv => lhs; whnf
  dsimp only [Nat.add_zero]
  rw [h]; rfl
theorem is_space (h : c.getD i 0 = 8) (h1 : c.getD (i + 1) 0 = 12) : inSet c ch (fuel + 1) i yes s = if Unicode.isSpace ch then .ok (yes, (s.add 8).add 67) else inSet c ch fuel (i + 2) yes ((s.add 8).add 67) := by
  conv => lhs; whnf
  dsimp only [Nat.add_zero]
  rw [h]
  show (do if ← category (c.getD (i + 1) 0) ch then pure (yes, (s.add 8).add (55 + c.getD (i + 1) 0)) else inSet c ch fuel (i + 2) yes ((s.add 8).add (55 + c.getD (i + 1) 0))) = _
  rw [h1]
  show (do if ← (Except.ok (Unicode.isSpace ch) : Except String Bool).map (fun x => x != false) then pure (yes, (s.add 8).add 67) else inSet c ch fuel (i + 2) yes ((s.add 8).add 67)) = _
  cases Unicode.isSpace ch <;> rfl
theorem is_chars (h : c.getD i 0 = 9) : inSet c ch (fuel + 1) i yes s = if (ch < 256 && (c.getD (i + (1 + ch / 32)) 0).testBit (ch % 32)) = true then .ok (yes, s.add 9) else inSet c ch fuel (i + 9) yes (s.add 9) := by
  conv => lhs; whnf
  dsimp only [Nat.add_zero]
  rw [h]; rfl
theorem acc_in (h : c.getD i 0 = 13) : accepts c i ch s = inSet c ch c.size (i + 2) true s := by
  unfold accepts
  rw [h]; rfl
end
theorem acc_tok1 : Acc cTok 11 fSp := fun ch s => by
  rw [acc_in rfl]
  show ∃ s', inSet cTok ch (_ + 1 + 1 ) 13 true s = _
  rw [is_space rfl rfl, is_fail rfl]
  unfold fSp
  (cases Unicode.isSpace ch) <;> exact ⟨_, rfl⟩
theorem acc_quo1 : Acc cQuo 11 fSp := fun ch s => by
  rw [acc_in rfl]
  show ∃ s', inSet cQuo ch (_ + 1 + 1 ) 13 true s = _
  rw [is_space rfl rfl, is_fail rfl]
  unfold fSp
  (cases Unicode.isSpace ch) <;> exact ⟨_, rfl⟩
theorem acc_quo2 : Acc cQuo 23 fSp := fun ch s => by
  rw [acc_in rfl]
  show ∃ s', inSet cQuo ch (_ + 1 + 1 ) 25 true s = _
  rw [is_space rfl rfl, is_fail rfl]
  unfold fSp
  (cases Unicode.isSpace ch) <;> exact ⟨_, rfl⟩
theorem acc_val1 : Acc cVal 11 fSp := fun ch s => by
  rw [acc_in rfl]
  show ∃ s', inSet cVal ch (_ + 1 + 1 ) 13 true s = _
  rw [is_space rfl rfl, is_fail rfl]
  unfold fSp
  (cases Unicode.isSpace ch) <;> exact ⟨_, rfl⟩
theorem acc_val2 : Acc cVal 23 fSp := fun ch s => by
  rw [acc_in rfl]
  show ∃ s', inSet cVal ch (_ + 1 + 1 ) 25 true s = _
  rw [is_space rfl rfl, is_fail rfl]
  unfold fSp
  (cases Unicode.isSpace ch) <;> exact ⟨_, rfl⟩
theorem acc_quo3 : Acc cQuo 37 fPlain := fun ch s => by
  rw [acc_in rfl]
  show ∃ s', inSet cQuo ch (_ + 1 + 1 + 1 + 1 ) 39 true s = _
  rw [is_neg rfl, is_lit (v := 34) rfl rfl, is_lit (v := 92) rfl rfl, is_fail rfl]
  unfold fPlain
  (cases ch == 34) <;> (cases ch == 92) <;> exact ⟨_, rfl⟩
theorem acc_quo4 : Acc cQuo 57 fPlain := fun ch s => by
  rw [acc_in rfl]
  show ∃ s', inSet cQuo ch (_ + 1 + 1 + 1 + 1 ) 59 true s = _
  rw [is_neg rfl, is_lit (v := 34) rfl rfl, is_lit (v := 92) rfl rfl, is_fail rfl]
  unfold fPlain
  (cases ch == 34) <;> (cases ch == 92) <;> exact ⟨_, rfl⟩
theorem acc_val3 : Acc cVal 35 fVal := fun ch s => by
  rw [acc_in rfl]
  show ∃ s', inSet cVal ch (_ + 1 + 1 + 1 + 1 + 1 ) 37 true s = _
  rw [is_neg rfl, is_space rfl rfl, is_lit (v := 59) rfl rfl, is_lit (v := 44) rfl rfl, is_fail rfl]
  unfold fVal
  (cases Unicode.isSpace ch) <;> (cases ch == 59) <;> (cases ch == 44) <;> exact ⟨_, rfl⟩
theorem acc_twin : Acc cTwin 11 fTwin := fun ch s => by
  rw [acc_in rfl]
  show ∃ s', inSet cTwin ch (_ + 1 + 1 + 1 + 1 ) 13 true s = _
  rw [is_lit (v := 61) rfl rfl, is_space rfl rfl, is_lit (v := 59) rfl rfl, is_fail rfl]
  unfold fTwin
  (cases ch == 61) <;> (cases Unicode.isSpace ch) <;> (cases ch == 59) <;> exact ⟨_, rfl⟩
theorem acc_jesc : Acc cJesc 12 fJesc := fun ch s => by
  rw [acc_in rfl]
  show ∃ s', inSet cJesc ch (_ + 1 + 1 + 1 ) 14 true s = _
  rw [is_lit (v := 34) rfl rfl, is_lit (v := 92) rfl rfl, is_fail rfl]
  unfold fJesc
  (cases ch == 34) <;> (cases ch == 92) <;> exact ⟨_, rfl⟩
theorem acc_tok2 : Acc cTok 23 fTok := fun ch s => by
  rw [acc_in rfl]
  show ∃ s', inSet cTok ch (_ + 1 + 1 + 1 + 1) 25 true s = _
  rw [is_neg rfl, is_chars rfl, is_space rfl rfl, is_fail rfl]
  have e : (decide (ch < 256) && (cTok.getD (25 + 1 + (1 + ch / 32)) 0).testBit (ch % 32)) = (decide (ch < 256) && ((#[0, 671092736, 0, 0, 0, 0, 0, 0] : Array Nat).getD (ch / 32) 0).testBit (ch % 32)) := by
    by_cases h : ch < 256
    · have : ch / 32 < 8 := by first | with_reducible assumption | decide | lia | omega
      have : ch / 32 = 0 ∨ ch / 32 = 1 ∨ ch / 32 = 2 ∨ ch / 32 = 3 ∨ ch / 32 = 4 ∨ ch / 32 = 5 ∨ ch / 32 = 6 ∨ ch / 32 = 7 := by first | with_reducible assumption | decide | lia | omega
      rcases this with q | q | q | q | q | q | q | q <;> rw [q] <;> rfl
    · simp [h]
  unfold fTok
  rw [e]
  (cases (decide (ch < 256) && ((#[0, 671092736, 0, 0, 0, 0, 0, 0] : Array Nat).getD (ch / 32) 0).testBit (ch % 32))) <;> (cases Unicode.isSpace ch) <;> exact ⟨_, rfl⟩
theorem acc_jtok : Acc cJtok 9 fJtok := fun ch s => by
  rw [acc_in rfl]
  show ∃ s', inSet cJtok ch (_ + 1 + 1) 11 true s = _
  rw [is_chars rfl, is_fail rfl]
  have e : (decide (ch < 256) && (cJtok.getD (11 + (1 + ch / 32)) 0).testBit (ch % 32)) = (decide (ch < 256) && ((#[0, 67071226, 3355443198, 1476395007, 0, 0, 0, 0] : Array Nat).getD (ch / 32) 0).testBit (ch % 32)) := by
    by_cases h : ch < 256
    · have : ch / 32 = 0 ∨ ch / 32 = 1 ∨ ch / 32 = 2 ∨ ch / 32 = 3 ∨ ch / 32 = 4 ∨ ch / 32 = 5 ∨ ch / 32 = 6 ∨ ch / 32 = 7 := by first | with_reducible assumption | decide | lia | omega
      rcases this with q | q | q | q | q | q | q | q <;> rw [q] <;> rfl
    · simp [h]
  unfold fJtok
  rw [e]
  (cases (decide (ch < 256) && ((#[0, 67071226, 3355443198, 1476395007, 0, 0, 0, 0] : Array Nat).getD (ch / 32) 0).testBit (ch % 32))) <;> exact ⟨_, rfl⟩
end Mine
end
section
set_option autoImplicit false
namespace Mine
open PySem hiding Frame run Kept
open PySem.Sre

noncomputable abbrev nx (pc pos : Nat) (om : Bool) : Frame := { wait := .nextStart, pc := pc, pos := pos, outermost := om }
/- the machine comes to its end: found -/
noncomputable def Found (m : M) (start handed : Nat) (mk : Array (Option Nat)) (lm li : Int) (b : Nat) : Prop :=
  ∃ k m', k ≤ b ∧ stepN k m = m' ∧ m'.outcome = some .matched ∧ m'.start = start ∧ m'.handed = handed ∧ m'.marks = mk ∧ m'.lastmark = lm ∧ m'.lastindex = li
/- .. not found -/
noncomputable def Lost (m : M) (b : Nat) : Prop := ∃ k m', k ≤ b ∧ stepN k m = m' ∧ m'.outcome = some .failed

section
variable {K : Cf} {pc pos handed : Nat} {om : Bool} {mk : Array (Option Nat)} {lm li : Int} {lo : Array Loop} {inn : Option Nat} {fr : List Frame} {wg : Nat}
theorem found_of {m : M} {k b : Nat} (G : Goes k m (st K pc pos handed om mk lm li lo inn [] wg (some true))) (hb : k + 1 ≤ b) : Found m K.start handed mk lm li b := by
  obtain ⟨s', e⟩ := G m.seen
  refine ⟨k + 1, _, hb, rfl, ?_⟩
  rw [stepN_add, show stepN k m = _ from e, g_end]
  exact ⟨rfl, rfl, rfl, rfl, rfl, rfl⟩
theorem lost_of {m : M} {k b : Nat} (G : Goes k m (st K pc pos handed om mk lm li lo inn [] wg (some false))) (hb : k + 1 ≤ b) : Lost m b := by
  obtain ⟨s', e⟩ := G m.seen
  refine ⟨k + 1, _, hb, rfl, ?_⟩
  rw [stepN_add, show stepN k m = _ from e, g_end]
  rfl
end

/- a search begins -/
noncomputable def fr0 (c : Array Nat) (x : List Nat) (g p : Nat) (must : Bool) : M :=
  { code := c, text := x.toArray, lim := x.length, start := p, pc := (header c).2, pos := p, handed := p, marks := Array.replicate (2 * g) none, mustAdvance := must,
    seen := if (header c).2 == 0 then {} else ({} : Seen).add 14 }
noncomputable def lsOf (c : Array Nat) (n p : Nat) : Nat := if (header c).1 > 1 && !((header c).2 != 0 && c.getD 2 0 &&& 5 != 0) then max p (n - ((header c).1 - 1)) else n
theorem fs_eq (c : Array Nat) (x : List Nat) (g p : Nat) (must : Bool) : forSearch c x.toArray g p x.length must =
    if (p > x.length || x.length - p < (header c).1) = true then (fr0 c x g p must).say false else M.attemptFrom { fr0 c x g p must with lastStart := lsOf c x.length p } p true := rfl
theorem fs_start {c : Array Nat} {x : List Nat} {g p : Nat} {must : Bool} (hp : p ≤ x.length) (hl : (header c).1 ≤ x.length - p) (hf : (c.getD 2 0 == 4) = false) :
    ∃ s, forSearch c x.toArray g p x.length must = { (st ⟨c, x, p, lsOf c x.length p, false, must⟩ (header c).2 p p true (Array.replicate (2 * g) none) (-1) (-1) #[] none [nx (header c).2 p true] 1 none) with seen := s } := by
  rw [fs_eq, if_neg (by simp; first | with_reducible assumption | decide | lia | omega)]
  unfold M.attemptFrom
  have : M.hasFirstSet { fr0 c x g p must with lastStart := lsOf c x.length p } = false := by
    unfold M.hasFirstSet fr0
    dsimp only
    rw [hf, Bool.and_false]
  rw [this]
  exact ⟨(fr0 c x g p must).seen, rfl⟩
theorem fs_short {c : Array Nat} {x : List Nat} {g p : Nat} {must : Bool} (h : x.length < p ∨ x.length - p < (header c).1) : Lost (forSearch c x.toArray g p x.length must) 1 := by
  rw [fs_eq, if_pos (by simp; first | with_reducible assumption | decide | lia | omega)]
  exact ⟨1, _, Nat.le_refl _, rfl, rfl⟩

/- behind a first try that fails, a pattern that stands at the beginning alone fails everywhere -/
theorem at_fails {c : Array Nat} {x : List Nat} {pc : Nat} (h0 : c.getD pc 0 = 6) (h1 : c.getD (pc + 1) 0 = 0) (hp : pc < c.size) (hf : (c.getD 2 0 == 4) = false) :
    ∀ (n : Nat) (start ls pos handed cpc cpos wg : Nat) (must om omf : Bool) (mk : Array (Option Nat)) (lm li : Int), ls - pos = n → wg ≤ 100 →
      ∃ k handed' pc' pos' om' lm' li' wg' start' must', k ≤ 3 * n + 1 ∧ Goes k (st ⟨c, x, start, ls, false, must⟩ cpc cpos handed om mk lm li #[] none [nx pc pos omf] wg (some false))
        (st ⟨c, x, start', ls, false, must'⟩ pc' pos' handed' om' mk lm' li' #[] none [] wg' (some false)) := by
  intro n
  induction n with
  | zero =>
    intro start ls pos handed cpc cpos wg must om omf mk lm li hn hw
    exact ⟨1, _, _, _, _, _, _, _, _, _, by first | with_reducible assumption | decide | lia | omega, g_next_out rfl (by show ls ≤ pos; first | with_reducible assumption | decide | lia | omega)⟩
  | succ n ih =>
    intro start ls pos handed cpc cpos wg must om omf mk lm li hn hw
    have G1 := g_next_on (K := ⟨c, x, start, ls, false, must⟩) (pc := cpc) (pos := cpos) (handed := handed) (om := om) (mk := mk) (lm := lm) (li := li) (lo := #[]) (inn := none) (fr := []) (wg := wg) (f := nx pc pos omf) rfl (by show pos < ls; first | with_reducible assumption | decide | lia | omega)
      (by show (_ && (c.getD 2 0 == 4)) = false; rw [hf, Bool.and_false]) (by show wg - (1 + 0) + 1 + 0 ≤ 16777216; first | with_reducible assumption | decide | lia | omega)
    have G2 := g_at_no (K := ⟨c, x, pos + 1, ls, false, false⟩) (pc := pc) (pos := pos + 1) (handed := pos + 1) (om := false) (mk := mk) (lm := -1) (li := -1) (lo := #[]) (inn := none) (fr := [nx pc (pos + 1) false]) (wg := wg - (1 + 0) + 1 + 0) h0 h1 hp (by first | with_reducible assumption | decide | lia | omega)
    obtain ⟨k, handed', pc', pos', om', lm', li', wg', start', must', hk, G3⟩ := ih (pos + 1) ls (pos + 1) (pos + 1) pc (pos + 1) (wg - (1 + 0) + 1 + 0) false false false mk (-1) (-1) (by first | with_reducible assumption | decide | lia | omega) (by first | with_reducible assumption | decide | lia | omega)
    exact ⟨1 + (1 + k), _, _, _, _, _, _, _, _, _, by first | with_reducible assumption | decide | lia | omega, G1.trans (G2.trans G3)⟩

theorem found_start {m m1 : M} {a b : Nat} {mk : Array (Option Nat)} {lm li : Int} {n : Nat} (e : ∃ s, m = { m1 with seen := s }) (F : ∀ s, Found { m1 with seen := s } a b mk lm li n) : Found m a b mk lm li n := by
  obtain ⟨s, rfl⟩ := e; exact F s
theorem lost_start {m m1 : M} {n : Nat} (e : ∃ s, m = { m1 with seen := s }) (F : ∀ s, Lost { m1 with seen := s } n) : Lost m n := by
  obtain ⟨s, rfl⟩ := e; exact F s
theorem Goes.seen {k : Nat} {m m' : M} (G : Goes k m m') (s : Seen) : Goes k { m with seen := s } m' := fun t => G t

/- a pattern with ^: the first try fails, so it is not found -/
theorem lost_at {c : Array Nat} {x : List Nat} {g p k B : Nat} {must : Bool} {wg : Nat} (hp : p ≤ x.length) (hl : (header c).1 ≤ x.length - p) (hf : (c.getD 2 0 == 4) = false)
    (h0 : c.getD (header c).2 0 = 6) (h1 : c.getD ((header c).2 + 1) 0 = 0) (hs : (header c).2 < c.size) (hw : wg ≤ 100)
    (G : ∃ (pc pos handed : Nat) (om : Bool) (mk : Array (Option Nat)) (lm li : Int), Goes k (st ⟨c, x, p, lsOf c x.length p, false, must⟩ (header c).2 p p true (Array.replicate (2 * g) none) (-1) (-1) #[] none [nx (header c).2 p true] 1 none)
      (st ⟨c, x, p, lsOf c x.length p, false, must⟩ pc pos handed om mk lm li #[] none [nx (header c).2 p true] wg (some false))) (hB : k + 3 * (lsOf c x.length p - p) + 2 ≤ B) :
    Lost (forSearch c x.toArray g p x.length must) B := by
  obtain ⟨pc, pos, handed, om, mk, lm, li, G⟩ := G
  refine lost_start (fs_start hp hl hf) fun s => ?_
  obtain ⟨k2, handed', pc', pos', om', lm', li', wg', start', must', hk, G2⟩ := at_fails (c := c) (x := x) h0 h1 hs hf (lsOf c x.length p - p) p (lsOf c x.length p) p handed pc pos wg must om true mk lm li rfl hw
  exact lost_of (k := k + k2) ((G.trans G2).seen s) (by first | with_reducible assumption | decide | lia | omega)
theorem lsOf_le (c : Array Nat) (n p : Nat) (h : p ≤ n) : lsOf c n p ≤ n := by
  unfold lsOf
  split
  · first | with_reducible assumption | decide | lia | omega
  · exact Nat.le_refl _

theorem take_len (f : Nat → Bool) (x : List Nat) : (x.takeWhile f).length ≤ x.length := (List.takeWhile_sublist f).length_le

theorem gl {a b : Nat} (h : Nat.ble (a + 1) b = true) : a < b := Nat.le_of_ble_eq_true h
theorem gle {a b : Nat} (h : Nat.ble a b = true) : a ≤ b := Nat.le_of_ble_eq_true h
theorem drop_len {f : Nat → Bool} {x : List Nat} {n k : Nat} (hn : n ≤ x.length) (hk : ((x.drop n).takeWhile f).length = k) : n + k ≤ x.length := by
  have := take_len f (x.drop n); rw [List.length_drop] at this; first | with_reducible assumption | decide | lia | omega

/- TOKEN: blanks, then a name -/
theorem tok_yes {x : List Nat} {n k : Nat} (hx : x.length ≤ 16777216) (hn : (x.takeWhile fSp).length = n) (hk : ((x.drop n).takeWhile fTok).length = k) (h1 : 1 ≤ k) :
    Found (forSearch cTok x.toArray 1 0 x.length false) 0 (n + k) #[some n, some (n + k)] 1 1 20 := by
  have hnx : n ≤ x.length := hn ▸ take_len fSp x
  have hkx := drop_len hnx hk
  refine found_start (fs_start (c := cTok) (Nat.zero_le _) (by show 1 ≤ x.length - 0; first | with_reducible assumption | decide | lia | omega) rfl) fun s => ?_
  have G : ∃ wg, Goes 9 (st ⟨cTok, x, 0, lsOf cTok x.length 0, false, false⟩ 5 0 0 true #[none, none] (-1) (-1) #[] none [nx 5 0 true] 1 none)
      (st ⟨cTok, x, 0, lsOf cTok x.length 0, false, false⟩ 5 0 (0 + n + k) true #[some (0 + n), some (0 + n + k)] 1 1 #[] none [] wg (some true)) := by
    apply Exists.intro
    refine (g_at_yes rfl rfl (gl rfl) rfl).trans (b := 8) ?_
    refine (g_rep1 (lst := 0) (n := n) rfl rfl rfl acc_tok1 (gl rfl) (Nat.zero_le _) (by show x.length ≤ _; first | with_reducible assumption | decide | lia | omega) hn (Nat.zero_le _) (gle rfl)).trans (b := 7) ?_
    refine (g_mark (i := 0) rfl rfl (gl rfl) rfl rfl rfl).trans (b := 6) ?_
    refine (g_rep1 (lst := 1) (n := k) rfl rfl rfl acc_tok2 (gl rfl) (by show 0 + n ≤ x.length; first | with_reducible assumption | decide | lia | omega) (by show x.length ≤ _; first | with_reducible assumption | decide | lia | omega) (by rw [Nat.zero_add]; exact hk) h1 (gle rfl)).trans (b := 5) ?_
    refine (g_mark (i := 1) rfl rfl (gl rfl) rfl rfl rfl).trans (b := 4) ?_
    refine (g_succ rfl (gl rfl) rfl).trans (b := 3) ?_
    refine (g_give_yes rfl).trans (b := 2) ?_
    refine (g_give_yes rfl).trans (b := 1) ?_
    exact g_next_yes rfl
  obtain ⟨wg, G⟩ := G
  have := found_of (G.seen s) (b := 20) (by decide)
  simp only [Nat.zero_add] at this
  exact this

theorem tw0 {f : Nat → Bool} {x : List Nat} (h : ∀ c r, x = c :: r → f c = false) : (x.takeWhile f).length = 0 := by
  cases x with
  | nil => rfl
  | cons c r => rw [List.takeWhile_cons, h c r rfl]; rfl

theorem tok_no0 {x : List Nat} (hx : x.length ≤ 16777216) (h0 : 1 ≤ x.length) (hn : (x.takeWhile fSp).length = 0) (hk : (x.takeWhile fTok).length = 0) :
    Lost (forSearch cTok x.toArray 1 0 x.length false) (3 * x.length + 20) := by
  refine lost_at (g := 1) (k := 5) (wg := 1) (Nat.zero_le _) (by show 1 ≤ x.length - 0; first | with_reducible assumption | decide | lia | omega) rfl rfl rfl (gl rfl) (by decide) ?_ (by have := lsOf_le cTok x.length 0 (Nat.zero_le _); first | with_reducible assumption | decide | lia | omega)
  · iterate 7 apply Exists.intro
    refine (g_at_yes rfl rfl (gl rfl) rfl).trans (b := 4) ?_
    refine (g_rep1 (lst := 0) (n := 0) rfl rfl rfl acc_tok1 (gl rfl) (Nat.zero_le _) (by show x.length ≤ _; first | with_reducible assumption | decide | lia | omega) hn (Nat.zero_le _) (gle rfl)).trans (b := 3) ?_
    refine (g_mark (i := 0) rfl rfl (gl rfl) rfl rfl rfl).trans (b := 2) ?_
    refine (g_rep1_no (lst := 1) (n := 0) rfl rfl rfl acc_tok2 (gl rfl) (Nat.zero_le _) (by show x.length ≤ _; first | with_reducible assumption | decide | lia | omega) hk (by decide)).trans (b := 1) ?_
    exact g_give_out rfl rfl (by show ((0 : Nat) : Int) - 1 < ((0 : Nat) : Int); decide)
theorem tok_no1 {x : List Nat} (hx : x.length ≤ 16777216) (h0 : 1 ≤ x.length) (hn : (x.takeWhile fSp).length = 1) (hk : (x.takeWhile fTok).length = 0) (hk1 : ((x.drop 1).takeWhile fTok).length = 0) :
    Lost (forSearch cTok x.toArray 1 0 x.length false) (3 * x.length + 20) := by
  refine lost_at (g := 1) (k := 8) (wg := 1) (Nat.zero_le _) (by show 1 ≤ x.length - 0; first | with_reducible assumption | decide | lia | omega) rfl rfl rfl (gl rfl) (by decide) ?_ (by have := lsOf_le cTok x.length 0 (Nat.zero_le _); first | with_reducible assumption | decide | lia | omega)
  · iterate 7 apply Exists.intro
    refine (g_at_yes rfl rfl (gl rfl) rfl).trans (b := 7) ?_
    refine (g_rep1 (lst := 0) (n := 1) rfl rfl rfl acc_tok1 (gl rfl) (Nat.zero_le _) (by show x.length ≤ _; first | with_reducible assumption | decide | lia | omega) hn (Nat.zero_le _) (gle rfl)).trans (b := 6) ?_
    refine (g_mark (i := 0) rfl rfl (gl rfl) rfl rfl rfl).trans (b := 5) ?_
    refine (g_rep1_no (lst := 1) (n := 0) rfl rfl rfl acc_tok2 (gl rfl) (by show 0 + 1 ≤ x.length; first | with_reducible assumption | decide | lia | omega) (by show x.length ≤ _; first | with_reducible assumption | decide | lia | omega) hk1 (by decide)).trans (b := 4) ?_
    refine (g_give_on rfl rfl rfl (by show ¬ ((1 : Nat) : Int) - 1 < ((0 : Nat) : Int); decide) (gle rfl)).trans (b := 3) ?_
    refine (g_mark (i := 0) rfl rfl (gl rfl) rfl rfl rfl).trans (b := 2) ?_
    refine (g_rep1_no (lst := 1) (n := 0) rfl rfl rfl acc_tok2 (gl rfl) (Nat.zero_le _) (by show x.length ≤ _; first | with_reducible assumption | decide | lia | omega) hk (by decide)).trans (b := 1) ?_
    exact g_give_out rfl rfl (by show ((1 : Nat) : Int) - 1 - 1 < ((0 : Nat) : Int); decide)

theorem quo_no1 {x : List Nat} {c : Nat} {r : List Nat} (hx : x.length ≤ 16777216) (h0 : 3 ≤ x.length) (e : x = c :: r) (hc : fSp c = false) (h61 : c ≠ 61) :
    Lost (forSearch cQuo x.toArray 1 0 x.length false) (3 * x.length + 20) := by
  have hn : (x.takeWhile fSp).length = 0 := tw0 fun c' r' q => by rw [e] at q; cases q; exact hc
  refine lost_at (g := 1) (k := 4) (wg := 1) (Nat.zero_le _) (by show 3 ≤ x.length - 0; first | with_reducible assumption | decide | lia | omega) rfl rfl rfl (gl rfl) (by decide) ?_ (by have := lsOf_le cQuo x.length 0 (Nat.zero_le _); first | with_reducible assumption | decide | lia | omega)
  · iterate 7 apply Exists.intro
    refine (g_at_yes rfl rfl (gl rfl) rfl).trans (b := 3) ?_
    refine (g_rep1 (lst := 0) (n := 0) rfl rfl rfl acc_quo1 (gl rfl) (Nat.zero_le _) (by show x.length ≤ _; first | with_reducible assumption | decide | lia | omega) hn (Nat.zero_le _) (gle rfl)).trans (b := 2) ?_
    refine (g_lit_no rfl (gl rfl) (by show 0 + 0 < x.length; first | with_reducible assumption | decide | lia | omega) (by show x.getD 0 0 ≠ 61; rw [e]; exact h61)).trans (b := 1) ?_
    exact g_give_out rfl rfl (by show ((0 : Nat) : Int) - 1 < ((0 : Nat) : Int); decide)
theorem quo_no2 {x : List Nat} {c : Nat} {r : List Nat} (hx : x.length ≤ 16777216) (h0 : 3 ≤ x.length) (e : x = 61 :: c :: r) (hc : fSp c = false) (h34 : c ≠ 34) :
    Lost (forSearch cQuo x.toArray 1 0 x.length false) (3 * x.length + 20) := by
  have hn : (x.takeWhile fSp).length = 0 := tw0 fun c' r' q => by rw [e] at q; cases q; decide +kernel
  have hn1 : ((x.drop 1).takeWhile fSp).length = 0 := tw0 fun c' r' q => by rw [e] at q; cases q; exact hc
  refine lost_at (g := 1) (k := 7) (wg := 1) (Nat.zero_le _) (by show 3 ≤ x.length - 0; first | with_reducible assumption | decide | lia | omega) rfl rfl rfl (gl rfl) (by decide) ?_ (by have := lsOf_le cQuo x.length 0 (Nat.zero_le _); first | with_reducible assumption | decide | lia | omega)
  · iterate 7 apply Exists.intro
    refine (g_at_yes rfl rfl (gl rfl) rfl).trans (b := 6) ?_
    refine (g_rep1 (lst := 0) (n := 0) rfl rfl rfl acc_quo1 (gl rfl) (Nat.zero_le _) (by show x.length ≤ _; first | with_reducible assumption | decide | lia | omega) hn (Nat.zero_le _) (gle rfl)).trans (b := 5) ?_
    refine (g_lit_yes rfl (gl rfl) (by show 0 + 0 < x.length; first | with_reducible assumption | decide | lia | omega) (by show x.getD 0 0 = 61; rw [e]; rfl)).trans (b := 4) ?_
    refine (g_rep1 (lst := 0) (n := 0) rfl rfl rfl acc_quo2 (gl rfl) (by show 0 + 0 + 1 ≤ x.length; first | with_reducible assumption | decide | lia | omega) (by show x.length ≤ _; first | with_reducible assumption | decide | lia | omega) hn1 (Nat.zero_le _) (gle rfl)).trans (b := 3) ?_
    refine (g_lit_no rfl (gl rfl) (by show 0 + 0 + 1 + 0 < x.length; first | with_reducible assumption | decide | lia | omega) (by show x.getD 1 0 ≠ 34; rw [e]; exact h34)).trans (b := 2) ?_
    refine (g_give_out rfl rfl (by show ((0 : Nat) : Int) - 1 < ((0 : Nat) : Int); decide)).trans (b := 1) ?_
    exact g_give_out rfl rfl (by show ((0 : Nat) : Int) - 1 < ((0 : Nat) : Int); decide)

theorem val_no {x : List Nat} {c : Nat} {r : List Nat} (hx : x.length ≤ 16777216) (e : x = c :: r) (hc : fSp c = false) (h61 : c ≠ 61) :
    Lost (forSearch cVal x.toArray 1 0 x.length false) (3 * x.length + 20) := by
  have hn : (x.takeWhile fSp).length = 0 := tw0 fun c' r' q => by rw [e] at q; cases q; exact hc
  have h0 : 1 ≤ x.length := by rw [e, List.length_cons]; first | with_reducible assumption | decide | lia | omega
  refine lost_at (g := 1) (k := 4) (wg := 1) (Nat.zero_le _) (by show 1 ≤ x.length - 0; first | with_reducible assumption | decide | lia | omega) rfl rfl rfl (gl rfl) (by decide) ?_ (by have := lsOf_le cVal x.length 0 (Nat.zero_le _); first | with_reducible assumption | decide | lia | omega)
  · iterate 7 apply Exists.intro
    refine (g_at_yes rfl rfl (gl rfl) rfl).trans (b := 3) ?_
    refine (g_rep1 (lst := 0) (n := 0) rfl rfl rfl acc_val1 (gl rfl) (Nat.zero_le _) (by show x.length ≤ _; first | with_reducible assumption | decide | lia | omega) hn (Nat.zero_le _) (gle rfl)).trans (b := 2) ?_
    refine (g_lit_no rfl (gl rfl) (by show 0 + 0 < x.length; first | with_reducible assumption | decide | lia | omega) (by show x.getD 0 0 ≠ 61; rw [e]; exact h61)).trans (b := 1) ?_
    exact g_give_out rfl rfl (by show ((0 : Nat) : Int) - 1 < ((0 : Nat) : Int); decide)
theorem val_yes {x r : List Nat} {k : Nat} (hx : x.length ≤ 16777216) (e : x = 61 :: r) (hs : (r.takeWhile fSp).length = 0) (hk : (r.takeWhile fVal).length = k) :
    Found (forSearch cVal x.toArray 1 0 x.length false) 0 (1 + k) #[some 1, some (1 + k)] 1 1 20 := by
  have hn : (x.takeWhile fSp).length = 0 := tw0 fun c' r' q => by rw [e] at q; cases q; decide +kernel
  have hl : x.length = r.length + 1 := by rw [e, List.length_cons]
  have h1 : x.drop 1 = r := by rw [e]; rfl
  have hkr : k ≤ r.length := hk ▸ take_len fVal r
  refine found_start (fs_start (c := cVal) (Nat.zero_le _) (by show 1 ≤ x.length - 0; first | with_reducible assumption | decide | lia | omega) rfl) fun s => ?_
  have G : ∃ wg, Goes 12 (st ⟨cVal, x, 0, lsOf cVal x.length 0, false, false⟩ 5 0 0 true #[none, none] (-1) (-1) #[] none [nx 5 0 true] 1 none)
      (st ⟨cVal, x, 0, lsOf cVal x.length 0, false, false⟩ 5 0 (1 + k) true #[some 1, some (1 + k)] 1 1 #[] none [] wg (some true)) := by
    apply Exists.intro
    refine (g_at_yes rfl rfl (gl rfl) rfl).trans (b := 11) ?_
    refine (g_rep1 (lst := 0) (n := 0) rfl rfl rfl acc_val1 (gl rfl) (Nat.zero_le _) (by show x.length ≤ _; first | with_reducible assumption | decide | lia | omega) hn (Nat.zero_le _) (gle rfl)).trans (b := 10) ?_
    refine (g_lit_yes rfl (gl rfl) (by show 0 + 0 < x.length; first | with_reducible assumption | decide | lia | omega) (by show x.getD 0 0 = 61; rw [e]; rfl)).trans (b := 9) ?_
    refine (g_rep1 (lst := 0) (n := 0) rfl rfl rfl acc_val2 (gl rfl) (by show 0 + 0 + 1 ≤ x.length; first | with_reducible assumption | decide | lia | omega) (by show x.length ≤ _; first | with_reducible assumption | decide | lia | omega) (by show ((x.drop 1).takeWhile fSp).length = 0; rw [h1]; exact hs) (Nat.zero_le _) (gle rfl)).trans (b := 8) ?_
    refine (g_mark (i := 0) rfl rfl (gl rfl) rfl rfl rfl).trans (b := 7) ?_
    refine (g_rep1 (lst := 0) (n := k) rfl rfl rfl acc_val3 (gl rfl) (by show 1 ≤ x.length; first | with_reducible assumption | decide | lia | omega) (by show x.length ≤ _; first | with_reducible assumption | decide | lia | omega) (by show ((x.drop 1).takeWhile fVal).length = k; rw [h1]; exact hk) (Nat.zero_le _) (gle rfl)).trans (b := 6) ?_
    refine (g_mark (i := 1) rfl rfl (gl rfl) rfl rfl rfl).trans (b := 5) ?_
    refine (g_succ rfl (gl rfl) rfl).trans (b := 4) ?_
    refine (g_give_yes rfl).trans (b := 3) ?_
    refine (g_give_yes rfl).trans (b := 2) ?_
    refine (g_give_yes rfl).trans (b := 1) ?_
    exact g_next_yes rfl
  obtain ⟨wg, G⟩ := G
  exact found_of (G.seen s) (b := 20) (by decide)

theorem twin_yes {x : List Nat} {n : Nat} (hx : x.length ≤ 16777216) (hn : (x.takeWhile fTwin).length = n) :
    Found (forSearch cTwin x.toArray 0 0 x.length false) 0 n #[] (-1) (-1) 20 := by
  have hnx : n ≤ x.length := hn ▸ take_len fTwin x
  refine found_start (fs_start (c := cTwin) (Nat.zero_le _) (Nat.zero_le _) rfl) fun s => ?_
  have G : ∃ wg, Goes 5 (st ⟨cTwin, x, 0, lsOf cTwin x.length 0, false, false⟩ 5 0 0 true #[] (-1) (-1) #[] none [nx 5 0 true] 1 none)
      (st ⟨cTwin, x, 0, lsOf cTwin x.length 0, false, false⟩ 5 0 (0 + n) true #[] (-1) (-1) #[] none [] wg (some true)) := by
    apply Exists.intro
    refine (g_at_yes rfl rfl (gl rfl) rfl).trans (b := 4) ?_
    refine (g_rep1 (lst := 0) (n := n) rfl rfl rfl acc_twin (gl rfl) (Nat.zero_le _) (by show x.length ≤ _; first | with_reducible assumption | decide | lia | omega) hn (Nat.zero_le _) (gle rfl)).trans (b := 3) ?_
    refine (g_succ rfl (gl rfl) rfl).trans (b := 2) ?_
    refine (g_give_yes rfl).trans (b := 1) ?_
    exact g_next_yes rfl
  obtain ⟨wg, G⟩ := G
  have := found_of (G.seen s) (b := 20) (by decide)
  simp only [Nat.zero_add] at this
  exact this
theorem twin_no {x : List Nat} {p : Nat} (hp : p ≤ x.length) (h0 : p ≠ 0) : Lost (forSearch cTwin x.toArray 0 p x.length false) (3 * x.length + 20) := by
  refine lost_at (g := 0) (k := 1) (wg := 1) hp (Nat.zero_le _) rfl rfl rfl (gl rfl) (by decide) ?_ (by have := lsOf_le cTwin x.length p hp; first | with_reducible assumption | decide | lia | omega)
  iterate 7 apply Exists.intro
  exact g_at_no rfl rfl (gl rfl) h0
end Mine
end
section
set_option autoImplicit false
namespace Mine
open PySem hiding Frame run Kept
open PySem.Sre

/- a quoted text's inside: plain signs, then a backslash and a sign, then plain signs .. -/
noncomputable def segRaw (segs : List (Nat × List Nat)) : List Nat := segs.flatMap fun s => 92 :: s.1 :: s.2
noncomputable def SegOk (segs : List (Nat × List Nat)) : Prop := ∀ s ∈ segs, s.1 ≠ 10 ∧ ∀ c ∈ s.2, fPlain c = true

theorem tw_app {f : Nat → Bool} {p r : List Nat} {c : Nat} (hp : ∀ a ∈ p, f a = true) (hc : f c = false) : ((p ++ c :: r).takeWhile f).length = p.length := by
  induction p with
  | nil => rw [List.nil_append, List.takeWhile_cons, hc]; rfl
  | cons a p ih =>
    rw [List.cons_append, List.takeWhile_cons, hp a (.head _), if_pos rfl, List.length_cons, ih (fun b hb => hp b (.tail _ hb)), List.length_cons]
theorem tw_all {f : Nat → Bool} {p : List Nat} (hp : ∀ a ∈ p, f a = true) : (p.takeWhile f).length = p.length := by
  induction p with
  | nil => rfl
  | cons a p ih => rw [List.takeWhile_cons, hp a (.head _), if_pos rfl, List.length_cons, ih (fun b hb => hp b (.tail _ hb)), List.length_cons]
theorem getD_drop {x r : List Nat} {P c : Nat} (h : x.drop P = c :: r) : x.getD P 0 = c ∧ P < x.length := by
  have h2 : P < x.length := by
    apply Decidable.byContradiction
    intro q
    rw [List.drop_of_length_le (by first | with_reducible assumption | decide | lia | omega)] at h
    cases h
  refine ⟨?_, h2⟩
  rw [List.drop_eq_getElem_cons h2] at h
  have := (List.cons.inj h).1
  simp [List.getD_eq_getElem?_getD, List.getElem?_eq_getElem h2, this]

theorem quo_loop {x rest : List Nat} {start ls : Nat} (hx : x.length ≤ 16777216) : ∀ (segs : List (Nat × List Nat)) (P handed wg : Nat) (c : Int) (b : Option Nat) (fr : List Frame), SegOk segs → x.drop P = segRaw segs ++ 34 :: rest →
    b ≠ some P → 0 ≤ c + 1 → wg + 4 * segs.length + 10 ≤ 16777216 →
    ∃ k pc' pos' l' inn' wg', k ≤ 10 * segs.length + 10 ∧ Goes k (st ⟨cQuo, x, start, ls, false, false⟩ 66 P handed true #[some 2, none] 0 (-1) #[{ pc := 46, count := c, began := b, outer := none }] (some 0) fr wg none)
      (st ⟨cQuo, x, start, ls, false, false⟩ pc' pos' (P + (segRaw segs).length + 1) true #[some 2, some (P + (segRaw segs).length)] 1 1 #[l'] inn' fr wg' (some true)) := by
  intro segs
  induction segs with
  | nil =>
    intro P handed wg c b fr hs hd hb hc hw
    obtain ⟨g1, g2⟩ := getD_drop (show x.drop P = 34 :: rest from hd)
    refine ⟨7, ?_⟩
    iterate 5 apply Exists.intro
    refine ⟨by decide, ?_⟩
    refine (g_until (lp := 46) rfl (gl rfl) rfl rfl hc hb (by show wg + 1 + 1 ≤ _; first | with_reducible assumption | decide | lia | omega)).trans (b := 6) ?_
    refine (g_lit_no rfl (gl rfl) g2 (by show x.getD P 0 ≠ 92; rw [g1]; decide)).trans (b := 5) ?_
    refine (g_maxMore_no rfl rfl rfl rfl (by show wg + 1 + 1 - (1 + 1) + 1 + 0 ≤ _; first | with_reducible assumption | decide | lia | omega)).trans (b := 4) ?_
    refine (g_mark (i := 1) rfl rfl (gl rfl) rfl rfl rfl).trans (b := 3) ?_
    refine (g_lit_yes rfl (gl rfl) g2 (by show x.getD P 0 = 34; exact g1)).trans (b := 2) ?_
    refine (g_succ rfl (gl rfl) rfl).trans (b := 1) ?_
    exact g_maxTail rfl
  | cons s segs ih =>
    intro P handed wg c b fr hs hd hb hc hw
    obtain ⟨ch, p⟩ := s
    have hs0 := hs _ (.head _)
    have hd' : x.drop P = 92 :: ch :: (p ++ (segRaw segs ++ 34 :: rest)) := by
      rw [hd]; simp [segRaw]
    obtain ⟨g1, g2⟩ := getD_drop hd'
    have hd1 : x.drop (P + 1) = ch :: (p ++ (segRaw segs ++ 34 :: rest)) := by
      rw [← List.drop_drop, hd']; rfl
    obtain ⟨g3, g4⟩ := getD_drop hd1
    have hd2 : x.drop (P + 1 + 1) = p ++ (segRaw segs ++ 34 :: rest) := by
      rw [← List.drop_drop, hd1]; rfl
    have hd3 : x.drop (P + 1 + 1 + p.length) = segRaw segs ++ 34 :: rest := by
      rw [← List.drop_drop, hd2, List.drop_left]
    have hrun : ((x.drop (P + 1 + 1)).takeWhile fPlain).length = p.length := by
      rw [hd2]
      cases segs with
      | nil => exact tw_app (c := 34) hs0.2 (by decide)
      | cons t r => exact tw_app (c := 92) (r := t.1 :: t.2 ++ segRaw r ++ 34 :: rest) hs0.2 (by decide) |> fun h => by simpa [segRaw] using h
    have hP : P + 1 + 1 + p.length ≤ x.length := by
      have := take_len fPlain (x.drop (P + 1 + 1))
      rw [hrun, List.length_drop] at this
      first | with_reducible assumption | decide | lia | omega
    rw [List.length_cons] at hw
    obtain ⟨k, pc', pos', l', inn', wg', hk, G⟩ := ih (P + 1 + 1 + p.length) (P + 1 + 1 + p.length) (wg + 1 + 1 + 1 + 1) (c + 1) (some P)
      ({ wait := .giveBack, pc := 53, pos := P + 1 + 1 + p.length, outermost := true, count := p.length, kept := { lastmark := 0, lastindex := -1, whole := true, marks := #[some 2] } } ::
       { wait := .maxMore, pc := 67, pos := P, outermost := true, loop := 0, count := c + 1, kept := { lastmark := 0, lastindex := -1, whole := true, marks := #[some 2] }, began := b } :: fr)
      (fun s h => hs s (.tail _ h)) hd3 (by simp; first | with_reducible assumption | decide | lia | omega) (by first | with_reducible assumption | decide | lia | omega) (by first | with_reducible assumption | decide | lia | omega)
    have elen : (segRaw ((ch, p) :: segs)).length = 2 + p.length + (segRaw segs).length := by simp [segRaw]; first | with_reducible assumption | decide | lia | omega
    have e1 : P + (segRaw ((ch, p) :: segs)).length = P + 1 + 1 + p.length + (segRaw segs).length := by rw [elen]; first | with_reducible assumption | decide | lia | omega
    rw [e1]
    refine ⟨4 + (k + 2), ?_⟩
    iterate 5 apply Exists.intro
    refine ⟨by rw [List.length_cons]; first | with_reducible assumption | decide | lia | omega, ?_⟩
    refine Goes.trans (a := 4) ?_ (G.trans (b := 2) ?_)
    · refine (g_until (lp := 46) rfl (gl rfl) rfl rfl hc hb (by show wg + 1 + 1 ≤ _; first | with_reducible assumption | decide | lia | omega)).trans (b := 3) ?_
      refine (g_lit_yes rfl (gl rfl) g2 (by show x.getD P 0 = 92; exact g1)).trans (b := 2) ?_
      refine (g_any rfl (gl rfl) g4 (by show x.getD (P + 1) 0 ≠ 10; rw [g3]; exact hs0.1)).trans (b := 1) ?_
      exact g_rep1 (lst := 0) (n := p.length) rfl rfl rfl acc_quo4 (gl rfl) (by show P + 1 + 1 ≤ x.length; first | with_reducible assumption | decide | lia | omega) (by show x.length ≤ _; first | with_reducible assumption | decide | lia | omega) hrun (Nat.zero_le _) (by show wg + 1 + 1 + 1 + 1 ≤ _; first | with_reducible assumption | decide | lia | omega)
    · refine (g_give_yes rfl).trans (b := 1) ?_
      exact g_maxMore_yes rfl

theorem quo_yes {x p0 rest : List Nat} {segs : List (Nat × List Nat)} (hx : x.length ≤ 1048576) (hp0 : ∀ c ∈ p0, fPlain c = true) (hs : SegOk segs) (e : x = 61 :: 34 :: (p0 ++ (segRaw segs ++ 34 :: rest))) :
    Found (forSearch cQuo x.toArray 1 0 x.length false) 0 (2 + (p0 ++ segRaw segs).length + 1) #[some 2, some (2 + (p0 ++ segRaw segs).length)] 1 1 (10 * x.length + 50) := by
  have hl : x.length = 3 + p0.length + (segRaw segs).length + rest.length := by rw [e]; simp; first | with_reducible assumption | decide | lia | omega
  have hsl : segs.length ≤ (segRaw segs).length := by
    clear hl e hs
    induction segs with
    | nil => exact Nat.zero_le _
    | cons s r ih => have : (segRaw (s :: r)).length = 2 + s.2.length + (segRaw r).length := by (simp [segRaw]; first | with_reducible assumption | decide | lia | omega)
                     rw [this, List.length_cons]; first | with_reducible assumption | decide | lia | omega
  have hn : (x.takeWhile fSp).length = 0 := tw0 fun c' r' q => by rw [e] at q; cases q; decide +kernel
  have hn1 : ((x.drop 1).takeWhile fSp).length = 0 := tw0 fun c' r' q => by rw [e] at q; cases q; decide +kernel
  have hd2 : x.drop 2 = p0 ++ (segRaw segs ++ 34 :: rest) := by rw [e]; rfl
  have hrun : ((x.drop 2).takeWhile fPlain).length = p0.length := by
    rw [hd2]
    cases segs with
    | nil => exact tw_app (c := 34) hp0 (by decide)
    | cons t r => exact tw_app (c := 92) (r := t.1 :: t.2 ++ segRaw r ++ 34 :: rest) hp0 (by decide) |> fun h => by simpa [segRaw] using h
  have hd3 : x.drop (2 + p0.length) = segRaw segs ++ 34 :: rest := by rw [← List.drop_drop, hd2, List.drop_left]
  refine found_start (fs_start (c := cQuo) (Nat.zero_le _) (by show 3 ≤ x.length - 0; first | with_reducible assumption | decide | lia | omega) rfl) fun s => ?_
  obtain ⟨k, pc', pos', l', inn', wg', hk, G⟩ := quo_loop (x := x) (rest := rest) (start := 0) (ls := lsOf cQuo x.length 0) (by first | with_reducible assumption | decide | lia | omega) segs (2 + p0.length) (2 + p0.length) 5 (-1) none
    [{ wait := .closeLoop, pc := 46, pos := 2 + p0.length, outermost := true, loop := 0 },
     { wait := .giveBack, pc := 33, pos := 2 + p0.length, outermost := true, count := p0.length, kept := { lastmark := 0, lastindex := -1, whole := false, marks := #[] } },
     { wait := .giveBack, pc := 19, pos := 1, outermost := true, count := 0, kept := { lastmark := -1, lastindex := -1, whole := false, marks := #[] } },
     { wait := .giveBack, pc := 7, pos := 0, outermost := true, count := 0, kept := { lastmark := -1, lastindex := -1, whole := false, marks := #[] } }, nx 5 0 true]
    hs hd3 (by simp) (by decide) (by first | with_reducible assumption | decide | lia | omega)
  have G' : ∃ (pc pos : Nat) (om : Bool) (lo : Array Loop) (inn : Option Nat) (wg : Nat), Goes (8 + (k + 5)) (st ⟨cQuo, x, 0, lsOf cQuo x.length 0, false, false⟩ 5 0 0 true #[none, none] (-1) (-1) #[] none [nx 5 0 true] 1 none)
      (st ⟨cQuo, x, 0, lsOf cQuo x.length 0, false, false⟩ pc pos (2 + p0.length + (segRaw segs).length + 1) om #[some 2, some (2 + p0.length + (segRaw segs).length)] 1 1 lo inn [] wg (some true)) := by
    iterate 6 apply Exists.intro
    refine Goes.trans (a := 8) ?_ (G.trans (b := 5) ?_)
    · refine (g_at_yes rfl rfl (gl rfl) rfl).trans (b := 7) ?_
      refine (g_rep1 (lst := 0) (n := 0) rfl rfl rfl acc_quo1 (gl rfl) (Nat.zero_le _) (by show x.length ≤ _; first | with_reducible assumption | decide | lia | omega) hn (Nat.zero_le _) (gle rfl)).trans (b := 6) ?_
      refine (g_lit_yes rfl (gl rfl) (by show 0 + 0 < x.length; first | with_reducible assumption | decide | lia | omega) (by show x.getD 0 0 = 61; rw [e]; rfl)).trans (b := 5) ?_
      refine (g_rep1 (lst := 0) (n := 0) rfl rfl rfl acc_quo2 (gl rfl) (by show 0 + 0 + 1 ≤ x.length; first | with_reducible assumption | decide | lia | omega) (by show x.length ≤ _; first | with_reducible assumption | decide | lia | omega) hn1 (Nat.zero_le _) (gle rfl)).trans (b := 4) ?_
      refine (g_lit_yes rfl (gl rfl) (by show 0 + 0 + 1 + 0 < x.length; first | with_reducible assumption | decide | lia | omega) (by show x.getD 1 0 = 34; rw [e]; rfl)).trans (b := 3) ?_
      refine (g_mark (i := 0) rfl rfl (gl rfl) rfl rfl rfl).trans (b := 2) ?_
      refine (g_rep1 (lst := 0) (n := p0.length) rfl rfl rfl acc_quo3 (gl rfl) (by show 2 ≤ x.length; first | with_reducible assumption | decide | lia | omega) (by show x.length ≤ _; first | with_reducible assumption | decide | lia | omega) hrun (Nat.zero_le _) (gle rfl)).trans (b := 1) ?_
      exact g_rep rfl (gl rfl) (gle rfl)
    · refine (g_close rfl).trans (b := 4) ?_
      refine (g_give_yes rfl).trans (b := 3) ?_
      refine (g_give_yes rfl).trans (b := 2) ?_
      refine (g_give_yes rfl).trans (b := 1) ?_
      exact g_next_yes rfl
  obtain ⟨pc, pos, om, lo, inn, wg, G'⟩ := G'
  have := found_of (G'.seen s) (b := 10 * x.length + 50) (by first | with_reducible assumption | decide | lia | omega)
  rw [List.length_append, ← Nat.add_assoc]
  exact this
end Mine
end
section
set_option autoImplicit false
namespace Mine
open PySem hiding Frame run Kept
open PySem.Sre

theorem esc_loop {x rest : List Nat} {c : Nat} (hc : c ≠ 10) : ∀ (pl : List Nat) (s : Nat) (om : Bool), (∀ a ∈ pl, a ≠ 92) → x.drop s = pl ++ 92 :: c :: rest →
    ∃ k pc' pos' om' wg', k ≤ 2 * pl.length + 10 ∧ Goes k (st ⟨cEsc, x, s, x.length, false, false⟩ 9 s s om #[none, none] (-1) (-1) #[] none [nx 9 s om] 1 none)
      (st ⟨cEsc, x, s + pl.length, x.length, false, false⟩ pc' pos' (s + pl.length + 2) om' #[some (s + pl.length + 1), some (s + pl.length + 2)] 1 1 #[] none [] wg' (some true)) := by
  intro pl
  induction pl with
  | nil =>
    intro s om hp hd
    obtain ⟨g1, g2⟩ := getD_drop (show x.drop s = 92 :: c :: rest from hd)
    have hd1 : x.drop (s + 1) = c :: rest := by rw [← List.drop_drop, hd]; rfl
    obtain ⟨g3, g4⟩ := getD_drop hd1
    refine ⟨6, ?_⟩
    iterate 4 apply Exists.intro
    refine ⟨by decide, ?_⟩
    refine (g_lit_yes rfl (gl rfl) g2 g1).trans (b := 5) ?_
    refine (g_mark (i := 0) rfl rfl (gl rfl) rfl rfl rfl).trans (b := 4) ?_
    refine (g_any rfl (gl rfl) g4 (by show x.getD (s + 1) 0 ≠ 10; rw [g3]; exact hc)).trans (b := 3) ?_
    refine (g_mark (i := 1) rfl rfl (gl rfl) rfl rfl rfl).trans (b := 2) ?_
    refine (g_succ rfl (gl rfl) (by simp)).trans (b := 1) ?_
    exact g_next_yes rfl
  | cons a pl ih =>
    intro s om hp hd
    obtain ⟨g1, g2⟩ := getD_drop (show x.drop s = a :: (pl ++ 92 :: c :: rest) from hd)
    have hd1 : x.drop (s + 1) = pl ++ 92 :: c :: rest := by rw [← List.drop_drop, hd]; rfl
    obtain ⟨k, pc', pos', om', wg', hk, G⟩ := ih (s + 1) false (fun b hb => hp b (.tail _ hb)) hd1
    have e1 : s + (a :: pl).length = s + 1 + pl.length := by rw [List.length_cons]; first | with_reducible assumption | decide | lia | omega
    rw [e1]
    refine ⟨1 + (1 + k), pc', pos', om', wg', by rw [List.length_cons]; first | with_reducible assumption | decide | lia | omega, ?_⟩
    refine (g_lit_no rfl (gl rfl) g2 (by show x.getD s 0 ≠ 92; rw [g1]; exact hp a (.head _))).trans ((g_next_on rfl (by show s < x.length; exact g2) rfl (gle rfl)).trans G)
theorem esc_yes {x pl rest : List Nat} {c p : Nat} (hc : c ≠ 10) (hp : ∀ a ∈ pl, a ≠ 92) (hd : x.drop p = pl ++ 92 :: c :: rest) :
    Found (forSearch cEsc x.toArray 1 p x.length false) (p + pl.length) (p + pl.length + 2) #[some (p + pl.length + 1), some (p + pl.length + 2)] 1 1 (2 * x.length + 20) := by
  have hl : x.length - p = pl.length + 2 + rest.length := by have := congrArg List.length hd; simp at this; first | with_reducible assumption | decide | lia | omega
  refine found_start (fs_start (c := cEsc) (by first | with_reducible assumption | decide | lia | omega) (by show 2 ≤ x.length - p; first | with_reducible assumption | decide | lia | omega) rfl) fun s => ?_
  obtain ⟨k, pc', pos', om', wg', hk, G⟩ := esc_loop hc pl p true hp hd
  exact found_of (G.seen s) (by first | with_reducible assumption | decide | lia | omega)
theorem esc_out {x : List Nat} : ∀ (n s : Nat) (om : Bool), x.length - s = n → s ≤ x.length → (∀ a ∈ x.drop s, a ≠ 92) →
    ∃ k start' pc' pos' handed' om' wg', k ≤ 2 * n + 10 ∧ Goes k (st ⟨cEsc, x, s, x.length, false, false⟩ 9 s s om #[none, none] (-1) (-1) #[] none [nx 9 s om] 1 none)
      (st ⟨cEsc, x, start', x.length, false, false⟩ pc' pos' handed' om' #[none, none] (-1) (-1) #[] none [] wg' (some false)) := by
  intro n
  induction n with
  | zero =>
    intro s om hn hs hp
    refine ⟨2, ?_⟩
    iterate 6 apply Exists.intro
    refine ⟨by decide, ?_⟩
    exact (g_lit_end rfl (gl rfl) (by show x.length ≤ s; first | with_reducible assumption | decide | lia | omega)).trans (b := 1) (g_next_out rfl (by show x.length ≤ s; first | with_reducible assumption | decide | lia | omega))
  | succ n ih =>
    intro s om hn hs hp
    have h1 : s < x.length := by first | with_reducible assumption | decide | lia | omega
    have hd : x.drop s = x.getD s 0 :: x.drop (s + 1) := by
      rw [List.drop_eq_getElem_cons h1]; simp [List.getD_eq_getElem?_getD, List.getElem?_eq_getElem h1]
    obtain ⟨k, start', pc', pos', handed', om', wg', hk, G⟩ := ih (s + 1) false (by first | with_reducible assumption | decide | lia | omega) (by first | with_reducible assumption | decide | lia | omega) (fun a ha => hp a (by rw [hd]; exact .tail _ ha))
    exact ⟨1 + (1 + k), start', pc', pos', handed', om', wg', by first | with_reducible assumption | decide | lia | omega,
      (g_lit_no rfl (gl rfl) h1 (by show x.getD s 0 ≠ 92; exact hp _ (by rw [hd]; exact .head _))).trans ((g_next_on rfl (by show s < x.length; exact h1) rfl (gle rfl)).trans G)⟩
theorem esc_no {x : List Nat} {p : Nat} (hp : p ≤ x.length) (hn : ∀ a ∈ x.drop p, a ≠ 92) : Lost (forSearch cEsc x.toArray 1 p x.length false) (2 * x.length + 20) := by
  by_cases h : x.length - p < 2
  · obtain ⟨k, m, hk, e⟩ := fs_short (c := cEsc) (x := x) (g := 1) (p := p) (must := false) (.inr (by show x.length - p < 2; exact h))
    exact ⟨k, m, by first | with_reducible assumption | decide | lia | omega, e⟩
  · refine lost_start (fs_start (c := cEsc) hp (by show 2 ≤ x.length - p; first | with_reducible assumption | decide | lia | omega) rfl) fun s => ?_
    obtain ⟨k, start', pc', pos', handed', om', wg', hk, G⟩ := esc_out (x := x) (x.length - p) p true rfl hp hn
    exact lost_of (G.seen s) (by first | with_reducible assumption | decide | lia | omega)

/- the whole of it, signs of a name -/
theorem fm_eq (c : Array Nat) (x : List Nat) (g p : Nat) (wt must : Bool) : forMatch c x.toArray g p x.length wt must =
    if ((header c).1 != 0 && p ≤ x.length && x.length - p < (header c).1) = true then M.say { fr0 c x g p must with wholeText := wt } false else { fr0 c x g p must with wholeText := wt } := rfl
theorem jt_loop {x : List Nat} : ∀ (j wg handed : Nat), 1 ≤ j → j < x.length → wg ≤ 100 →
    ∃ k pc' pos' handed' om' wg', k ≤ 2 * j ∧ Goes k (st ⟨cJtok, x, 0, 0, true, false⟩ 22 j handed true #[] (-1) (-1) #[] none [{ wait := .giveBack, pc := 5, pos := j, outermost := true, count := j, kept := { lastmark := -1, lastindex := -1, whole := false, marks := #[] } }] wg none)
      (st ⟨cJtok, x, 0, 0, true, false⟩ pc' pos' handed' om' #[] (-1) (-1) #[] none [] wg' (some false)) := by
  intro j
  induction j with
  | zero => intro wg handed h; first | with_reducible assumption | decide | lia | omega
  | succ j ih =>
    intro wg handed h1 h2 hw
    have hs : (true && ((true && (j + 1) != x.length) || (false && (j + 1) == 0))) = true := by
      have : (j + 1 != x.length) = true := bne_iff_ne.mpr (by first | with_reducible assumption | decide | lia | omega)
      rw [this]; rfl
    by_cases q : j = 0
    · subst q
      refine ⟨2, ?_⟩
      iterate 5 apply Exists.intro
      refine ⟨by decide, ?_⟩
      refine (g_succ_no rfl (gl rfl) hs).trans (b := 1) ?_
      exact g_give_out rfl rfl (by show ((0 + 1 : Nat) : Int) - 1 < ((1 : Nat) : Int); decide)
    · obtain ⟨k, pc', pos', handed', om', wg', hk, G⟩ := ih (wg - (1 + 0) + 1 + 0) j (by first | with_reducible assumption | decide | lia | omega) (by first | with_reducible assumption | decide | lia | omega) (by first | with_reducible assumption | decide | lia | omega)
      refine ⟨1 + (1 + k), pc', pos', handed', om', wg', by first | with_reducible assumption | decide | lia | omega, ?_⟩
      refine (g_succ_no rfl (gl rfl) hs).trans (Goes.trans (a := 1) ?_ G)
      have := g_give_on (K := ⟨cJtok, x, 0, 0, true, false⟩) (pc := 22) (pos := j + 1) (handed := handed) (om := true) (mk := #[]) (lm := -1) (li := -1) (lo := #[]) (inn := none) (fr := []) (wg := wg)
        (f := { wait := .giveBack, pc := 5, pos := j + 1, outermost := true, count := ((j + 1 : Nat) : Int), kept := { lastmark := -1, lastindex := -1, whole := false, marks := #[] } }) rfl rfl rfl
        (by show ¬ ((j + 1 : Nat) : Int) - 1 < ((1 : Nat) : Int); first | with_reducible assumption | decide | lia | omega) (by show wg - (1 + 0) + 1 + 0 ≤ _; first | with_reducible assumption | decide | lia | omega)
      have e : (((j + 1 : Nat) : Int) - 1) = (j : Int) := by first | with_reducible assumption | decide | lia | omega
      simp only [e, Nat.add_sub_cancel] at this
      exact this
theorem jt_yes {x : List Nat} (hx : x.length ≤ 16777216) (h1 : 1 ≤ x.length) (ha : ∀ a ∈ x, fJtok a = true) : Found (forMatch cJtok x.toArray 0 0 x.length true false) 0 x.length #[] (-1) (-1) 10 := by
  rw [fm_eq, if_neg (by show ¬ ((1 != 0 && decide (0 ≤ x.length) && decide (x.length - 0 < 1)) = true); rw [decide_eq_false (show ¬ (x.length - 0 < 1) by first | with_reducible assumption | decide | lia | omega), Bool.and_false]; decide)]
  have G : ∃ pc pos om wg, Goes 3 (st ⟨cJtok, x, 0, 0, true, false⟩ 5 0 0 true #[] (-1) (-1) #[] none [] 0 none) (st ⟨cJtok, x, 0, 0, true, false⟩ pc pos (0 + x.length) om #[] (-1) (-1) #[] none [] wg (some true)) := by
    iterate 4 apply Exists.intro
    refine (g_rep1 (lst := 1) (n := x.length) rfl rfl rfl acc_jtok (gl rfl) (Nat.zero_le _) (by show x.length ≤ _; first | with_reducible assumption | decide | lia | omega) (by rw [List.drop_zero]; exact tw_all ha) h1 (gle rfl)).trans (b := 2) ?_
    refine (g_succ rfl (gl rfl) (by simp)).trans (b := 1) ?_
    exact g_give_yes rfl
  obtain ⟨pc, pos, om, wg, G⟩ := G
  have := found_of (G.seen (fr0 cJtok x 0 0 false).seen) (b := 10) (by decide)
  rw [Nat.zero_add] at this
  exact this
theorem jt_no {x : List Nat} (hx : x.length ≤ 16777216) (ha : x = [] ∨ (x.takeWhile fJtok).length < x.length) : Lost (forMatch cJtok x.toArray 0 0 x.length true false) (2 * x.length + 20) := by
  rw [fm_eq]
  by_cases h1 : x = []
  · subst h1
    rw [if_pos (by rfl)]
    exact ⟨1, _, by decide, rfl, rfl⟩
  have h2 := ha.resolve_left h1
  have h3 := List.length_pos_iff.mpr h1
  rw [if_neg (by show ¬ ((1 != 0 && decide (0 ≤ x.length) && decide (x.length - 0 < 1)) = true); rw [decide_eq_false (show ¬ (x.length - 0 < 1) by first | with_reducible assumption | decide | lia | omega), Bool.and_false]; decide)]
  have G : ∃ k pc pos handed om wg, k ≤ 2 * x.length + 10 ∧ Goes k (st ⟨cJtok, x, 0, 0, true, false⟩ 5 0 0 true #[] (-1) (-1) #[] none [] 0 none) (st ⟨cJtok, x, 0, 0, true, false⟩ pc pos handed om #[] (-1) (-1) #[] none [] wg (some false)) := by
    by_cases q : (x.takeWhile fJtok).length = 0
    · refine ⟨1, ?_⟩
      iterate 5 apply Exists.intro
      exact ⟨by first | with_reducible assumption | decide | lia | omega, g_rep1_no (lst := 1) (n := 0) rfl rfl rfl acc_jtok (gl rfl) (Nat.zero_le _) (by show x.length ≤ _; first | with_reducible assumption | decide | lia | omega) (by rw [List.drop_zero]; exact q) (by decide)⟩
    · obtain ⟨k, pc', pos', handed', om', wg', hk, G⟩ := jt_loop (x := x) (x.takeWhile fJtok).length 1 (x.takeWhile fJtok).length (by first | with_reducible assumption | decide | lia | omega) h2 (by decide)
      refine ⟨1 + k, pc', pos', handed', om', wg', by first | with_reducible assumption | decide | lia | omega, ?_⟩
      refine Goes.trans (a := 1) ?_ G
      have := g_rep1 (K := ⟨cJtok, x, 0, 0, true, false⟩) (pc := 5) (pos := 0) (handed := 0) (om := true) (mk := #[]) (lm := -1) (li := -1) (lo := #[]) (inn := none) (fr := []) (wg := 0) (lst := 1) (n := (x.takeWhile fJtok).length) rfl rfl rfl acc_jtok (gl rfl) (Nat.zero_le _) (by show x.length ≤ _; first | with_reducible assumption | decide | lia | omega) (by rw [List.drop_zero]) (by first | with_reducible assumption | decide | lia | omega) (gle rfl)
      simp only [Nat.zero_add] at this
      exact this
  obtain ⟨k, pc, pos, handed, om, wg, hk, G⟩ := G
  exact lost_of (G.seen (fr0 cJtok x 0 0 false).seen) (by first | with_reducible assumption | decide | lia | omega)

/- the first sign that wants a backslash -/
theorem je_in {ch : Nat} {s : Seen} : ∃ s', inSet cJesc ch cJesc.size 5 true s = .ok (fJesc ch, s') := by
  show ∃ s', inSet cJesc ch (_ + 1 + 1 + 1) 5 true s = _
  rw [is_lit (v := 34) rfl rfl, is_lit (v := 92) rfl rfl, is_fail rfl]
  unfold fJesc
  cases ch == 34 <;> cases ch == 92 <;> exact ⟨_, rfl⟩
theorem je_adm {x : List Nat} {m : M} (hc : m.code = cJesc) (ht : m.text = x.toArray) (hl : m.lim = x.length) : ∀ (fuel p : Nat) (s : Seen), x.length - p < fuel → p ≤ x.length →
    ∃ s', M.admitted m fuel p s = .ok (if ((x.drop p).takeWhile fun c => !fJesc c).length < x.length - p then some (p + ((x.drop p).takeWhile fun c => !fJesc c).length) else none, s') := by
  intro fuel
  induction fuel with
  | zero => intro p s h; first | with_reducible assumption | decide | lia | omega
  | succ fuel ih =>
    intro p s h hp
    unfold M.admitted
    rw [hl, hc, ht, getD_text]
    by_cases q : x.length ≤ p
    · refine ⟨s, ?_⟩
      rw [if_pos q, if_neg (by first | with_reducible assumption | decide | lia | omega)]
    · rw [if_neg q]
      obtain ⟨s1, e1⟩ := je_in (ch := x.getD p 0) (s := s)
      rw [e1]
      have h1 : p < x.length := by first | with_reducible assumption | decide | lia | omega
      have hd : x.drop p = x.getD p 0 :: x.drop (p + 1) := by
        rw [List.drop_eq_getElem_cons h1]; simp [List.getD_eq_getElem?_getD, List.getElem?_eq_getElem h1]
      rw [hd, List.takeWhile_cons]
      cases r : fJesc (x.getD p 0) with
      | true =>
        refine ⟨s1, ?_⟩
        simp only [Bool.not_true, Bool.false_eq_true, if_false, List.length_nil, Nat.add_zero]
        rw [if_pos (by first | with_reducible assumption | decide | lia | omega)]
      | false =>
        obtain ⟨s2, e2⟩ := ih (p + 1) s1 (by first | with_reducible assumption | decide | lia | omega) (by first | with_reducible assumption | decide | lia | omega)
        refine ⟨s2, ?_⟩
        simp only [Bool.not_false, if_true, List.length_cons]
        rw [e2]
        by_cases t : ((x.drop (p + 1)).takeWhile fun c => !fJesc c).length < x.length - (p + 1)
        · rw [if_pos t, if_pos (by first | with_reducible assumption | decide | lia | omega)]
          congr 3; first | with_reducible assumption | decide | lia | omega
        · rw [if_neg t, if_neg (by first | with_reducible assumption | decide | lia | omega)]
theorem je_from {x : List Nat} {p : Nat} (hp : p ≤ x.length) (h1 : 1 ≤ x.length - p) : ∃ s, forSearch cJesc x.toArray 1 p x.length false =
    if ((x.drop p).takeWhile fun c => !fJesc c).length < x.length - p then
      { (st ⟨cJesc, x, p + ((x.drop p).takeWhile fun c => !fJesc c).length, x.length, false, false⟩ 10 (p + ((x.drop p).takeWhile fun c => !fJesc c).length) (p + ((x.drop p).takeWhile fun c => !fJesc c).length) true #[none, none] (-1) (-1) #[] none [nx 10 (p + ((x.drop p).takeWhile fun c => !fJesc c).length) true] 1 none) with seen := s }
    else { (st ⟨cJesc, x, p, x.length, false, false⟩ 10 p p true #[none, none] (-1) (-1) #[] none [] 0 (some false)) with seen := s } := by
  rw [fs_eq, if_neg (by show ¬ ((decide (p > x.length) || decide (x.length - p < 1)) = true); simp; first | with_reducible assumption | decide | lia | omega)]
  unfold M.attemptFrom
  have : M.hasFirstSet { fr0 cJesc x 1 p false with lastStart := lsOf cJesc x.length p } = true := rfl
  rw [this, if_neg (by decide)]
  obtain ⟨s', e⟩ := je_adm (x := x) (m := { fr0 cJesc x 1 p false with lastStart := lsOf cJesc x.length p }) rfl rfl rfl (x.length + 1 - p) p (fr0 cJesc x 1 p false).seen (by first | with_reducible assumption | decide | lia | omega) hp
  have e' : M.admitted { fr0 cJesc x 1 p false with lastStart := lsOf cJesc x.length p } ((fr0 cJesc x 1 p false).lim + 1 - p) p (fr0 cJesc x 1 p false).seen = _ := e
  refine ⟨s', ?_⟩
  dsimp only
  rw [e']
  by_cases t : ((x.drop p).takeWhile fun c => !fJesc c).length < x.length - p
  · rw [if_pos t, if_pos t]; rfl
  · rw [if_neg t, if_neg t]; rfl
theorem je_yes {x pl rest : List Nat} {c p : Nat} (hp : ∀ a ∈ pl, fJesc a = false) (hc : fJesc c = true) (hd : x.drop p = pl ++ c :: rest) :
    Found (forSearch cJesc x.toArray 1 p x.length false) (p + pl.length) (p + pl.length + 1) #[some (p + pl.length), some (p + pl.length + 1)] 1 1 20 := by
  have hl : x.length - p = pl.length + 1 + rest.length := by have := congrArg List.length hd; simp at this; first | with_reducible assumption | decide | lia | omega
  have ht : ((x.drop p).takeWhile fun c => !fJesc c).length = pl.length := by
    rw [hd]; exact tw_app (fun a ha => by rw [hp a ha]; rfl) (by rw [hc]; rfl)
  obtain ⟨s, e⟩ := je_from (x := x) (p := p) (by first | with_reducible assumption | decide | lia | omega) (by first | with_reducible assumption | decide | lia | omega)
  rw [e, ht, if_pos (by first | with_reducible assumption | decide | lia | omega)]
  have hd2 : x.drop (p + pl.length) = c :: rest := by rw [← List.drop_drop, hd, List.drop_left]
  obtain ⟨g1, g2⟩ := getD_drop hd2
  have G : ∃ pc pos om wg, Goes 5 (st ⟨cJesc, x, p + pl.length, x.length, false, false⟩ 10 (p + pl.length) (p + pl.length) true #[none, none] (-1) (-1) #[] none [nx 10 (p + pl.length) true] 1 none)
      (st ⟨cJesc, x, p + pl.length, x.length, false, false⟩ pc pos (p + pl.length + 1) om #[some (p + pl.length), some (p + pl.length + 1)] 1 1 #[] none [] wg (some true)) := by
    iterate 4 apply Exists.intro
    refine (g_mark (i := 0) rfl rfl (gl rfl) rfl rfl rfl).trans (b := 4) ?_
    refine (g_in_yes rfl acc_jesc (gl rfl) g2 (by show fJesc (x.getD (p + pl.length) 0) = true; rw [g1]; exact hc)).trans (b := 3) ?_
    refine (g_mark (i := 1) rfl rfl (gl rfl) rfl rfl rfl).trans (b := 2) ?_
    refine (g_succ rfl (gl rfl) (by simp)).trans (b := 1) ?_
    exact g_next_yes rfl
  obtain ⟨pc, pos, om, wg, G⟩ := G
  exact found_of (G.seen s) (by decide)
theorem je_no {x : List Nat} {p : Nat} (hp : p ≤ x.length) (hn : ∀ a ∈ x.drop p, fJesc a = false) : Lost (forSearch cJesc x.toArray 1 p x.length false) 20 := by
  by_cases h1 : 1 ≤ x.length - p
  · have ht : ((x.drop p).takeWhile fun c => !fJesc c).length = x.length - p := by
      rw [tw_all (fun a ha => by rw [hn a ha]; rfl), List.length_drop]
    obtain ⟨s, e⟩ := je_from (x := x) (p := p) hp h1
    rw [e, ht, if_neg (by first | with_reducible assumption | decide | lia | omega)]
    exact lost_of (k := 0) ((Goes.refl _).seen s) (by decide)
  · obtain ⟨k, m, hk, e⟩ := fs_short (c := cJesc) (x := x) (g := 1) (p := p) (must := false) (.inr (by show x.length - p < 1; first | with_reducible assumption | decide | lia | omega))
    exact ⟨k, m, by first | with_reducible assumption | decide | lia | omega, e⟩
end Mine
end
section
open PySem PySem.W PyProof.Rows PySem.Calls
set_option autoImplicit false
set_option maxRecDepth 100000
namespace Mine
open PySem.Builtin PySem.Builtin.Re

noncomputable def IsMatch (F : Fz) (a : Addr) (x : List Nat) (sp : List Int) : Prop := ∃ v pv pos lim li t, F a = some (matchObj (.str (T x) v) pv pos lim li t) ∧ F t = some (tupObj (sp.map rawInt))
noncomputable def PatAt (F : Fz) (p : Addr) (c : Array Nat) (g : Nat) : Prop :=
  ∃ (sv fv u1 u2 : Value) (cs : Addr) (items : Array Value) (n : Nat), F p = some { cls := .type "re.Pattern", data := .fields #[sv, fv, .int g 0, u1, u2, .ref cs, .int 0 0] } ∧ F cs = some { cls := .type "tuple", data := .seq items n } ∧ (items.map reRawOf).map (·.toNat) = c

section
variable {M : Model} {A : Around} {E : Value → Shared → Prop} {s : Shared}
theorem wp_drive {Q : Sre.M → Shared → Prop} : ∀ (turns n : Nat) (m : Sre.M), (stepN n m).outcome.isSome = true → n < turns → Q (stepN n m) s → wpAny M A (reDrive turns m) Q E s := by
  intro turns
  induction turns with
  | zero => intro n m _ h; first | with_reducible assumption | decide | lia | omega
  | succ turns ih =>
    intro n m ho hn hq
    show wpAny M A (if (m.runFor 4).outcome.isSome = true then pure (m.runFor 4) else (rule "sre.turn" >>= fun _ => reDrive turns (m.runFor 4))) Q E s
    rw [runFor_eq]
    by_cases h4 : (stepN 4 m).outcome.isSome = true
    · rw [if_pos h4]
      have : stepN 4 m = stepN n m := by
        by_cases q : n ≤ 4
        · have e : 4 = n + (4 - n) := by first | with_reducible assumption | decide | lia | omega
          rw [e, stepN_add, stepN_done ho]
        · have e : n = 4 + (n - 4) := by first | with_reducible assumption | decide | lia | omega
          rw [e, stepN_add, stepN_done h4]
      rw [this]
      exact wpAny_pure hq
    · rw [if_neg h4]
      have q : 4 < n := by
        apply Decidable.byContradiction
        intro q
        have e : 4 = n + (4 - n) := by first | with_reducible assumption | decide | lia | omega
        rw [e, stepN_add, stepN_done ho] at h4
        exact h4 ho
      have e : n = 4 + (n - 4) := by first | with_reducible assumption | decide | lia | omega
      rw [e, stepN_add] at ho hq
      exact wpAny_bind (wpAny_rule (ih (n - 4) (stepN 4 m) ho (by first | with_reducible assumption | decide | lia | omega) hq))
theorem wp_reRun {m m' : Sre.M} {n : Nat} {Q : Option Sre.M → Shared → Prop} (e : stepN n m = m') (hn : n < 2 ^ 64) (ho : m'.outcome = some .matched ∨ m'.outcome = some .failed)
    (hq : Q (if m'.outcome.isSome && (match m'.outcome with | some .matched => true | _ => false) then some m' else none) s) : wpAny M A (reRunToEnd m) Q E s := by
  unfold reRunToEnd
  refine wpAny_bind (wp_drive (2 ^ 64) n m (by rw [e]; rcases ho with h | h <;> rw [h] <;> rfl) hn ?_)
  rw [e]
  refine wpAny_bind ?_
  refine wpAny_forIn_list _ (fun _ _ s' => s' = s) _ ?_ ?_ _ _ rfl
  · intro i rest b s' hs
    subst hs
    split
    · exact wpAny_bind (wpAny_rule (wpAny_pure rfl))
    · exact wpAny_pure rfl
  · intro b s' hs
    subst hs
    rcases ho with h | h
    · rw [h] at hq ⊢
      exact wpAny_pure hq
    · rw [h] at hq ⊢
      exact wpAny_pure hq
theorem wp_found1 {m : Sre.M} {a b n : Nat} {mk : Array (Option Nat)} {lm li : Int} {Q : Option Sre.M → Shared → Prop} (f : Found m a b mk lm li n) (hn : n < 2 ^ 64)
    (hq : ∀ m' : Sre.M, m'.start = a → m'.handed = b → m'.marks = mk → m'.lastmark = lm → m'.lastindex = li → Q (some m') s) : wpAny M A (reRunToEnd m) Q E s := by
  obtain ⟨k, m', hk, e, ho, h1, h2, h3, h4, h5⟩ := f
  refine wp_reRun e (by first | with_reducible assumption | decide | lia | omega) (.inl ho) ?_
  rw [ho]
  exact hq m' h1 h2 h3 h4 h5
theorem wp_lost1 {m : Sre.M} {n : Nat} {Q : Option Sre.M → Shared → Prop} (f : Lost m n) (hn : n < 2 ^ 64) (hq : Q none s) : wpAny M A (reRunToEnd m) Q E s := by
  obtain ⟨k, m', hk, e, ho⟩ := f
  refine wp_reRun e (by first | with_reducible assumption | decide | lia | omega) (.inr ho) ?_
  rw [ho]
  exact hq
theorem named_1 (id f : String) (v : Value) : reNamed id f ["string", "pos", "endpos"] 1 [v] [] = pure [some v, none, none] := by
  unfold reNamed
  rfl
end

section
variable {M : Model} {A : Around} {E : Value → Shared → Prop} {h : Heap} {g : Array GenState} {d : Drawn} {tk : Nat} {os : OsState}
theorem wp_target {p cs : Addr} {sv fv u1 u2 : Value} {gr : Nat} {items : Array Value} {n : Nat} {c : Array Nat} {id f : String} {x : List Nat} {t : Tok} {Q : ReTarget → Shared → Prop} (hx : x.length ≤ 2 ^ 24)
    (h1 : h.get? p = some { cls := .type "re.Pattern", data := .fields #[sv, fv, .int gr 0, u1, u2, .ref cs, .int 0 0] }) (h2 : h.get? cs = some { cls := .type "tuple", data := .seq items n }) (hc : (items.map reRawOf).map (·.toNat) = c)
    (H : Q { pattern := .ref p, string := .str (T x) t, code := c, text := x.toArray, kind := 0, groups := gr, pos := 0, lim := x.length } ⟨h, g, d, tk, os⟩) :
    wpAny M A (reTarget id f ⟨[.ref p, .str (T x) t], []⟩) Q E ⟨h, g, d, tk, os⟩ := by
  unfold reTarget
  dsimp only
  refine wpAny_bind (wpAny_of_eq (named_1 id f _) ?_)
  dsimp only
  refine wpAny_bind (wpAny_pure (wpAny_bind (wpAny_pure ?_)))
  refine wpAny_bind (wpAny_fieldsOf h1 rfl ?_)
  refine wpAny_bind (wp_reTextOf_str ?_)
  refine wpAny_ite_false rfl ?_
  refine wpAny_ite_false rfl ?_
  refine wpAny_bind (wpAny_of_eq (a := ()) rfl ?_)
  refine wpAny_bind ?_
  unfold reRawItems
  refine wpAny_bind (wpAny_seqItems h2 rfl (wpAny_pure (wpAny_pure ?_)))
  have e2 : min ((2 : Int) ^ 63 - 1).toNat (T x).cps.size = x.length := by
    show min ((2 : Int) ^ 63 - 1).toNat x.toArray.size = _
    rw [List.size_toArray]
    have : ((2 : Int) ^ 63 - 1).toNat = 2 ^ 63 - 1 := by decide
    first | with_reducible assumption | decide | lia | omega
  rw [Option.getD_some]
  have H' := H
  rw [← hc] at H'
  show Q { pattern := _, string := _, code := (items.map reRawOf).map (·.toNat), text := x.toArray, kind := 0, groups := gr, pos := Min.min (Int.toNat 0) (T x).cps.size, lim := Min.min ((2 : Int) ^ 63 - 1).toNat (T x).cps.size } _
  rw [e2]
  have e3 : Min.min (Int.toNat 0) (T x).cps.size = 0 := Nat.zero_min _
  rw [e3]
  exact H'
theorem wp_newMatch {m : Sre.M} {pv sv : Value} {pos lim b e : Nat} {Q : Value → Shared → Prop} (hm : m.marks = #[some b, some e]) (hl : m.lastmark = 1) (hbe : b ≤ e)
    (H : Q (.ref (h.objs.size + 1)) ⟨(h.push (tupObj ([(m.start : Int), (m.handed : Int), (b : Int), (e : Int)].map rawInt))).push (matchObj sv pv pos lim m.lastindex h.objs.size), g, d, tk, os⟩) :
    wpAny M A (reNewMatch pv sv 1 pos lim m) Q E ⟨h, g, d, tk, os⟩ := by
  obtain ⟨_, _, _, mst, _, _, _, _, _, mha, _, mk, lm, mli, _, _, _, _, _, _, _⟩ := m
  dsimp only at hm hl
  subst hm hl
  unfold reNewMatch
  dsimp only
  have e2 : decide (((true && decide (e < b)) || false) = true) = false := by
    rw [decide_eq_false (show ¬ e < b by first | with_reducible assumption | decide | lia | omega)]; rfl
  refine wpAny_ite_false e2 ?_
  refine wpAny_bind (wpAny_newTuple ?_ (by show (4 : Nat) ≤ sizeLine; rw [sizeLine_eq]; first | with_reducible assumption | decide | lia | omega))
  unfold newFields
  refine wpAny_newObj_type ?_ (by size_fits)
  have hz : (h.push (tupObj ([(mst : Int), (mha : Int), (b : Int), (e : Int)].map rawInt))).objs.size = h.objs.size + 1 := Heap.size_push _ _
  rw [← hz] at H
  exact H
end

section
variable {w : World} {F : Fz} {p : Addr} {c : Array Nat} {x : List Nat} {t : Tok} {st ha b e n : Nat} {li : Int}
theorem isMatch_new {w : World} {h : Heap} {M : List (Addr × Obj)} {v : Tok} {pv : Value} {pos lim : Nat} {sp : List Int} (S : St w h F M) :
    ∃ F', Le F F' ∧ St w ((h.push (tupObj (sp.map rawInt))).push (matchObj (.str (T x) v) pv pos lim li h.objs.size)) F' M ∧ IsMatch F' (h.objs.size + 1) x sp := by
  obtain ⟨S1, l1⟩ := S.pushF (o := tupObj (sp.map rawInt)) rfl
  obtain ⟨S2, l2⟩ := S1.pushF (o := matchObj (.str (T x) v) pv pos lim li h.objs.size) rfl
  rw [Heap.size_push] at S2 l2
  exact ⟨_, l1.trans l2, S2, v, pv, pos, lim, li, h.objs.size, ins_self _ _ _, l2 _ _ (ins_self _ _ _)⟩
theorem search_found (hp : PatAt F p c 1) (hx : x.length ≤ 2 ^ 24) (f : Found (Sre.forSearch c x.toArray 1 0 x.length false) st ha #[some b, some e] 1 li n) (hn : n < 2 ^ 64) (hbe : b ≤ e) :
    Fn w (.builtin "re.Pattern.search") [.ref p, .str (T x) t] F 0 1 (fun F' v => ∃ a, v = .ref a ∧ IsMatch F' a x [(st : Int), (ha : Int), (b : Int), (e : Int)]) := by
  obtain ⟨sv, fv, u1, u2, cs, items, k, h1, h2, h3⟩ := hp
  intro prog A M h g d tk os Q E C S H
  refine wpAny_call_entry slot_search (show (⟨h, g, d, tk, os⟩ : Shared).TypeIs (.ref p) "re.Pattern" from ⟨_, S.f _ _ h1, rfl⟩) entry_search ?_ (args_search _ _)
  unfold Builtin.«re.Pattern.search»
  refine wpAny_bind (wp_target hx (S.f _ _ h1) (S.f _ _ h2) h3 ?_)
  unfold reAnswer
  refine wpAny_bind (wp_found1 f hn fun m' q1 q2 q3 q4 q5 => ?_)
  refine wpAny_bind (wp_newMatch q3 q4 hbe ?_)
  subst q1 q2
  obtain ⟨F', l, S', m⟩ := isMatch_new (x := x) (v := t) (pv := .ref p) (pos := 0) (lim := x.length) (li := m'.lastindex) (sp := [(m'.start : Int), (m'.handed : Int), (b : Int), (e : Int)]) S
  exact wpAny_pure ⟨_, rfl, H F' _ _ _ l S' ⟨_, rfl, m⟩⟩
theorem search_lost (hp : PatAt F p c 1) (hx : x.length ≤ 2 ^ 24) (f : Lost (Sre.forSearch c x.toArray 1 0 x.length false) n) (hn : n < 2 ^ 64) :
    Fn w (.builtin "re.Pattern.search") [.ref p, .str (T x) t] F 0 1 (fun _ v => v = .none) := by
  obtain ⟨sv, fv, u1, u2, cs, items, k, h1, h2, h3⟩ := hp
  intro prog A M h g d tk os Q E C S H
  refine wpAny_call_entry slot_search (show (⟨h, g, d, tk, os⟩ : Shared).TypeIs (.ref p) "re.Pattern" from ⟨_, S.f _ _ h1, rfl⟩) entry_search ?_ (args_search _ _)
  unfold Builtin.«re.Pattern.search»
  refine wpAny_bind (wp_target hx (S.f _ _ h1) (S.f _ _ h2) h3 ?_)
  unfold reAnswer
  refine wpAny_bind (wp_lost1 f hn ?_)
  exact wpAny_pure ⟨_, rfl, H F _ _ _ (Le.refl _) S rfl⟩

/- fullmatch, of a pattern without groups: something or nothing -/
theorem full_found (hp : PatAt F p c 0) (hx : x.length ≤ 2 ^ 24) (f : Found (Sre.forMatch c x.toArray 0 0 x.length true false) st ha #[] (-1) li n) (hn : n < 2 ^ 64) :
    Fn w (.builtin "re.Pattern.fullmatch") [.ref p, .str (T x) t] F 0 1 (fun F' v => ∃ a, v = .ref a ∧ IsMatch F' a x [(st : Int), (ha : Int)]) := by
  obtain ⟨sv, fv, u1, u2, cs, items, k, h1, h2, h3⟩ := hp
  intro prog A M h g d tk os Q E C S H
  refine wpAny_call_entry slot_fullmatch (show (⟨h, g, d, tk, os⟩ : Shared).TypeIs (.ref p) "re.Pattern" from ⟨_, S.f _ _ h1, rfl⟩) entry_fullmatch ?_ (args_fullmatch _ _)
  unfold Builtin.«re.Pattern.fullmatch»
  refine wpAny_bind (wp_target hx (S.f _ _ h1) (S.f _ _ h2) h3 ?_)
  unfold reAnswer
  refine wpAny_bind (wp_found1 f hn fun m' q1 q2 q3 q4 q5 => ?_)
  refine wpAny_bind ?_
  unfold reNewMatch
  dsimp only
  refine wpAny_ite_false rfl ?_
  refine wpAny_bind (wpAny_newTuple ?_ (by show (2 : Nat) ≤ sizeLine; rw [sizeLine_eq]; first | with_reducible assumption | decide | lia | omega))
  unfold newFields
  refine wpAny_newObj_type ?_ (by size_fits)
  subst q1 q2
  obtain ⟨F', l, S', m⟩ := isMatch_new (x := x) (v := t) (pv := .ref p) (pos := 0) (lim := x.length) (li := m'.lastindex) (sp := [(m'.start : Int), (m'.handed : Int)]) S
  have H' := H F' _ tk _ l S' ⟨_, rfl, m⟩
  have hz : (h.push (tupObj ([(m'.start : Int), (m'.handed : Int)].map rawInt))).objs.size = h.objs.size + 1 := Heap.size_push _ _
  rw [← hz] at H'
  exact wpAny_pure ⟨_, rfl, H'⟩
theorem full_lost (hp : PatAt F p c 0) (hx : x.length ≤ 2 ^ 24) (f : Lost (Sre.forMatch c x.toArray 0 0 x.length true false) n) (hn : n < 2 ^ 64) :
    Fn w (.builtin "re.Pattern.fullmatch") [.ref p, .str (T x) t] F 0 1 (fun _ v => v = .none) := by
  obtain ⟨sv, fv, u1, u2, cs, items, k, h1, h2, h3⟩ := hp
  intro prog A M h g d tk os Q E C S H
  refine wpAny_call_entry slot_fullmatch (show (⟨h, g, d, tk, os⟩ : Shared).TypeIs (.ref p) "re.Pattern" from ⟨_, S.f _ _ h1, rfl⟩) entry_fullmatch ?_ (args_fullmatch _ _)
  unfold Builtin.«re.Pattern.fullmatch»
  refine wpAny_bind (wp_target hx (S.f _ _ h1) (S.f _ _ h2) h3 ?_)
  unfold reAnswer
  refine wpAny_bind (wp_lost1 f hn ?_)
  exact wpAny_pure ⟨_, rfl, H F _ _ _ (Le.refl _) S rfl⟩
end
end Mine
end
section
open PySem PySem.W PyProof.Rows PySem.Calls
set_option autoImplicit false
set_option maxRecDepth 100000
namespace Mine
open PySem.Builtin PySem.Builtin.Re

/- texts glued -/
noncomputable def jn (sep : List Nat) : List (List Nat) → List Nat
  | [] => []
  | [x] => x
  | x :: y :: r => x ++ sep ++ jn sep (y :: r)
theorem jn_one {sep x : List Nat} : jn sep [x] = x := rfl
theorem jn_T (sep : List Nat) : ∀ ts : List (List Nat), Str.join (T sep) (ts.map T) = T (jn sep ts)
  | [] => rfl
  | [x] => rfl
  | x :: y :: r => by
    show T x ++ T sep ++ Str.join (T sep) (T y :: r.map T) = _
    rw [show T y :: r.map T = (y :: r).map T from rfl, jn_T sep (y :: r), T_add, T_add]
    rfl
theorem jn_nil : ∀ ts : List (List Nat), jn [] ts = ts.flatten
  | [] => rfl
  | [x] => by simp [jn_one]
  | x :: y :: r => by
    show x ++ [] ++ jn [] (y :: r) = _
    rw [jn_nil (y :: r)]; simp

section
variable {prog : Program} {w : World} {A : Around} {E : Value → Shared → Prop} {h : Heap} {F : Fz} {M M1 M2 : List (Addr × Obj)} {g : Array GenState} {d : Drawn} {tk : Nat} {os : OsState} {l : Addr}
/- a list's item behind -/
theorem upd_push {N : Model} {vs : List Value} {n : Nat} {v : Value} {Q : Unit → Shared → Prop} (ho : h.get? l = some (lstObj vs n)) (hz : vs.length ≤ sizeLine)
    (H : ∀ h' n', Heap.SameBut l h h' → h'.get? l = some (lstObj (vs ++ [v]) n') → Q () ⟨h', g, d, tk, os⟩) : wpAny N A (updateSeq l (·.push v)) Q E ⟨h, g, d, tk, os⟩ := by
  have e : Obj.mapSeq (fun x => x.push v) (lstObj vs n) = lstObj (vs ++ [v]) (n + 1) := by
    unfold Obj.mapSeq lstObj
    dsimp only
    rw [if_neg (by simp)]
    congr 2
    simp
  have g2 : (h.update l (Obj.mapSeq fun x => x.push v)).get? l = some (lstObj (vs ++ [v]) (n + 1)) := by
    rw [Heap.get?_update_self _ ho (by rw [e]; rfl), e]
  exact wpAny_updateSeq ho rfl (H _ _ (Heap.SameBut.update ..) g2) (by rw [List.size_toArray]; exact hz) (by rw [Array.size_push, List.size_toArray]; first | with_reducible assumption | decide | lia | omega)
theorem wp_join {sep : List Nat} {t : Tok} {D : Addr} {ps : List (List Nat × Tok)} {n : Nat} {Q : Value → Shared → Prop} (ho : h.get? D = some (lstObj (ps.map fun p => .str (T p.1) p.2) n))
    (hs : (ps.map (·.1.length)).sum + ps.length * sep.length ≤ sizeLine) (H : ∀ t' tk', Q (.str (T (jn sep (ps.map (·.1)))) t') ⟨h, g, d, tk', os⟩) :
    wpAny (model prog w) A (call (.builtin "str.join") [.str (T sep) t, .ref D]) Q E ⟨h, g, d, tk, os⟩ := by
  refine PySem.SC.join (l := ps.map fun p => (T p.1, p.2)) (texts := (ps.map (·.1)).map T) ⟨_, ho, rfl, n, ?_⟩ ?_ ?_ ?_
  · unfold lstObj strValues; rw [List.map_map]; rfl
  · rw [List.map_map, List.map_map]; rfl
  · unfold JoinOk
    rw [StrLaws.joinTotal]
    unfold Builtin.Str.tooLong
    have : (((ps.map (·.1)).map T).map (·.length)).sum = (ps.map (·.1.length)).sum := by
      rw [List.map_map, List.map_map]; congr 1
    rw [this, List.length_map, List.length_map, T_len, decide_eq_false (by first | with_reducible assumption | decide | lia | omega)]; rfl
  · intro t' k
    show Q (.str (Builtin.Str.glued (T sep) ((ps.map (·.1)).map T)) t') _
    rw [StrLaws.glued_eq_join, jn_T]
    exact H t' k
end
end Mine
end
section
open PySem PySem.W PyProof.Rows PySem.Calls
set_option autoImplicit false
set_option maxRecDepth 100000
namespace Mine
open PySem.Builtin PySem.Builtin.Re

theorem entry_sl : entryFor table "re.Pattern.sub.loop" = some Builtin.«re.Pattern.sub.loop» := entryFor_of_tree (by kernel_rfl)

/- the pieces that a replacement by a function makes, from a place on -/
inductive Subs (c : Array Nat) (x : List Nat) (cb : List Nat → List Nat) : Nat → List (List Nat) → Prop
  | done {i n : Nat} : Lost (Sre.forSearch c x.toArray 1 i x.length false) n → n < 2 ^ 64 → i ≤ x.length → Subs c x cb i (if i < x.length then [x.drop i] else [])
  | step {i st ha b e n : Nat} {li : Int} {ps : List (List Nat)} : Found (Sre.forSearch c x.toArray 1 i x.length false) st ha #[some b, some e] 1 li n → n < 2 ^ 64 → i ≤ st → st < ha → b ≤ e → e ≤ x.length → ha ≤ x.length →
      Subs c x cb ha ps → Subs c x cb i ((if i < st then [(x.drop i).take (st - i)] else []) ++ cb ((x.drop b).take (e - b)) :: ps)

theorem ext_take (x : List Nat) (a b : Nat) : x.toArray.extract a b = ((x.drop a).take (b - a)).toArray := by simp

section
variable {M : Model} {A : Around} {E : Value → Shared → Prop} {h : Heap} {g : Array GenState} {d : Drawn} {tk : Nat} {os : OsState}
theorem wp_whole {p cs : Addr} {sv fv u1 u2 : Value} {gr : Nat} {items : Array Value} {n : Nat} {c : Array Nat} {x : List Nat} {t : Tok} {Q : ReTarget → Shared → Prop}
    (h1 : h.get? p = some { cls := .type "re.Pattern", data := .fields #[sv, fv, .int gr 0, u1, u2, .ref cs, .int 0 0] }) (h2 : h.get? cs = some { cls := .type "tuple", data := .seq items n }) (hc : (items.map reRawOf).map (·.toNat) = c)
    (H : Q { pattern := .ref p, string := .str (T x) t, code := c, text := x.toArray, kind := 0, groups := gr, pos := 0, lim := x.length } ⟨h, g, d, tk, os⟩) :
    wpAny M A (reWholeTarget (.ref p) (.str (T x) t)) Q E ⟨h, g, d, tk, os⟩ := by
  unfold reWholeTarget
  refine wpAny_bind (wpAny_fieldsOf h1 rfl ?_)
  refine wpAny_bind (wp_reTextOf_str ?_)
  refine wpAny_ite_false rfl ?_
  refine wpAny_ite_false rfl ?_
  refine wpAny_bind (wpAny_of_eq (a := ()) rfl ?_)
  refine wpAny_bind ?_
  unfold reRawItems
  refine wpAny_bind (wpAny_seqItems h2 rfl (wpAny_pure (wpAny_pure ?_)))
  rw [Option.getD_some]
  subst hc
  exact H
theorem wp_slice {x : List Nat} {b e : Nat} {Q : Value → Shared → Prop} (hx : x.length ≤ sizeLine) (H : Q (.str (T ((x.drop b).take (e - b))) tk) ⟨h, g, d, tk + 1, os⟩) : wpAny M A (reSlice x.toArray 0 b e) Q E ⟨h, g, d, tk, os⟩ := by
  unfold reSlice
  rw [if_pos (by decide), ext_take]
  exact wpAny_mkStr H (by rw [T_len, List.length_take, List.length_drop]; first | with_reducible assumption | decide | lia | omega)
end

section
variable {w : World} {p : Addr} {c : Array Nat} {x : List Nat} {t : Tok} {cb : List Nat → List Nat} {repl : Value} {D U : Nat}
/- what the function given tells of each match -/
noncomputable def Cb (w : World) (F : Fz) (repl : Value) (cb : List Nat → List Nat) (D U : Nat) : Prop :=
  ∀ (F' : Fz) (a : Addr) (x : List Nat) (b0 e0 b e : Nat) (r : List Int), Le F F' → IsMatch F' a x ((b0 : Int) :: (e0 : Int) :: (b : Int) :: (e : Int) :: r) → b ≤ e → e ≤ x.length → x.length ≤ 2 ^ 20 → Fn w repl [.ref a] F' D U (fun _ v => ∃ t, v = .str (T (cb ((x.drop b).take (e - b)))) t)
theorem maybe_push {N : Model} {A : Around} {E : Value → Shared → Prop} {Q : Fin → Shared → Prop} {F : Fz} {M : List (Addr × Obj)} {h : Heap} {g : Array GenState} {d : Drawn} {tk : Nat} {os : OsState} {l : Addr} {q : Prop} [Decidable q] {b e : Nat} {K : Sem Fin}
    {vs : List (List Nat × Tok)} {n : Nat} (hx : x.length ≤ 2 ^ 20) (hz : vs.length ≤ 2 ^ 22) (S : St w h F ((l, lstObj (vs.map fun q => .str (T q.1) q.2) n) :: M))
    (H : ∀ (h' : Heap) (tk' : Nat) (vs' : List (List Nat × Tok)) (n' : Nat), St w h' F ((l, lstObj (vs'.map fun q => .str (T q.1) q.2) n') :: M) → vs'.map (·.1) = vs.map (·.1) ++ (if q then [(x.drop b).take (e - b)] else []) → vs'.length ≤ vs.length + 1 → wpAny N A K Q E ⟨h', g, d, tk', os⟩) :
    wpAny N A (if q then reSlice x.toArray 0 b e >>= fun v => updateSeq l (·.push v) >>= fun _ => K else K) Q E ⟨h, g, d, tk, os⟩ := by
  by_cases hq : q
  · rw [if_pos hq]
    refine wpAny_bind (wp_slice (by rw [sizeLine_eq]; first | with_reducible assumption | decide | lia | omega) ?_)
    refine wpAny_bind (upd_push (S.m _ (.head _)) (by rw [List.length_map, sizeLine_eq]; first | with_reducible assumption | decide | lia | omega) fun h' n' sb e' => ?_)
    refine H h' _ (vs ++ [((x.drop b).take (e - b), tk)]) n' ?_ ?_ ?_
    · refine St.upd (M1 := []) S sb.extBut ?_
      rw [e', List.map_append]; rfl
    · rw [List.map_append, if_pos hq]; rfl
    · rw [List.length_append]; exact Nat.le_refl _
  · rw [if_neg hq]
    refine H h tk vs n S ?_ (Nat.le_succ _)
    rw [if_neg hq, List.append_nil]
theorem Cb.up {F F' : Fz} (hc : Cb w F repl cb D U) (l : Le F F') : Cb w F' repl cb D U := fun F2 a x b0 e0 b e r l2 => hc F2 a x b0 e0 b e r (l.trans l2)
theorem PatAt.up {F F' : Fz} {k : Nat} (hp : PatAt F p c k) (l : Le F F') : PatAt F' p c k := by
  obtain ⟨sv, fv, u1, u2, cs, items, kk, p1, p2, p3⟩ := hp
  exact ⟨sv, fv, u1, u2, cs, items, kk, l _ _ p1, l _ _ p2, p3⟩
/- the loop of a replacement -/
theorem sub_loop {prog : Program} {A : Around} {Q E : Value → Shared → Prop} {g : Array GenState} {d : Drawn} {os : OsState} {l : Addr} (hx : x.length ≤ 2 ^ 20) (C : Cx A D (U + 1)) :
    ∀ (i : Nat) (ps : List (List Nat)), Subs c x cb i ps → ∀ (F : Fz) (M : List (Addr × Obj)) (h : Heap) (tk : Nat) (k j : Int) (vs : List (List Nat × Tok)) (n : Nat), PatAt F p c 1 → Cb w F repl cb D U →
    St w h F ((l, lstObj (vs.map fun q => .str (T q.1) q.2) n) :: M) → (vs.map (·.1.length)).sum + (ps.map (·.length)).sum ≤ 2 ^ 22 → vs.length ≤ 2 * i →
    (∀ F' h' tk' t', Le F F' → St w h' F' M → Q (.str (T ((vs.map (·.1)).flatten ++ ps.flatten)) t') ⟨h', g, d, tk', os⟩) →
    codeAny (model prog w) A (.builtin "re.Pattern.sub.loop" ⟨[.ref p, .str (T x) t, repl, rawInt 1, rawInt 0, rawInt k, rawInt (i : Nat), rawInt (i : Nat), .bool false, .ref l, .bool false], []⟩)
      (fun r s' => match r with | .ok (.ret v) => Q v s' | .ok _ => False | .error e => E e s') ⟨h, g, d, tk, os⟩ := by
  intro i ps Z
  induction Z with
  | @done i n L hn hi =>
    intro F M h tk k j vs m hp hc S hsum hvl H
    obtain ⟨sv, fv, u1, u2, cs, items, kk, h1, h2, h3⟩ := hp
    refine codeAny_builtin entry_sl ?_
    rw [Around.under_plainId (by decide +kernel)]
    unfold Builtin.«re.Pattern.sub.loop»
    dsimp only [rawInt]
    refine wpAny_bind (wp_whole (S.f _ _ h1) (S.f _ _ h2) h3 ?_)
    dsimp only
    refine wpAny_ite_false rfl ?_
    refine wpAny_bind (wpAny_ite_false rfl ?_)
    refine wp_lost1 L hn ?_
    dsimp only
    refine maybe_push hx (by first | with_reducible assumption | decide | lia | omega) S fun h' tk' vs' n' S' hv hl => ?_
    refine wpAny_bind (wp_slice (by rw [sizeLine_eq]; first | with_reducible assumption | decide | lia | omega) ?_)
    refine wpAny_bind (wpAny_seqItems (S'.m _ (.head _)) rfl ?_)
    have hfl : (vs.map (·.1)).flatten ++ (if i < x.length then [x.drop i] else []).flatten = (vs'.map (·.1)).flatten := by
      rw [hv, List.flatten_append]
      congr 1
      have : (i : Int).toNat = i := by first | with_reducible assumption | decide | lia | omega
      rw [this]
      split
      · rw [List.take_of_length_le (by rw [List.length_drop]; exact Nat.le_refl _)]
      · rfl
    rw [hfl] at H
    have hsm : (vs'.map (·.1.length)).sum ≤ 2 ^ 22 := by
      have e1 : ∀ l : List (List Nat × Tok), (l.map (·.1.length)).sum = ((l.map (·.1)).flatten).length := by
        intro l; rw [List.length_flatten, List.map_map]; rfl
      rw [e1, ← hfl, List.length_append, ← e1, List.length_flatten]; exact hsum
    refine wpAny_ite_split (fun he => ?_) fun he => ?_
    · refine wpAny_bind (wpAny_pure ?_)
      refine wpAny_ite_false rfl ?_
      have : vs' = [] := by
        have q : (vs'.map fun q : List Nat × Tok => (.str (T q.1) q.2 : Value)).toArray.isEmpty = true := he
        simpa using q
      subst this
      refine wpAny_pure (H F h' _ tk' (Le.refl _) S'.tl)
    · refine wpAny_bind ?_
      rw [if_pos (show (0 == 0) = true from rfl)]
      have e0 : (x.drop 0).take (0 - 0) = [] := by simp
      rw [e0]
      refine wp_join (S'.m _ (.head _)) (by rw [sizeLine_eq]; simp only [List.length_nil]; first | with_reducible assumption | decide | lia | omega) fun t2 tk2 => ?_
      refine wpAny_ite_false rfl ?_
      rw [jn_nil]
      exact wpAny_pure (H F h' _ _ (Le.refl _) S'.tl)
  | @step i st ha b e n li ps Fo hn h1 h2 h3 h4 h5 Z ih =>
    intro F M h tk k j vs m hp hc S hsum hvl H
    have hp' := hp
    obtain ⟨sv, fv, u1, u2, cs, items, kk, p1, p2, p3⟩ := hp
    refine codeAny_builtin entry_sl ?_
    rw [Around.under_plainId (by decide +kernel)]
    unfold Builtin.«re.Pattern.sub.loop»
    dsimp only [rawInt]
    refine wpAny_bind (wp_whole (S.f _ _ p1) (S.f _ _ p2) p3 ?_)
    dsimp only
    refine wpAny_ite_false rfl ?_
    refine wpAny_bind (wpAny_ite_false rfl ?_)
    refine wp_found1 Fo hn fun m' q1 q2 q3 q4 q5 => ?_
    dsimp only
    refine maybe_push hx (by first | with_reducible assumption | decide | lia | omega) S fun h' tk' vs' n' S' hv hl => ?_
    refine wpAny_ite_false rfl ?_
    refine wpAny_bind (wp_newMatch q3 q4 h3 ?_)
    obtain ⟨F1, l1, S1, mm⟩ := isMatch_new (x := x) (v := t) (pv := .ref p) (pos := 0) (lim := x.length) (li := m'.lastindex) (sp := [(m'.start : Int), (m'.handed : Int), (b : Int), (e : Int)]) S'
    refine wpAny_bind (wpAny_holding (wpAny_ite_true rfl ?_))
    refine hc F1 _ x _ _ b e [] l1 mm h3 h4 hx C.in1 S1 fun F2 h2' tk2 v l2 S2 pv => ?_
    obtain ⟨t2, rfl⟩ := pv
    refine wpAny_ite_true rfl ?_
    refine wpAny_bind (upd_push (S2.m _ (.head _)) (by rw [List.length_map, sizeLine_eq]; first | with_reducible assumption | decide | lia | omega) fun h3' n3 sb e3 => ?_)
    have S3 := St.upd (M1 := []) S2 sb.extBut e3
    have hfl : (vs.map (·.1)).flatten ++ ((if i < st then [(x.drop i).take (st - i)] else []) ++ cb ((x.drop b).take (e - b)) :: ps).flatten = ((vs' ++ [(cb ((x.drop b).take (e - b)), t2)]).map (·.1)).flatten ++ ps.flatten := by
      rw [List.map_append, hv]
      have : (i : Int).toNat = i := by first | with_reducible assumption | decide | lia | omega
      rw [this, q1]
      simp
    rw [hfl] at H
    have e1 : ∀ l : List (List Nat × Tok), (l.map (·.1.length)).sum = ((l.map (·.1)).flatten).length := by
      intro l; rw [List.length_flatten, List.map_map]; rfl
    have hs2 : ((vs' ++ [(cb ((x.drop b).take (e - b)), t2)]).map (·.1.length)).sum + (ps.map (·.length)).sum ≤ 2 ^ 22 := by
      rw [e1, ← List.length_flatten, ← List.length_append, ← hfl, List.length_append, ← e1, List.length_flatten]; exact hsum
    have hmust : (m'.handed == m'.start) = false := by rw [q1, q2]; simp; first | with_reducible assumption | decide | lia | omega
    rw [hmust, q2]
    refine wpAny_pure ⟨plainId_quiet (by decide +kernel) _, ?_⟩
    refine ih F2 M h3' _ (k + 1) j (vs' ++ [(cb ((x.drop b).take (e - b)), t2)]) n3 (hp'.up (l1.trans l2)) (hc.up (l1.trans l2)) ?_ hs2 ?_ ?_
    · rw [List.map_append]; exact S3
    · rw [List.length_append, List.length_singleton]; first | with_reducible assumption | decide | lia | omega
    · intro F' h' tk' t' l' S'
      exact H F' h' tk' t' ((l1.trans l2).trans l') S'

theorem fun_call : typeLookup (.type "function") "__call__" = pure (some (.builtin "function.__call__")) := by rw [typeLookup_type, builtinLookup_eq_fast]; kernel_rfl
theorem str_nocall : typeLookup (.type "str") "__call__" = pure none := by rw [typeLookup_type, builtinLookup_eq_fast]; kernel_rfl
theorem str_notba : isSubtype (.type "str") (.type "bytearray") = pure false := by rw [isSubtype_type]; kernel_rfl
theorem named_3 (id f : String) (u v : Value) : reNamed id f ["repl", "string", "count"] 2 [u, v] [] = pure [some u, some v, none] := by
  unfold reNamed
  rfl
/- a replacement by a function -/
theorem sub_fn {F : Fz} {ps : List (List Nat)} {fa : Addr} {ob : Obj} (hx : x.length ≤ 2 ^ 20) (Z : Subs c x cb 0 ps) (hp : PatAt F p c 1) (hf : F fa = some ob) (hty : ob.cls = .type "function") (hc : Cb w F (.ref fa) cb D U)
    (hs : (ps.map (·.length)).sum ≤ 2 ^ 22) : Fn w (.builtin "re.Pattern.sub") [.ref p, .ref fa, .str (T x) t] F D (U + 1) (fun _ v => ∃ t, v = .str (T ps.flatten) t) := by
  have hp' := hp
  obtain ⟨sv, fv, u1, u2, cs, items, kk, p1, p2, p3⟩ := hp'
  intro prog A M h g d tk os Q E C S H
  refine wpAny_call ?_
  refine codeAny_call_builtin slot_sub.plain entry_sub (slot_sub.check _ _ _ _ _ _ _ _ (show (⟨h, g, d, tk, os⟩ : Shared).TypeIs (.ref p) "re.Pattern" from ⟨_, S.f _ _ p1, rfl⟩) (args_sub _ _ _) ?_)
  unfold Builtin.«re.Pattern.sub» reSubstitute
  dsimp only
  refine wpAny_bind (wpAny_of_eq (named_3 _ _ _ _) ?_)
  dsimp only
  refine wpAny_bind (wpAny_pure ?_)
  have hfc := fun_call
  refine wpAny_bind (wpAny_specialOf (show (⟨h, g, d, tk, os⟩ : Shared).TypeIs (.ref fa) "function" from ⟨_, S.f _ _ hf, hty⟩) hfc ?_)
  refine wpAny_ite_true rfl ?_
  refine wpAny_bind (wpAny_pure ?_)
  refine wpAny_ite_true rfl ?_
  refine wpAny_bind (wpAny_pure ?_)
  refine wpAny_bind (wpAny_holding (wp_whole (S.f _ _ p1) (S.f _ _ p2) p3 ?_))
  refine wpAny_ite_true rfl ?_
  refine wpAny_bind ?_
  unfold reNotHeld
  refine wpAny_bind (wpAny_isInstance (typeIs_str _ _ _) str_notba ?_)
  refine wpAny_ite_false rfl (wpAny_pure ?_)
  refine wpAny_bind (wpAny_newList ?_)
  refine wpAny_pure ⟨plainId_quiet (by decide +kernel) _, ?_⟩
  have S1 := S.push (o := lstObj [] 0) rfl
  exact sub_loop hx C 0 ps Z F M _ tk 0 0 [] 0 hp hc S1 (by simpa using hs) (by simp) fun F' h' tk' t' l' S' => H F' h' tk' _ l' S' ⟨t', rfl⟩

/- the replacement of what stands ahead, by nothing -/
theorem sl_head {prog : Program} {A : Around} {Q E : Value → Shared → Prop} {g : Array GenState} {d : Drawn} {os : OsState} {l : Addr} {F : Fz} {M : List (Addr × Obj)} {h : Heap} {tk n k1 k2 : Nat} {li : Int} {u : Tok} (hx : x.length ≤ 2 ^ 20)
    (hp : PatAt F p c 0) (h0 : 0 < n) (hn : n ≤ x.length) (f1 : Found (Sre.forSearch c x.toArray 0 0 x.length false) 0 n #[] (-1) li k1) (hk1 : k1 < 2 ^ 64) (f2 : Lost (Sre.forSearch c x.toArray 0 n x.length false) k2) (hk2 : k2 < 2 ^ 64)
    (S : St w h F ((l, lstObj [] 0) :: M)) (H : ∀ F' h' tk' a t1 t2, Le F F' → St w h' F' M → F' a = some (tupObj [.str (T (x.drop n)) t1, .int 1 t2]) → Q (.ref a) ⟨h', g, d, tk', os⟩) :
    codeAny (model prog w) A (.builtin "re.Pattern.sub.loop" ⟨[.ref p, .str (T x) t, .str (T []) u, rawInt 0, rawInt 0, rawInt 0, rawInt 0, rawInt 0, .bool false, .ref l, .bool true], []⟩)
      (fun r s' => match r with | .ok (.ret v) => Q v s' | .ok _ => False | .error e => E e s') ⟨h, g, d, tk, os⟩ := by
  obtain ⟨sv, fv, u1, u2, cs, items, kk, p1, p2, p3⟩ := hp
  refine codeAny_builtin entry_sl ?_
  rw [Around.under_plainId (by decide +kernel)]
  unfold Builtin.«re.Pattern.sub.loop»
  dsimp only [rawInt]
  refine wpAny_bind (wp_whole (S.f _ _ p1) (S.f _ _ p2) p3 ?_)
  dsimp only
  refine wpAny_ite_true rfl ?_
  refine wpAny_bind ?_
  refine wpAny_bind (wpAny_pure ?_)
  refine wpAny_ite_false rfl (wpAny_pure ?_)
  refine wpAny_bind (wpAny_ite_false rfl ?_)
  refine wp_found1 f1 hk1 fun m' q1 q2 q3 q4 q5 => ?_
  dsimp only
  refine wpAny_ite_false (by rw [q1]; exact decide_eq_false (Nat.not_lt_zero _)) ?_
  refine wpAny_ite_true rfl ?_
  refine wpAny_bind (wpAny_pure ?_)
  refine wpAny_ite_true rfl ?_
  refine wpAny_bind (upd_push (S.m _ (.head _)) (by simp) fun h2 n2 sb e2 => ?_)
  have S2 := St.upd (M1 := []) S sb.extBut e2
  have hmust : (m'.handed == m'.start) = false := by rw [q1, q2]; simp; first | with_reducible assumption | decide | lia | omega
  rw [hmust, q2]
  refine wpAny_pure ⟨plainId_quiet (by decide +kernel) _, ?_⟩
  refine codeAny_builtin entry_sl ?_
  rw [Around.under_plainId (by decide +kernel)]
  unfold Builtin.«re.Pattern.sub.loop»
  dsimp only [rawInt]
  refine wpAny_bind (wp_whole (S2.f _ _ p1) (S2.f _ _ p2) p3 ?_)
  dsimp only
  refine wpAny_ite_true rfl ?_
  refine wpAny_bind ?_
  refine wpAny_bind (wpAny_pure ?_)
  refine wpAny_ite_false rfl (wpAny_pure ?_)
  refine wpAny_bind (wpAny_ite_false rfl ?_)
  refine wp_lost1 f2 hk2 ?_
  dsimp only
  refine maybe_push (vs := [([], u)]) hx (by simp) S2 fun h' tk' vs' n' S' hv hl => ?_
  refine wpAny_bind (wp_slice (by rw [sizeLine_eq]; first | with_reducible assumption | decide | lia | omega) ?_)
  refine wpAny_bind (wpAny_seqItems (S'.m _ (.head _)) rfl ?_)
  have hne : vs' ≠ [] := by rintro rfl; simp at hv
  have hfl : (vs'.map (·.1)).flatten = x.drop n := by
    rw [hv, List.flatten_append]
    have : (n : Int).toNat = n := by first | with_reducible assumption | decide | lia | omega
    rw [this]
    split
    · rw [List.take_of_length_le (by rw [List.length_drop]; exact Nat.le_refl _)]; simp
    · rw [List.drop_of_length_le (by first | with_reducible assumption | decide | lia | omega)]; simp
  refine wpAny_ite_false ?_ ?_
  · refine decide_eq_false ?_
    show ¬ (vs'.map fun q : List Nat × Tok => (.str (T q.1) q.2 : Value)).toArray.isEmpty = true
    simpa using hne
  refine wpAny_bind ?_
  rw [if_pos (show (0 == 0) = true from rfl)]
  have e0 : (x.drop 0).take (0 - 0) = [] := by simp
  rw [e0]
  have e1 : ∀ l : List (List Nat × Tok), (l.map (·.1.length)).sum = ((l.map (·.1)).flatten).length := by
    intro l; rw [List.length_flatten, List.map_map]; rfl
  refine wp_join (S'.m _ (.head _)) (by rw [e1, hfl, sizeLine_eq, List.length_drop]; simp only [List.length_nil]; first | with_reducible assumption | decide | lia | omega) fun t2 tk2 => ?_
  refine wpAny_ite_true rfl ?_
  rw [jn_nil, hfl]
  refine wpAny_bind (wpAny_holding (wpAny_bind (wpAny_mkInt (wpAny_newTuple ?_))))
  obtain ⟨S4, l4⟩ := S'.tl.pushF (o := tupObj [.str (T (x.drop n)) t2, .int 1 tk2]) rfl
  exact wpAny_pure (H _ _ _ _ _ _ l4 S4 (ins_self _ _ _))
theorem subn_fn {F : Fz} {n k1 k2 : Nat} {li : Int} {u : Tok} (hx : x.length ≤ 2 ^ 20) (hp : PatAt F p c 0) (h0 : 0 < n) (hn : n ≤ x.length)
    (f1 : Found (Sre.forSearch c x.toArray 0 0 x.length false) 0 n #[] (-1) li k1) (hk1 : k1 < 2 ^ 64) (f2 : Lost (Sre.forSearch c x.toArray 0 n x.length false) k2) (hk2 : k2 < 2 ^ 64) :
    Fn w (.builtin "re.Pattern.subn") [.ref p, .str (T []) u, .str (T x) t] F 0 1 (fun F' v => ∃ a t1 t2, v = .ref a ∧ F' a = some (tupObj [.str (T (x.drop n)) t1, .int 1 t2])) := by
  have hp' := hp
  obtain ⟨sv, fv, u1, u2, cs, items, kk, p1, p2, p3⟩ := hp'
  intro prog A M h g d tk os Q E C S H
  refine wpAny_call ?_
  refine codeAny_call_builtin slot_subn.plain entry_subn (slot_subn.check _ _ _ _ _ _ _ _ (show (⟨h, g, d, tk, os⟩ : Shared).TypeIs (.ref p) "re.Pattern" from ⟨_, S.f _ _ p1, rfl⟩) (args_subn _ _ _) ?_)
  unfold Builtin.«re.Pattern.subn» reSubstitute
  dsimp only
  refine wpAny_bind (wpAny_of_eq (named_3 _ _ _ _) ?_)
  dsimp only
  refine wpAny_bind (wpAny_pure ?_)
  refine wpAny_bind (wpAny_specialOf (typeIs_str _ _ _) str_nocall ?_)
  refine wpAny_ite_false rfl ?_
  refine wpAny_bind (wpAny_pure ?_)
  refine wpAny_bind (wpAny_pure ?_)
  refine wpAny_ite_false rfl ?_
  refine wpAny_ite_true (by simp) ?_
  refine wpAny_bind (wpAny_pure ?_)
  refine wpAny_bind (wpAny_holding (wp_whole (S.f _ _ p1) (S.f _ _ p2) p3 ?_))
  refine wpAny_ite_false rfl ?_
  refine wpAny_bind (wpAny_newList ?_)
  refine wpAny_pure ⟨plainId_quiet (by decide +kernel) _, ?_⟩
  have S1 := S.push (o := lstObj [] 0) rfl
  exact sl_head hx hp h0 hn f1 hk1 f2 hk2 S1 fun F' h' tk' a t1 t2 l' S' e => H F' h' tk' _ l' S' ⟨a, t1, t2, rfl, e⟩
end
end Mine
end
section
open PySem PySem.W PyProof.Rows PySem.Calls
set_option autoImplicit false
set_option maxRecDepth 100000
namespace Mine

theorem St.tabS {w : World} {h h' : Heap} {F : Fz} {M : List (Addr × Obj)} {c' : Addr} {oc : Obj} {vs : Array Value} {t : Tok} (S : St w h F M) (k : Heap.ExtBut 79 h h') (hc : h.objs.size ≤ c') (ho : h'.get? c' = some oc) (hd : oc.data = .fields vs) (hv : vs[1]? = some (.str "split_header_words.<locals>.<lambda>" t))
    (hp : h'.get? 79 = some (tabObj #[rawInt lamS.line, rawInt lamS.col, .ref c'])) : St w h' (ins F c' oc) M ∧ Le F (ins F c' oc) := by
  obtain ⟨n1, n2, n3, n4⟩ := S.none_of_size hc
  have l : Le F (ins F c' oc) := Le.ins n1
  refine ⟨⟨S.b.up l, fun b o' e => ?_, fun p hm => k _ _ (S.t2 p hm).1 (S.m p hm), S.nd, fun p hm => ?_, ?_, S.t2, ?_⟩, l⟩
  · unfold Mine.ins at e
    split at e
    · rename_i q; cases e; rw [q]; exact ho
    · refine k _ _ (fun q => ?_) (S.f _ _ e)
      rw [q, S.t1.1] at e; cases e
  · unfold Mine.ins
    rw [if_neg (n2 p hm)]
    exact S.fm p hm
  · unfold Mine.ins
    rw [if_neg (Ne.symm n3), if_neg (Ne.symm n4)]
    exact S.t1
  · exact ⟨⟨_, hp, .inr ⟨c', oc, vs, t, rfl, ins_self _ _ _, hd, hv⟩⟩, S.t3.2.up (fun o e => k _ _ (by decide) e) l⟩
theorem lamS_new {prog : Program} {w : World} {A : Around} {E : Value → Shared → Prop} {h : Heap} {F : Fz} {M : List (Addr × Obj)} {g : Array GenState} {d : Drawn} {tk : Nat} {os : OsState} {env : Env}
    {params : Arguments} {body : Expr} {scope : Scope} {clos : List (Str × Addr)} {Q : Value → Shared → Prop} (S : St w h F M)
    (H : ∀ F' h' tk' f c' ctv pm, Le F F' → St w h' F' M → F' f = some (kla_obj "<lambda>" "split_header_words.<locals>.<lambda>" params body scope clos pm c' ctv) → (∃ oc vs t, F' c' = some oc ∧ oc.data = .fields vs ∧ vs[1]? = some (.str "split_header_words.<locals>.<lambda>" t)) → Q (.ref f) ⟨h', g, d, tk', os⟩)
    (hdef : defaultsOf params env = ([], [])) (hcl : closureFor scope env = pure clos) (hge0 : env.globals = mainGlobals) (hcode : env.code = .ref 83) (hq : env.qual ++ "<lambda>" = "split_header_words.<locals>.<lambda>") :
    wpAny (model prog w) A (eval (.Lambda params body scope lamS) env) Q E ⟨h, g, d, tk, os⟩ := by
  refine kla_eval hdef ?_
  rw [hq]
  obtain ⟨mg, mb, h1, h2, bm, ob, b1, b2, b3, b4, b5, b6⟩ := S.b.glob
  have n := h1 h fun a o e => S.f _ _ e
  have hb : h.BuiltinsAt mg 79 := by
    refine ⟨bm, ob, b1, b2, ?_, ?_, S.f _ _ b3, b4, b5, b6⟩
    · rintro rfl
      obtain ⟨o1, es1, ep1, e1, d1, _⟩ := n.1
      rw [S.f _ _ b3] at e1; cases e1
      rw [b6] at d1; cases d1
    · rintro rfl
      rw [S.t1.1] at b3; cases b3
  obtain ⟨ps, hps, hcs⟩ := S.t3.1
  rcases hcs with rfl | ⟨c, oc, vs, t, rfl, q2, q3, q4⟩
  · refine kla_makeFunction hcl hge0 n.1 hcode n.2.2.2.1 hps trivial rfl (by decide) hb fun c' ctv h' tk' k1 k2 k3 k4 k5 => ?_
    obtain ⟨c0, oc, vs, t, r0, r1, r2, r3⟩ := k4
    cases r0
    obtain ⟨S1, l1⟩ := S.tabS k1 k2 r1 r2 r3 k5
    obtain ⟨S2, l2⟩ := S1.pushF (o := kla_obj "<lambda>" "split_header_words.<locals>.<lambda>" params body scope clos ((mg "__name__").getD .none) c' ctv) rfl
    exact H _ _ _ _ _ _ _ (l1.trans l2) S2 (ins_self _ _ _) ⟨oc, vs, t, l2 _ _ (ins_self _ _ _), r2, r3⟩
  · refine kla_makeFunctionHit (cv := .ref c) hcl hge0 n.1 hcode n.2.2.2.1 hps trivial rfl hb fun ctv h' tk' k1 k2 => ?_
    have S1 := S.ext k1
    obtain ⟨S2, l2⟩ := S1.pushF (o := kla_obj "<lambda>" "split_header_words.<locals>.<lambda>" params body scope clos ((mg "__name__").getD .none) c ctv) rfl
    exact H _ _ _ _ _ _ _ l2 S2 (ins_self _ _ _) ⟨oc, vs, t, l2 _ _ q2, q3, q4⟩

theorem St.tabJ {w : World} {h h' : Heap} {F : Fz} {M : List (Addr × Obj)} {c' : Addr} {oc : Obj} {vs : Array Value} {t : Tok} (S : St w h F M) (k : Heap.ExtBut 96 h h') (hc : h.objs.size ≤ c') (ho : h'.get? c' = some oc) (hd : oc.data = .fields vs) (hv : vs[1]? = some (.str "join_header_words.<locals>.<lambda>" t))
    (hp : h'.get? 96 = some (tabObj #[rawInt lamJ.line, rawInt lamJ.col, .ref c'])) : St w h' (ins F c' oc) M ∧ Le F (ins F c' oc) := by
  obtain ⟨n1, n2, n3, n4⟩ := S.none_of_size hc
  have l : Le F (ins F c' oc) := Le.ins n1
  refine ⟨⟨S.b.up l, fun b o' e => ?_, fun p hm => k _ _ (S.t2 p hm).2 (S.m p hm), S.nd, fun p hm => ?_, ?_, S.t2, ?_⟩, l⟩
  · unfold Mine.ins at e
    split at e
    · rename_i q; cases e; rw [q]; exact ho
    · refine k _ _ (fun q => ?_) (S.f _ _ e)
      rw [q, S.t1.2] at e; cases e
  · unfold Mine.ins
    rw [if_neg (n2 p hm)]
    exact S.fm p hm
  · unfold Mine.ins
    rw [if_neg (Ne.symm n3), if_neg (Ne.symm n4)]
    exact S.t1
  · exact ⟨S.t3.1.up (fun o e => k _ _ (by decide) e) l, ⟨_, hp, .inr ⟨c', oc, vs, t, rfl, ins_self _ _ _, hd, hv⟩⟩⟩
theorem lamJ_new {prog : Program} {w : World} {A : Around} {E : Value → Shared → Prop} {h : Heap} {F : Fz} {M : List (Addr × Obj)} {g : Array GenState} {d : Drawn} {tk : Nat} {os : OsState} {env : Env}
    {params : Arguments} {body : Expr} {scope : Scope} {clos : List (Str × Addr)} {Q : Value → Shared → Prop} (S : St w h F M)
    (H : ∀ F' h' tk' f c' ctv pm, Le F F' → St w h' F' M → F' f = some (kla_obj "<lambda>" "join_header_words.<locals>.<lambda>" params body scope clos pm c' ctv) → (∃ oc vs t, F' c' = some oc ∧ oc.data = .fields vs ∧ vs[1]? = some (.str "join_header_words.<locals>.<lambda>" t)) → Q (.ref f) ⟨h', g, d, tk', os⟩)
    (hdef : defaultsOf params env = ([], [])) (hcl : closureFor scope env = pure clos) (hge0 : env.globals = mainGlobals) (hcode : env.code = .ref 100) (hq : env.qual ++ "<lambda>" = "join_header_words.<locals>.<lambda>") :
    wpAny (model prog w) A (eval (.Lambda params body scope lamJ) env) Q E ⟨h, g, d, tk, os⟩ := by
  refine kla_eval hdef ?_
  rw [hq]
  obtain ⟨mg, mb, h1, h2, bm, ob, b1, b2, b3, b4, b5, b6⟩ := S.b.glob
  have n := h1 h fun a o e => S.f _ _ e
  have hb : h.BuiltinsAt mg 96 := by
    refine ⟨bm, ob, b1, b2, ?_, ?_, S.f _ _ b3, b4, b5, b6⟩
    · rintro rfl
      obtain ⟨o1, es1, ep1, e1, d1, _⟩ := n.1
      rw [S.f _ _ b3] at e1; cases e1
      rw [b6] at d1; cases d1
    · rintro rfl
      rw [S.t1.2] at b3; cases b3
  obtain ⟨ps, hps, hcs⟩ := S.t3.2
  rcases hcs with rfl | ⟨c, oc, vs, t, rfl, q2, q3, q4⟩
  · refine kla_makeFunction hcl hge0 n.1 hcode n.2.2.2.2 hps trivial rfl (by decide) hb fun c' ctv h' tk' k1 k2 k3 k4 k5 => ?_
    obtain ⟨c0, oc, vs, t, r0, r1, r2, r3⟩ := k4
    cases r0
    obtain ⟨S1, l1⟩ := S.tabJ k1 k2 r1 r2 r3 k5
    obtain ⟨S2, l2⟩ := S1.pushF (o := kla_obj "<lambda>" "join_header_words.<locals>.<lambda>" params body scope clos ((mg "__name__").getD .none) c' ctv) rfl
    exact H _ _ _ _ _ _ _ (l1.trans l2) S2 (ins_self _ _ _) ⟨oc, vs, t, l2 _ _ (ins_self _ _ _), r2, r3⟩
  · refine kla_makeFunctionHit (cv := .ref c) hcl hge0 n.1 hcode n.2.2.2.2 hps trivial rfl hb fun ctv h' tk' k1 k2 => ?_
    have S1 := S.ext k1
    obtain ⟨S2, l2⟩ := S1.pushF (o := kla_obj "<lambda>" "join_header_words.<locals>.<lambda>" params body scope clos ((mg "__name__").getD .none) c ctv) rfl
    exact H _ _ _ _ _ _ _ l2 S2 (ins_self _ _ _) ⟨oc, vs, t, l2 _ _ q2, q3, q4⟩

section
variable {prog : Program} {w : World} {A : Around} {E : Value → Shared → Prop} {h : Heap} {F : Fz} {M : List (Addr × Obj)} {a : Addr} {g : Array GenState} {d : Drawn} {tk : Nat} {os : OsState}
/- a function that is one expression is entered -/
theorem enterE {args : List Value} {name qual : Str} {params : Arguments} {body : Expr} {scope : Scope} {pm ctv : Value} {c' : Addr} {binds : List (Str × Value)}
    {Q : Value → Shared → Prop} {D U : Nat} (C : Cx A (D + 1) (U + 3)) (S : St w h F M)
    (ho : F a = some (kla_obj name qual params body scope [] pm c' ctv)) (hcd : ∃ oc vs t, F c' = some oc ∧ oc.data = .fields vs ∧ vs[1]? = some (.str qual t))
    (hbind : bindArgs (kla_fn name qual params body scope [] pm (.ref c') ctv) ⟨args, []⟩ = pure binds) (hloc : (binds.all fun x => decide (scope.names.lookup x.1 = some .local)) = true)
    (H : ∀ h' tk' L E', Sf w h' F M L binds → Cx (A.deeper (envOf qual scope L a (.ref c'))) D U →
      wpAny (model prog w) (A.deeper (envOf qual scope L a (.ref c'))) (eval body (envOf qual scope L a (.ref c'))) Q E' ⟨h', g, d, tk', os⟩)
    (hnd : decide (binds.map (·.1)).Nodup = true) (hco : scope.isCoroutine = false) (hgen : scope.isGenerator = false) (hk : scope.kind = .function)
    (hcell : ∀ x ∈ scope.names, x.2 ≠ .cell) : wpAny (model prog w) A (call (.ref a) args) Q E ⟨h, g, d, tk, os⟩ := by
  obtain ⟨mg, mb, h1, _⟩ := S.b.glob
  obtain ⟨oc, vs, t, c1, c2, c3⟩ := hcd
  refine wpAny_call (kla_callFunE (by have := C.dp; first | with_reducible assumption | decide | lia | omega) (S.f _ _ ho) rfl hco hgen rfl ⟨c', oc, vs, t, rfl, S.f _ _ c1, c2, c3⟩ ?_)
  rw [hbind]
  refine wpAny_pure (wpAny_newFunctionEnv hcell (locs hloc) (fun h₁ hns hsb => ⟨?_, ?_⟩) hk)
  · exact (h1 h fun a o e => S.f _ _ e).2.2.1.fresh _ hsb
  · refine kla_codeExpr (H h₁ _ h.objs.size _ ?_ C.deeper)
    obtain ⟨o2, es2, ep2, e2, d2, k2, f2⟩ := hns
    exact ⟨o2, S.newAt (fun b o e => hsb.extBut b o (Nat.ne_of_lt (Heap.lt_size e)) (Heap.get?_push_of_some _ e)) (Nat.le_refl _) e2, es2, ep2, d2, k2, fun x v hx => (f2 x).trans (lookup_rev (of_decide_eq_true hnd) hx)⟩
end
section
variable {w : World} {F : Fz} {f a : Addr}
/- a sign ahead of a match's first group -/
theorem lam_fn {x pre : List Nat} {b0 e0 : Int} {b e : Nat} {r : List Int} {qual ps : Str} {params : Arguments} {scope : Scope} {pm ctv : Value} {c' : Addr} {k1 k2 k3 : Nat} {p1 p2 p3 p4 p5 p6 p7 p8 : Pos}
    (hf : F f = some (kla_obj "<lambda>" qual params (.BinOp (.Constant (.str ps) k1 p1) .Add (.BoolOp .Or [.Call (.Attribute (.Name "_m" p2) "group" p3) [.Constant (.int 1) k2 p4] [] p5, .Constant (.str "") k3 p6] p7) p8) scope [] pm c' ctv))
    (hcd : ∃ oc vs t, F c' = some oc ∧ oc.data = .fields vs ∧ vs[1]? = some (.str qual t)) (hpre : ps = T pre) (hpl : pre.length ≤ 100) (hline : (p3.endLine == p5.line) = true)
    (hbind : ∀ v, bindArgs (kla_fn "<lambda>" qual params (.BinOp (.Constant (.str ps) k1 p1) .Add (.BoolOp .Or [.Call (.Attribute (.Name "_m" p2) "group" p3) [.Constant (.int 1) k2 p4] [] p5, .Constant (.str "") k3 p6] p7) p8) scope [] pm (.ref c') ctv) ⟨[v], []⟩ = (pure [("_m", v)] : Sem (List (Str × Value))))
    (hsc : scope = { kind := .function, names := [("_m", .local)], isGenerator := false, isCoroutine := false, more := [] })
    (hm : IsMatch F a x (b0 :: e0 :: (b : Int) :: (e : Int) :: r)) (hbe : b ≤ e) (he : e ≤ x.length) (hx : x.length ≤ 2 ^ 20) :
    Fn w (.ref f) [.ref a] F 1 9 (fun _ v => ∃ t, v = .str (T (pre ++ (x.drop b).take (e - b))) t) := by
  obtain ⟨v, pv, pos, lim, li, t, ho, ht⟩ := hm
  subst hsc hpre
  intro prog A M h g d tk os Q E C S H
  refine enterE (D := 0) (U := 6) (binds := [("_m", .ref a)]) C S hf hcd (hbind _) (by exact rfl) ?_ (by exact rfl) (by exact rfl) (by exact rfl) (by exact rfl) (by decide)
  intro h1 tk1 L E' S1 C1
  have o1 := S1.f ho
  have o2 := S1.f ht
  refine wpAny_BinOp ?_
  refine r_str ?_
  refine wpAny_Or2 ?_
  refine r_meth (v := .ref a) S1 (by exact rfl) ⟨_, o1, rfl⟩ (fun b hb => by cases hb; exact ⟨_, o1, rfl⟩) pa_mat slot_group type_group ?_ (hline := hline)
  refine r_cwB1 ?_
  refine r_int ?_
  have ex : (T x).cps.extract b e = ((x.drop b).take (e - b)).toArray := ext_take x b e
  refine wp_group1 o1 o2 ?_ ?_
  · rw [ex, List.size_toArray, List.length_take, sizeLine_eq]; first | with_reducible assumption | decide | lia | omega
  rw [ex]
  first | with_reducible refine PySem.P.truthy_str ?_ ?_ | refine PySem.P.truthy_str ?_ ?_
  · have : (⟨((x.drop b).take (e - b)).toArray⟩ : Str).length = ((x.drop b).take (e - b)).length := T_len _
    rw [this, List.length_take]; first | with_reducible assumption | decide | lia | omega
  generalize hy : (x.drop b).take (e - b) = y
  have hyl : y.length ≤ 2 ^ 20 := by rw [← hy, List.length_take, List.length_drop]; first | with_reducible assumption | decide | lia | omega
  have fin : ∀ (h' : Heap) (tk' : Nat) (u v : Tok), St w h' F M → wpAny (model prog w) (A.deeper (envOf qual { kind := .function, names := [("_m", .local)], isGenerator := false, isCoroutine := false, more := [] } L f (.ref c'))) (binaryOp .Add (.str (T pre) u) (.str (T y) v)) Q E' ⟨h', g, d, tk', os⟩ := by
    intro h' tk' u v S'
    with_reducible refine r_addS ?_ fun t' tk2 => ?_
    · rw [sizeLine_eq]; first | with_reducible assumption | decide | lia | omega
    exact H F _ _ _ (Le.refl _) S' ⟨t', by rw [hy]⟩
  by_cases q : y = []
  · subst q
    rw [if_neg (by decide)]
    refine r_str ?_
    exact fin _ _ _ _ S1.st
  · rw [if_pos ?_]
    · exact fin _ _ _ _ S1.st
    · have : (⟨y.toArray⟩ : Str).length = y.length := T_len _
      rw [this]
      simpa using q
end
end Mine
end
section
open PySem PySem.W PyProof.Rows PySem.Calls
set_option autoImplicit false
set_option maxRecDepth 100000
namespace Mine

section
variable {w : World} {h h' : Heap} {F F' : Fz} {M M' M1 M2 : List (Addr × Obj)} {a L : Addr} {o o' : Obj} {V V' : List (Str × Value)}
/- an object is let go -/
theorem St.drop (S : St w h F (M1 ++ (a, o) :: M2)) (k : Heap.ExtBut a h h') : St w h' F (M1 ++ M2) := by
  have nd := S.nd
  have hm : (a, o) ∈ M1 ++ (a, o) :: M2 := List.mem_append_right _ (.head _)
  have fa := S.fm _ hm
  have ta := S.t2 _ hm
  have sub : (M1 ++ M2).Sublist (M1 ++ (a, o) :: M2) := (List.Sublist.refl _).append (List.sublist_cons_self _ _)
  have ha : ∀ p ∈ M1 ++ M2, p.1 ≠ a := by
    intro p hp e
    rw [List.map_append, List.map_cons, List.nodup_append] at nd
    obtain ⟨_, n2, n3⟩ := nd
    rw [List.nodup_cons] at n2
    rcases List.mem_append.mp hp with hp | hp
    · exact n3 p.1 (List.mem_map.mpr ⟨p, hp, rfl⟩) a (.head _) e
    · exact n2.1 (List.mem_map.mpr ⟨p, hp, e⟩)
  refine ⟨S.b, fun b o1 e => k b o1 (fun q => ?_) (S.f _ _ e), fun p hp => k _ _ (ha p hp) (S.m p (sub.subset hp)), S.nd.sublist (sub.map _), fun p hp => S.fm p (sub.subset hp), S.t1, fun p hp => S.t2 p (sub.subset hp), S.t3.1.up (fun _ e => k _ _ (Ne.symm ta.1) e) (Le.refl _), S.t3.2.up (fun _ e => k _ _ (Ne.symm ta.2) e) (Le.refl _)⟩
  rw [q, fa] at e; cases e
theorem Sf.drop (S : Sf w h F (M1 ++ (a, o) :: M2) L V) (k : Heap.ExtBut a h h') : Sf w h' F (M1 ++ M2) L V :=
  let ⟨oL, s, n⟩ := S; ⟨oL, St.drop (M1 := (L, oL) :: M1) s k, n⟩
end

structure IterO (o : Obj) (l : Addr) (i : Nat) : Prop where
  cls : o.cls = .type "list_iterator"
  data : o.data = .fields #[.ref l, .int i 0]

theorem xl_for {M : Model} {A : Around} {E : Value → Shared → Prop} {s : Shared} {env : Env} {target iter : Expr} {body rest : List Stmt} {pos : Pos} {Q : Flow → Shared → Prop}
    (H : wpAny M A (eval iter env) (fun x s₁ => wpAny M A (pyIter x) (fun it s₂ =>
      codeAny M A (.forLoop target it body [] env) (fun r s' => match r with | .ok f => Then M A env rest Q E f s' | .error e => cameBackBy M A env E e s') s₂) E s₁) E s)
    (hs : ∀ x, foldedSetIterable iter env x = pure x := by intro _; rfl) : wpAny M A (execs (.For target iter body [] pos :: rest) env) Q E s :=
  wpAny_execs_cons (wpAny_For H hs)
theorem xl_while {M : Model} {A : Around} {E : Value → Shared → Prop} {s : Shared} {env : Env} {test : Expr} {body rest : List Stmt} {pos : Pos} {Q : Flow → Shared → Prop}
    (H : codeAny M A (.whileLoop test body [] env) (fun r s' => match r with | .ok f => Then M A env rest Q E f s' | .error e => cameBackBy M A env E e s') s) :
    wpAny M A (execs (.While test body [] pos :: rest) env) Q E s :=
  wpAny_execs_cons (wpAny_While H)

section
variable {prog : Program} {w : World} {A : Around} {E : Value → Shared → Prop} {h : Heap} {F : Fz} {M : List (Addr × Obj)} {L : Addr} {V : List (Str × Value)} {g : Array GenState} {d : Drawn} {tk : Nat} {os : OsState}
  {env : Env} {R : Result → Shared → Prop}

noncomputable abbrev Inv := Fz → List (Addr × Obj) → List (Str × Value) → Prop
/- a state that an invariant speaks of -/
noncomputable def At (w : World) (I : Inv) (L : Addr) (g : Array GenState) (d : Drawn) (os : OsState) (s : Shared) : Prop := ∃ F M V h tk, s = ⟨h, g, d, tk, os⟩ ∧ Sf w h F M L V ∧ I F M V
theorem At.mk {I : Inv} (S : Sf w h F M L V) (i : I F M V) : At w I L g d os ⟨h, g, d, tk, os⟩ := ⟨F, M, V, h, tk, rfl, S, i⟩

theorem loop_while {test : Expr} {body : List Stmt} {n : Nat} (I : Nat → Inv)
    (turn : ∀ n F M V h tk (E' : Value → Shared → Prop) (P : Flow → Shared → Prop), (∀ {s}, (∃ m, m < n ∧ At w (I m) L g d os s) → P .next s) → (∀ {s}, R (.ok .next) s → P .brk s) → ∀ (X : Shared → Prop), (∀ {s}, R (.ok .next) s → X s) → I n F M V → Sf w h F M L V →
      wpAny (model prog w) A (isTrue test env (eval test env)) (fun b s₂ => if b then wpAny (model prog w) A (execs body env) P E' s₂ else X s₂) E' ⟨h, g, d, tk, os⟩)
    (S : Sf w h F M L V) (i0 : I n F M V) : codeAny (model prog w) A (.whileLoop test body [] env) R ⟨h, g, d, tk, os⟩ := by
  refine codeAny_whileLoop (fun n s => At w (I n) L g d os s) ?_ n (At.mk S i0)
  rintro n s ⟨F, M, V, h, tk, rfl, S, i⟩
  refine wpAny_mono (turn n F M V h tk _ (fun f s₃ => match f with
            | .next | .cont => ∃ m, m < n ∧ At w (I m) L g d os s₃
            | .brk => R (.ok .next) s₃
            | .ret v => R (.ok (.ret v)) s₃) (fun q => q) (fun q => q) (R (.ok .next)) (fun q => q) i S) (fun b s₂ h₂ => ?_) fun _ _ e => e
  cases b with
  | true => exact h₂
  | false => exact wpAny_execs_nil h₂

theorem own_skip {target : Expr} {it : Addr} {v : Value} {o : Obj} {nm : String} {vs : Array Value} {Q : Unit → Shared → Prop} (ho : h.get? it = some o) (hc : o.cls = .type nm) (hd : o.data = .fields vs)
    (hn : ["enumerate", "zip", "dict_itemiterator", "dict_reverseitemiterator", "odict_iterator", "itertools.zip_longest", "itertools.pairwise"].contains nm = false) (H : Q () ⟨h, g, d, tk, os⟩) :
    wpAny (model prog w) A (letOwnedTupleGo target (.ref it) v) Q E ⟨h, g, d, tk, os⟩ := by
  have k : ∀ a, wpAny (model prog w) A (do
      let o ← load it
      match o.cls, o.data with
      | .type n, .fields vs =>
        if ["enumerate", "zip", "dict_itemiterator", "dict_reverseitemiterator", "odict_iterator", "itertools.zip_longest", "itertools.pairwise"].contains n && vs[0]? == some (rawInt a) then
          rule "for.unpacks-the-owned-tuple"
          updateField it 0 .none
      | _, _ => pure ()) Q E ⟨h, g, d, tk, os⟩ := by
    intro a
    refine wpAny_bind (wpAny_load ho ?_)
    rw [hc, hd]
    dsimp only
    rw [hn, Bool.false_and, if_neg Bool.false_ne_true]
    exact wpAny_pure H
  cases target <;> first
    | exact wpAny_pure H
    | (cases v <;> first | exact k _ | exact wpAny_pure H)

theorem loop_list {target : Expr} {body : List Stmt} {l : Addr} {vs : List Value} (I : Nat → Inv) (hh : A.handled = none)
    (hl : ∀ i F M V, I i F M V → (∃ n, F l = some (lstObj vs n)) ∨ ∃ n, (l, lstObj vs n) ∈ M)
    (turn : ∀ i x F M V N h tk (E' : Value → Shared → Prop) (P : Flow → Shared → Prop), (∀ {s}, (∃ F' M' V' h' tk', s = ⟨h', g, d, tk', os⟩ ∧ Sf w h' F' (M' ++ N) L V' ∧ I (i + 1) F' M' V') → P .next s) → vs[i]? = some x → I i F M V → Sf w h F (M ++ N) L V →
      wpAny (model prog w) A (assign target env x) (fun _ s₂ => wpAny (model prog w) A (execs body env) P E' s₂) E' ⟨h, g, d, tk, os⟩)
    (fin : ∀ F M V h tk, I vs.length F M V → Sf w h F M L V → R (.ok .next) ⟨h, g, d, tk, os⟩)
    (S : Sf w h F M L V) (i0 : I 0 F M V) :
    wpAny (model prog w) A (pyIter (.ref l)) (fun it s₂ => codeAny (model prog w) A (.forLoop target it body [] env) R s₂) E ⟨h, g, d, tk, os⟩ := by
  have isl : ∀ {i F M N V h}, I i F M V → Sf w h F (M ++ N) L V → h.IsList l vs.toArray := by
    intro i F M N V h hi S
    rcases hl i F M V hi with ⟨n, e⟩ | ⟨n, e⟩
    · exact ⟨_, S.f e, rfl, n, rfl⟩
    · exact ⟨_, S.m (List.mem_append_left _ e), rfl, n, rfl⟩
  have isl0 : h.IsList l vs.toArray := isl (N := []) i0 (by rw [List.append_nil]; exact S)
  refine wpAny_pyIter_list isl0 ?_
  have S1 := S.push (o := { cls := .type "list_iterator", data := .fields #[.ref l, .int 0 0] }) rfl
  have S2 := S1.perm (M' := M ++ [(h.objs.size, { cls := .type "list_iterator", data := .fields #[.ref l, .int 0 0] })]) (List.perm_append_singleton _ _).symm
  generalize h.objs.size = it at S2 ⊢
  refine codeAny_forLoop_any (fun k s => ∃ i F M V h tk o, k = vs.length + 1 - i ∧ i ≤ vs.length ∧ s = ⟨h, g, d, tk, os⟩ ∧ IterO o l i ∧ Sf w h F (M ++ [(it, o)]) L V ∧ I i F M V) ?_ (vs.length + 1 - 0)
    ⟨0, F, M, V, _, _, _, rfl, Nat.zero_le _, rfl, ⟨rfl, rfl⟩, S2, i0⟩
  rintro k s ⟨i, F, M, V, h, tk, o, rfl, hi, rfl, io, S, ii⟩
  have hit : h.IsListIter it l i := ⟨o, S.m (List.mem_append_right _ (.head _)), io.cls, io.data⟩
  cases hx : vs[i]? with
  | none =>
    have hlen : i = vs.length := by
      have := List.getElem?_eq_none_iff.mp hx
      first | with_reducible assumption | decide | lia | omega
    subst hlen
    refine wpAny_pyNext_list_end hh hit (isl ii S) (by simpa using hx) fun h' k' => ?_
    refine wpAny_execs_nil ?_
    have S' := S.drop k'
    rw [List.append_nil] at S'
    exact fin F M V h' tk ii S'
  | some x =>
    have hlen : i < vs.length := (List.getElem?_eq_some_iff.mp hx).1
    refine wpAny_pyNext_list_item hit (isl ii S) (by simpa using hx) fun h' k' sb => ?_
    obtain ⟨o', e', c', d'⟩ := k'
    have S' := S.upd sb.extBut e'
    refine own_skip e' c' d' (by decide) ?_
    refine wpAny_mono (turn i x F M V _ h' tk _ (fun f s₃ => match f with
          | .next | .cont => ∃ F' M' V' h' tk', s₃ = ⟨h', g, d, tk', os⟩ ∧ Sf w h' F' (M' ++ [(it, o')]) L V' ∧ I (i + 1) F' M' V'
          | .brk => R (.ok .next) s₃
          | .ret v => R (.ok (.ret v)) s₃) (fun q => q) hx ii S') (fun _ s₂ h₂ => wpAny_mono h₂ (fun f s₃ h₃ => ?_) fun _ _ e => e) fun _ _ e => e
    have go : (∃ F' M' V' h' tk', s₃ = ⟨h', g, d, tk', os⟩ ∧ Sf w h' F' (M' ++ [(it, o')]) L V' ∧ I (i + 1) F' M' V') → ∃ m, m < vs.length + 1 - i ∧ ∃ i F M V h tk o, m = vs.length + 1 - i ∧ i ≤ vs.length ∧ s₃ = ⟨h, g, d, tk, os⟩ ∧ IterO o l i ∧ Sf w h F (M ++ [(it, o)]) L V ∧ I i F M V := by
      rintro ⟨F', M', V', h', tk', rfl, S3, i3⟩
      exact ⟨vs.length + 1 - (i + 1), by first | with_reducible assumption | decide | lia | omega, i + 1, F', M', V', h', tk', o', rfl, hlen, rfl, ⟨c', d'⟩, S3, i3⟩
    cases f with
    | next => exact go h₃
    | cont => exact go h₃
    | brk => exact h₃
    | ret v => exact h₃
end
end Mine
end
section
open PySem PySem.W PyProof.Rows PySem.Calls
set_option autoImplicit false
set_option maxRecDepth 100000
namespace Mine

section
variable {prog : Program} {w : World} {A : Around} {E : Value → Shared → Prop} {h : Heap} {F : Fz} {M M1 M2 : List (Addr × Obj)} {L a l : Addr} {V : List (Str × Value)} {g : Array GenState} {d : Drawn} {tk : Nat} {os : OsState}
  {cn : Str} {cs : Scope} {cd : Value} {cl : List (Str × Addr)}
theorem wp_append {vs : List Value} {n : Nat} {x : Value} {Q : Value → Shared → Prop} (S : Sf w h F (M1 ++ (l, lstObj vs n) :: M2) L V) (hz : vs.length ≤ sizeLine)
    (H : ∀ h' n', Sf w h' F (M1 ++ (l, lstObj (vs ++ [x]) n') :: M2) L V → Q .none ⟨h', g, d, tk, os⟩) : wpAny (model prog w) A (call (.builtin "list.append") [.ref l, x]) Q E ⟨h, g, d, tk, os⟩ := by
  have e := S.m (List.mem_append_right _ (.head _))
  refine wpAny_call_entry PySem.F.slot_list_append (show (⟨h, g, d, tk, os⟩ : Shared).TypeIs (.ref l) "list" from ⟨_, e, rfl⟩) PySem.F.entry_list_append ?_ (PySem.F.args_list_append_2 _ _)
  show wpAny _ _ (updateSeq l (·.push x) >>= fun _ => ret .none) _ _ _
  refine wpAny_bind (upd_push e hz fun h' n' sb e' => wpAny_pure ⟨.none, rfl, H h' n' (S.upd sb.extBut e')⟩)
theorem r_lstrip {x : Str} {t : Tok} {Q : Value → Shared → Prop} (hsz : x.length ≤ sizeLine) (H : ∀ t' k, Q (.str (Txt.lstrip x) t') ⟨h, g, d, k, os⟩) :
    wpAny (model prog w) A (call (.builtin "str.lstrip") [.str x t]) Q E ⟨h, g, d, tk, os⟩ :=
  call_gives PySem.F.slot_str_lstrip (typeIs_str _ _ _) PySem.F.entry_str_lstrip (PySem.F.args_str_lstrip_1 _) (gives_str_lstrip x t) (post_val_or_made (fun _ => fits_stripped _ _ _ hsz) H)
theorem r_rstrip {x : Str} {t : Tok} {Q : Value → Shared → Prop} (hsz : x.length ≤ sizeLine) (H : ∀ t' k, Q (.str (Txt.rstrip x) t') ⟨h, g, d, k, os⟩) :
    wpAny (model prog w) A (call (.builtin "str.rstrip") [.str x t]) Q E ⟨h, g, d, tk, os⟩ :=
  call_gives PySem.F.slot_str_rstrip (typeIs_str _ _ _) PySem.F.entry_str_rstrip (PySem.F.args_str_rstrip_1 _) (gives_str_rstrip x t) (post_val_or_made (fun _ => fits_stripped _ _ _ hsz) H)
theorem r_startswith {x y : Str} {t u : Tok} {Q : Value → Shared → Prop} (H : Q (.bool (Txt.startswith x y)) ⟨h, g, d, tk, os⟩) :
    wpAny (model prog w) A (call (.builtin "str.startswith") [.str x t, .str y u]) Q E ⟨h, g, d, tk, os⟩ :=
  call_gives PySem.F.slot_str_startswith (typeIs_str _ _ _) PySem.F.entry_str_startswith (PySem.F.args_str_startswith_2 _ _) (gives_str_startswith x y t u) H
theorem truthy_mat {o : Obj} {Q : Bool → Shared → Prop} (ho : h.get? a = some o) (hc : o.cls = .type "re.Match") (H : Q true ⟨h, g, d, tk, os⟩) : wpAny (model prog w) A (truthy (.ref a)) Q E ⟨h, g, d, tk, os⟩ := by
  have hT : (⟨h, g, d, tk, os⟩ : Shared).TypeIs (.ref a) "re.Match" := ⟨_, ho, hc⟩
  have f1 := no_bool_mat
  have f2 := no_len_mat
  unfold truthy
  repeat (any_goals (first | assumption | wp_step))
/- a method of a built-in type, the base any expression -/
theorem r_methE {base : Expr} {name : Str} {apos pos : Pos} {args : List Expr} {T id : String} {env : Env} {s : Shared} {Q : Value → Shared → Prop} (pa : PlainAttrs T) (slot : Slot T name id) (hty : typeOf (.builtin id) = pure (.type "method_descriptor"))
    (H : wpAny (model prog w) A (eval base env) (fun ov s₁ => s₁.TypeIs ov T ∧ (∀ a, ov = .ref a → ∃ ob, s₁.heap.get? a = some ob ∧ ob.dict = none) ∧
      wpAny (model prog w) A (callWith pos (.builtin id) [ov] (backTo pos (starEach args env)) []) Q E s₁) E s)
    (hbase : attributeBase base name env (eval base env) = eval base env := by rfl)
    (hfew : ((backTo pos (starEach args env)).all (fun x => !x.1) && (backToKw pos (keywordEach [] env)).all (fun x => x.1.isSome)
      && decide (args.length + ([] : List Keyword).length + (if ([] : List Keyword).isEmpty then 0 else 1) < 30)) = true := by rfl)
    (hline : (apos.endLine == pos.line) = true := by rfl) : wpAny (model prog w) A (eval (.Call (.Attribute base name apos) args [] pos) env) Q E s :=
  wpAny_Call_method hbase hfew hline pa slot hty H
/- a method of a pattern that a global name means -/
theorem r_pat {x name : Str} {p apos pos : Pos} {args : List Expr} {id : String} {o : Obj} {Q : Value → Shared → Prop} (S : Sf w h F M L V) (e : nsIn (KF w) mainGlobals x = some (some (.ref a))) (ho : (KF w).lookup a = some o) (hc : o.cls = .type "re.Pattern") (hd : o.dict = none)
    (slot : Slot "re.Pattern" name id) (hty : typeOf (.builtin id) = pure (.type "method_descriptor"))
    (H : wpAny (model prog w) A (callWith pos (.builtin id) [.ref a] (backTo pos (starEach args (envX cn cs L l cd cl))) []) Q E ⟨h, g, d, tk, os⟩)
    (hk : cs.kind = .function := by rfl) (hl : (envX cn cs L l cd cl).kindOf x = some .globalImplicit := by rfl) (hdb : (x == ("__debug__" : Str)) = false := by decide)
    (hbase : attributeBase (.Name x p) name (envX cn cs L l cd cl) (eval (.Name x p) (envX cn cs L l cd cl)) = eval (.Name x p) (envX cn cs L l cd cl) := by rfl)
    (hfew : ((backTo pos (starEach args (envX cn cs L l cd cl))).all (fun x => !x.1) && (backToKw pos (keywordEach [] (envX cn cs L l cd cl))).all (fun x => x.1.isSome)
      && decide (args.length + ([] : List Keyword).length + (if ([] : List Keyword).isEmpty then 0 else 1) < 30)) = true := by rfl)
    (hline : (apos.endLine == pos.line) = true := by rfl) :
    wpAny (model prog w) A (eval (.Call (.Attribute (.Name x p) name apos) args [] pos) (envX cn cs L l cd cl)) Q E ⟨h, g, d, tk, os⟩ := by
  have hg := S.f (S.st.b.k _ _ ho)
  exact wpAny_Call_method hbase hfew hline pa_pat slot hty (r_global S e ⟨⟨_, hg, hc⟩, fun b hb => by cases hb; exact ⟨_, hg, hd⟩, H⟩ hk hl hdb)
/- a pair of two names' values, made and kept -/
theorem r_tup2 {e1 e2 : Expr} {k : Nat} {pos : Pos} {env : Env} {Q : Value → Shared → Prop} {s : Shared}
    (H : wpAny (model prog w) A (eval e1 env) (fun v s₁ => wpAny (model prog w) A (eval e2 env) (fun u s₂ => Q (.ref s₂.heap.objs.size) { s₂ with heap := s₂.heap.push (tupObj [v, u]) }) E s₁) E s)
    (hst : starEach [e1, e2] env = [(false, eval e1 env), (false, eval e2 env)] := by rfl) :
    wpAny (model prog w) A (eval (.Tuple [e1, e2] k pos) env) Q E s := by
  refine wpAny_Tuple_spliced ?_
  rw [hst]
  exact spliced_cons (wpAny_mono H (fun _ _ z => spliced_cons (wpAny_mono z (fun _ _ y => spliced_nil ⟨by show (2 : Nat) ≤ _; rw [sizeLine_eq]; first | with_reducible assumption | decide | lia | omega, y⟩) fun _ _ e => e)) fun _ _ e => e)
theorem r_list0 {pos : Pos} {env : Env} {Q : Value → Shared → Prop} {s : Shared} (H : Q (.ref s.heap.objs.size) { s with heap := s.heap.push (lstObj [] 0) }) : wpAny (model prog w) A (eval (.List [] pos) env) Q E s := by
  refine wpAny_List_spliced ?_
  exact spliced_nil ⟨Nat.zero_le _, H⟩
theorem r_list1 {e1 : Expr} {pos : Pos} {env : Env} {Q : Value → Shared → Prop} {s : Shared}
    (H : wpAny (model prog w) A (eval e1 env) (fun v s₁ => Q (.ref s₁.heap.objs.size) { s₁ with heap := s₁.heap.push (lstObj [v] 0) }) E s)
    (hst : starEach [e1] env = [(false, eval e1 env)] := by rfl) : wpAny (model prog w) A (eval (.List [e1] pos) env) Q E s := by
  refine wpAny_List_spliced ?_
  rw [hst]
  exact spliced_cons (wpAny_mono H (fun _ _ z => spliced_nil ⟨by show (1 : Nat) ≤ _; rw [sizeLine_eq]; first | with_reducible assumption | decide | lia | omega, z⟩) fun _ _ e => e)
end

section
variable {w : World} {F : Fz}
theorem pat_tok (B : Base w F) : PatAt F 62 cTok 1 := ⟨_, _, _, _, _, _, _, B.k _ _ (by exact rfl), B.k _ _ (by exact rfl), by simp only [List.map_toArray, List.map, cTok]; rfl⟩
theorem pat_quo (B : Base w F) : PatAt F 67 cQuo 1 := ⟨_, _, _, _, _, _, _, B.k _ _ (by exact rfl), B.k _ _ (by exact rfl), by simp only [List.map_toArray, List.map, cQuo]; rfl⟩
theorem pat_val (B : Base w F) : PatAt F 72 cVal 1 := ⟨_, _, _, _, _, _, _, B.k _ _ (by exact rfl), B.k _ _ (by exact rfl), by simp only [List.map_toArray, List.map, cVal]; rfl⟩
theorem pat_esc (B : Base w F) : PatAt F 77 cEsc 1 := ⟨_, _, _, _, _, _, _, B.k _ _ (by exact rfl), B.k _ _ (by exact rfl), by simp only [List.map_toArray, List.map, cEsc]; rfl⟩
theorem pat_twin (B : Base w F) : PatAt F 50 cTwin 0 := ⟨_, _, _, _, _, _, _, B.k _ _ (by exact rfl), B.k _ _ (by exact rfl), by simp only [List.map_toArray, List.map, cTwin]; rfl⟩
theorem pat_jtok (B : Base w F) : PatAt F 89 cJtok 0 := ⟨_, _, _, _, _, _, _, B.k _ _ (by exact rfl), B.k _ _ (by exact rfl), by simp only [List.map_toArray, List.map, cJtok]; rfl⟩
theorem pat_jesc (B : Base w F) : PatAt F 94 cJesc 1 := ⟨_, _, _, _, _, _, _, B.k _ _ (by exact rfl), B.k _ _ (by exact rfl), by simp only [List.map_toArray, List.map, cJesc]; rfl⟩
end

/- texts and white signs -/
theorem lstrip_T {sp r : List Nat} {c : Nat} (hs : ∀ x ∈ sp, Unicode.isSpace x = true) (hc : Unicode.isSpace c = false) : Txt.lstrip (T (sp ++ c :: r)) = T (c :: r) := by
  unfold Txt.lstrip
  rw [PyProof.Rows.stripBy_eq]
  have e : stripLo Unicode.isSpace true (T (sp ++ c :: r)) = sp.length := by
    show ((T (sp ++ c :: r)).cps.toList.takeWhile Unicode.isSpace).length = sp.length
    exact tw_app (r := r) hs hc
  rw [e]
  show (⟨(sp ++ c :: r).toArray.extract sp.length (T (sp ++ c :: r)).length⟩ : Str) = _
  rw [ext_take, T_len]
  simp
theorem rstrip_T {l : List Nat} {c : Nat} (hc : Unicode.isSpace c = false) : Txt.rstrip (T (l ++ [c])) = T (l ++ [c]) := by
  unfold Txt.rstrip
  rw [PyProof.Rows.stripBy_eq]
  obtain ⟨h0, h1, h2, h3⟩ := hi_facts Unicode.isSpace (T (l ++ [c])) 0 (Nat.zero_le _)
  rw [T_len, List.length_append, List.length_singleton] at h1
  have e : stripHi Unicode.isSpace true (T (l ++ [c])) 0 = l.length + 1 := by
    apply Decidable.byContradiction
    intro q
    have := h2 l.length (by first | with_reducible assumption | decide | lia | omega) (by rw [T_len]; simp)
    have g : (T (l ++ [c])).cps.getD l.length 0 = c := by simp [T]
    rw [g, hc] at this
    cases this
  show Builtin.Str.strSub _ 0 (stripHi _ _ _ 0) = _
  rw [e]
  show (⟨(l ++ [c]).toArray.extract 0 (l.length + 1)⟩ : Str) = _
  rw [ext_take, List.drop_zero, List.take_of_length_le (by simp)]
theorem startswith_T {c : Nat} {l : List Nat} {k : Nat} : Txt.startswith (T (c :: l)) (T [k]) = (c == k) := by
  unfold Txt.startswith Builtin.Str.subAt
  have : (T (c :: l)).cps.extract 0 (0 + (T [k]).length) = #[c] := by
    show (c :: l).toArray.extract 0 1 = _
    rw [ext_take]; simp
  rw [this, T_len, T_len]
  have e : (#[c] == (T [k]).cps) = (c == k) := by
    show (#[c] == #[k]) = _
    simp
  rw [e]
  simp
end Mine
end
section
open PySem PySem.W PyProof.Rows PySem.Calls
set_option autoImplicit false
set_option maxRecDepth 100000
namespace Mine

/- a text with a backslash ahead of each mark and each backslash -/
noncomputable def esc : List Nat → List Nat
  | [] => []
  | c :: r => if fJesc c then 92 :: c :: esc r else c :: esc r
theorem esc_nil : esc [] = [] := rfl
theorem esc_plain {l : List Nat} (h : ∀ a ∈ l, fJesc a = false) : ∀ r, esc (l ++ r) = l ++ esc r := by
  intro r
  induction l with
  | nil => rfl
  | cons a l ih =>
    show (if fJesc a then _ else _) = _
    rw [h a (.head _), if_neg Bool.false_ne_true]
    show a :: esc (l ++ r) = _
    rw [ih fun b hb => h b (.tail _ hb)]; rfl
theorem esc_special {c : Nat} {r : List Nat} (h : fJesc c = true) : esc (c :: r) = 92 :: c :: esc r := by
  show (if fJesc c then _ else _) = _
  rw [if_pos h]
/- the first sign that is told -/
theorem split_first (f : Nat → Bool) : ∀ l : List Nat, (∀ a ∈ l, f a = false) ∨ ∃ p c r, l = p ++ c :: r ∧ (∀ a ∈ p, f a = false) ∧ f c = true := by
  intro l
  induction l with
  | nil => exact .inl fun _ h => nomatch h
  | cons a l ih =>
    cases q : f a with
    | true => exact .inr ⟨[], a, l, rfl, (fun _ h => nomatch h), q⟩
    | false =>
      rcases ih with h | ⟨p, c, r, e, hp, hc⟩
      · exact .inl fun b hb => by rcases List.mem_cons.mp hb with rfl | hb; exact q; exact h b hb
      · exact .inr ⟨a :: p, c, r, by rw [e]; rfl, (fun b hb => by rcases List.mem_cons.mp hb with rfl | hb; exact q; exact hp b hb), hc⟩
theorem fJesc_of {c : Nat} (h : fJesc c = true) : c = 34 ∨ c = 92 := by
  unfold fJesc at h
  rcases Bool.or_eq_true_iff.mp h with h | h
  · exact .inl (beq_iff_eq.mp h)
  · exact .inr (beq_iff_eq.mp h)
theorem fJesc_not {c : Nat} (h : fJesc c = false) : c ≠ 34 ∧ c ≠ 92 := by
  unfold fJesc at h
  obtain ⟨h1, h2⟩ := Bool.or_eq_false_iff.mp h
  exact ⟨beq_eq_false_iff_ne.mp h1, beq_eq_false_iff_ne.mp h2⟩
theorem esc_segs : ∀ (n : Nat) (v : List Nat), v.length ≤ n → ∃ p0 segs, SegOk segs ∧ (∀ c ∈ p0, fPlain c = true) ∧ esc v = p0 ++ segRaw segs := by
  intro n
  have pl : ∀ {l : List Nat}, (∀ a ∈ l, fJesc a = false) → ∀ c ∈ l, fPlain c = true := by
    intro l h c hc
    obtain ⟨h1, h2⟩ := fJesc_not (h c hc)
    unfold fPlain
    rw [beq_eq_false_iff_ne.mpr h1, beq_eq_false_iff_ne.mpr h2]; rfl
  induction n with
  | zero => intro v hv; exact ⟨[], [], (fun _ h => nomatch h), (fun _ h => nomatch h), by rw [List.eq_nil_of_length_eq_zero (show v.length = 0 by first | with_reducible assumption | decide | lia | omega)]; rfl⟩
  | succ n ih =>
    intro v hv
    rcases split_first fJesc v with h | ⟨p, c, r, rfl, hp, hc⟩
    · refine ⟨v, [], (fun _ h => nomatch h), pl h, ?_⟩
      have := esc_plain h []
      rw [List.append_nil] at this
      rw [this]; rfl
    · rw [List.length_append, List.length_cons] at hv
      obtain ⟨p1, segs, s1, s2, s3⟩ := ih r (by first | with_reducible assumption | decide | lia | omega)
      refine ⟨p, (c, p1) :: segs, ?_, pl hp, ?_⟩
      · intro s hs
        rcases List.mem_cons.mp hs with rfl | hs
        · exact ⟨by rcases fJesc_of hc with rfl | rfl <;> (intro q; cases q), s2⟩
        · exact s1 s hs
      · rw [esc_plain hp, esc_special hc, s3]
        show _ = p ++ ((92 :: c :: p1) ++ segRaw segs)
        rfl
theorem esc_len : ∀ v : List Nat, v.length ≤ (esc v).length ∧ (esc v).length ≤ 2 * v.length := by
  intro v
  induction v with
  | nil => exact ⟨Nat.le_refl _, Nat.le_refl _⟩
  | cons c r ih =>
    have : esc (c :: r) = if fJesc c then 92 :: c :: esc r else c :: esc r := rfl
    rw [this]
    split <;> simp only [List.length_cons] <;> first | with_reducible assumption | decide | lia | omega

/- what the two replacements make -/
theorem subs_esc {x : List Nat} (hx : x.length ≤ 2 ^ 22) : ∀ (n i : Nat) (v : List Nat), v.length ≤ n → x.drop i = esc v → i ≤ x.length → ∃ ps, Subs cEsc x (fun y => [] ++ y) i ps ∧ ps.flatten = v := by
  intro n
  have fin : ∀ (i : Nat) (v : List Nat), (∀ a ∈ v, fJesc a = false) → x.drop i = esc v → i ≤ x.length → ∃ ps, Subs cEsc x (fun y => [] ++ y) i ps ∧ ps.flatten = v := by
    intro i v h hd hi
    have e := esc_plain h []
    rw [List.append_nil] at e
    have e2 : x.drop i = v := by rw [hd, e]; exact List.append_nil _
    refine ⟨_, .done (esc_no hi fun a ha => ?_) (by first | with_reducible assumption | decide | lia | omega) hi, ?_⟩
    · rw [e2] at ha; exact (fJesc_not (h a ha)).2
    · split
      · rw [e2]; simp
      · rw [← e2, List.drop_of_length_le (by first | with_reducible assumption | decide | lia | omega)]; rfl
  induction n with
  | zero =>
    intro i v hv hd hi
    rw [List.eq_nil_of_length_eq_zero (show v.length = 0 by first | with_reducible assumption | decide | lia | omega)] at hd ⊢
    exact fin i [] (fun _ h => nomatch h) hd hi
  | succ n ih =>
    intro i v hv hd hi
    rcases split_first fJesc v with h | ⟨p, c, r, rfl, hp, hc⟩
    · exact fin i v h hd hi
    · rw [esc_plain hp, esc_special hc] at hd
      have hl := congrArg List.length hd
      rw [List.length_drop, List.length_append, List.length_cons, List.length_cons] at hl
      have d1 : x.drop (i + p.length + 2) = esc r := by
        have : x.drop (i + p.length + 2) = (x.drop i).drop (p.length + 2) := by rw [List.drop_drop]; congr 1
        rw [this, hd, List.drop_append]; simp
      have d2 : (x.drop (i + p.length + 1)).take 1 = [c] := by
        have : x.drop (i + p.length + 1) = (x.drop i).drop (p.length + 1) := by rw [List.drop_drop]; congr 1
        rw [this, hd, List.drop_append, List.drop_of_length_le (show p.length ≤ p.length + 1 by first | with_reducible assumption | decide | lia | omega), show p.length + 1 - p.length = 1 by first | with_reducible assumption | decide | lia | omega]; rfl
      rw [List.length_append, List.length_cons] at hv
      obtain ⟨ps, s1, s2⟩ := ih (i + p.length + 2) r (by first | with_reducible assumption | decide | lia | omega) d1 (by first | with_reducible assumption | decide | lia | omega)
      have F := esc_yes (x := x) (pl := p) (rest := esc r) (c := c) (p := i) (by rcases fJesc_of hc with rfl | rfl <;> decide) (fun a ha => (fJesc_not (hp a ha)).2) hd
      refine ⟨_, .step F (by first | with_reducible assumption | decide | lia | omega) (Nat.le_add_right _ _) (by first | with_reducible assumption | decide | lia | omega) (by first | with_reducible assumption | decide | lia | omega) (by first | with_reducible assumption | decide | lia | omega) (by first | with_reducible assumption | decide | lia | omega) s1, ?_⟩
      have e1 : i + p.length + 2 - (i + p.length + 1) = 1 := by first | with_reducible assumption | decide | lia | omega
      rw [e1, d2]
      rw [List.flatten_append, List.flatten_cons, s2]
      have e3 : (if i < i + p.length then [(x.drop i).take (i + p.length - i)] else []).flatten = p := by
        split
        · rw [show i + p.length - i = p.length by first | with_reducible assumption | decide | lia | omega, hd]; simp
        · have : p = [] := List.eq_nil_of_length_eq_zero (by first | with_reducible assumption | decide | lia | omega)
          subst this; rfl
      rw [e3]; rfl
theorem subs_jesc {x : List Nat} : ∀ (n i : Nat) (v : List Nat), v.length ≤ n → x.drop i = v → i ≤ x.length → ∃ ps, Subs cJesc x (fun y => [92] ++ y) i ps ∧ ps.flatten = esc v := by
  intro n
  have fin : ∀ (i : Nat) (v : List Nat), (∀ a ∈ v, fJesc a = false) → x.drop i = v → i ≤ x.length → ∃ ps, Subs cJesc x (fun y => [92] ++ y) i ps ∧ ps.flatten = esc v := by
    intro i v h hd hi
    have e := esc_plain h []
    rw [List.append_nil] at e
    refine ⟨_, .done (je_no hi fun a ha => ?_) (by first | with_reducible assumption | decide | lia | omega) hi, ?_⟩
    · rw [hd] at ha; exact h a ha
    · rw [e]
      split
      · rw [hd]; simp [esc_nil]
      · rw [← hd, List.drop_of_length_le (by first | with_reducible assumption | decide | lia | omega)]; rfl
  induction n with
  | zero =>
    intro i v hv hd hi
    rw [List.eq_nil_of_length_eq_zero (show v.length = 0 by first | with_reducible assumption | decide | lia | omega)] at hd ⊢
    exact fin i [] (fun _ h => nomatch h) hd hi
  | succ n ih =>
    intro i v hv hd hi
    rcases split_first fJesc v with h | ⟨p, c, r, rfl, hp, hc⟩
    · exact fin i v h hd hi
    · have hl := congrArg List.length hd
      rw [List.length_drop, List.length_append, List.length_cons] at hl
      have d1 : x.drop (i + p.length + 1) = r := by
        have : x.drop (i + p.length + 1) = (x.drop i).drop (p.length + 1) := by rw [List.drop_drop]; congr 1
        rw [this, hd, List.drop_append]; simp
      have d2 : (x.drop (i + p.length)).take 1 = [c] := by
        have : x.drop (i + p.length) = (x.drop i).drop p.length := by rw [List.drop_drop]
        rw [this, hd, List.drop_append]; simp
      rw [List.length_append, List.length_cons] at hv
      obtain ⟨ps, s1, s2⟩ := ih (i + p.length + 1) r (by first | with_reducible assumption | decide | lia | omega) d1 (by first | with_reducible assumption | decide | lia | omega)
      have F := je_yes (x := x) (pl := p) (rest := r) (c := c) (p := i) hp hc hd
      refine ⟨_, .step F (by first | with_reducible assumption | decide | lia | omega) (Nat.le_add_right _ _) (by first | with_reducible assumption | decide | lia | omega) (by first | with_reducible assumption | decide | lia | omega) (by first | with_reducible assumption | decide | lia | omega) (by first | with_reducible assumption | decide | lia | omega) s1, ?_⟩
      have e1 : i + p.length + 1 - (i + p.length) = 1 := by first | with_reducible assumption | decide | lia | omega
      rw [e1, d2]
      rw [List.flatten_append, List.flatten_cons, s2, esc_plain hp, esc_special hc]
      have e3 : (if i < i + p.length then [(x.drop i).take (i + p.length - i)] else []).flatten = p := by
        split
        · rw [show i + p.length - i = p.length by first | with_reducible assumption | decide | lia | omega, hd]; simp
        · have : p = [] := List.eq_nil_of_length_eq_zero (by first | with_reducible assumption | decide | lia | omega)
          subst this; rfl
      rw [e3]; rfl

/- a word: its name, and its value if it has one -/
noncomputable abbrev Word := List Nat × Option (List Nat)
/- a value is read -/
inductive Val : List Nat → List Nat → Option (List Nat) → Prop
  | quo {v rest : List Nat} : Val (61 :: 34 :: (esc v ++ 34 :: rest)) rest (some v)
  | plain {v rest : List Nat} : v ≠ [] → v.head? ≠ some 34 → (∀ a ∈ v, fVal a = true) → (∀ a, rest.head? = some a → fVal a = false) → Val (61 :: (v ++ rest)) rest (some v)
  | none {rest : List Nat} : (∀ a, rest.head? = some a → a ≠ 61 ∧ fSp a = false) → Val rest rest none
/- a turn of the reading -/
inductive Step : List Nat → List Word → List (List Word) → List Nat → List Word → List (List Word) → Prop
  | word {sp k r rest : List Nat} {o : Option (List Nat)} {ps : List Word} {rs : List (List Word)} : (∀ a ∈ sp, fSp a = true) → k ≠ [] → (∀ a ∈ k, fTok a = true) → (∀ a ∈ k, fSp a = false) → (∀ a, r.head? = some a → fTok a = false) → Val r rest o →
      Step (sp ++ (k ++ r)) ps rs rest (ps ++ [(k, o)]) rs
  | comma {sp rest : List Nat} {ps : List Word} {rs : List (List Word)} : sp = [] ∨ sp = [32] → Step (sp ++ 44 :: rest) ps rs rest [] (if ps = [] then rs else rs ++ [ps])
  | junk {j rest : List Nat} {ps : List Word} {rs : List (List Word)} : (∀ a ∈ j, fTwin a = true) → (∀ a, rest.head? = some a → fTwin a = false) → Step (59 :: j ++ rest) ps rs rest ps rs
/- the reading of a text -/
inductive Run : List Nat → List Word → List (List Word) → List (List Word) → Prop
  | nil {ps : List Word} {rs : List (List Word)} : Run [] ps rs (if ps = [] then rs else rs ++ [ps])
  | cons {x y : List Nat} {ps qs : List Word} {rs ss out : List (List Word)} : Step x ps rs y qs ss → Run y qs ss out → Run x ps rs out
theorem Val.len {x y : List Nat} {o : Option (List Nat)} (h : Val x y o) : y.length ≤ x.length := by
  cases h <;> simp <;> first | with_reducible assumption | decide | lia | omega
theorem Step.len {x y : List Nat} {ps qs : List Word} {rs ss : List (List Word)} (h : Step x ps rs y qs ss) : y.length < x.length := by
  cases h with
  | word h1 h2 h3 h4 h5 h6 =>
    have := h6.len
    have := List.length_pos_iff.mpr h2
    rw [List.length_append, List.length_append]; first | with_reducible assumption | decide | lia | omega
  | comma h => rw [List.length_append, List.length_cons]; first | with_reducible assumption | decide | lia | omega
  | junk h => rw [List.cons_append, List.length_cons, List.length_append]; first | with_reducible assumption | decide | lia | omega
/- the reading of texts -/
inductive Runs : List (List Nat) → List (List Word) → List (List Word) → Prop
  | nil {rs : List (List Word)} : Runs [] rs rs
  | cons {x : List Nat} {xs : List (List Nat)} {rs ss out : List (List Word)} : Run x [] rs ss → Runs xs ss out → Runs (x :: xs) rs out
end Mine
end
section
open PySem PySem.W PyProof.Rows PySem.Calls
set_option autoImplicit false
set_option maxRecDepth 100000
namespace Mine

inductive All2 {α β : Type} (R : α → β → Prop) : List α → List β → Prop
  | nil : All2 R [] []
  | cons {a : α} {b : β} {as : List α} {bs : List β} : R a b → All2 R as bs → All2 R (a :: as) (b :: bs)
section
variable {α β : Type} {R R' : α → β → Prop} {as as' : List α} {bs bs' : List β}
theorem All2.up (h : All2 R as bs) (k : ∀ a b, R a b → R' a b) : All2 R' as bs := by
  induction h with
  | nil => exact .nil
  | cons h _ ih => exact .cons (k _ _ h) ih
theorem All2.app (h : All2 R as bs) (h' : All2 R as' bs') : All2 R (as ++ as') (bs ++ bs') := by
  induction h with
  | nil => exact h'
  | cons h _ ih => exact .cons h ih
theorem All2.snoc {a : α} {b : β} (h : All2 R as bs) (h' : R a b) : All2 R (as ++ [a]) (bs ++ [b]) := h.app (.cons h' .nil)
theorem All2.len (h : All2 R as bs) : as.length = bs.length := by
  induction h with
  | nil => rfl
  | cons _ _ ih => rw [List.length_cons, List.length_cons, ih]
theorem All2.get (h : All2 R as bs) {i : Nat} {a : α} (e : as[i]? = some a) : ∃ b, bs[i]? = some b ∧ R a b := by
  induction h generalizing i with
  | nil => simp at e
  | cons h _ ih =>
    cases i with
    | zero => rw [List.getElem?_cons_zero] at e ⊢; cases e; exact ⟨_, rfl, h⟩
    | succ i => rw [List.getElem?_cons_succ] at e ⊢; exact ih e
theorem All2.get' (h : All2 R as bs) {i : Nat} {b : β} (e : bs[i]? = some b) : ∃ a, as[i]? = some a ∧ R a b := by
  induction h generalizing i with
  | nil => simp at e
  | cons h _ ih =>
    cases i with
    | zero => rw [List.getElem?_cons_zero] at e ⊢; cases e; exact ⟨_, rfl, h⟩
    | succ i => rw [List.getElem?_cons_succ] at e ⊢; exact ih e
theorem All2.take (h : All2 R as bs) (n : Nat) : All2 R (as.take n) (bs.take n) := by
  induction h generalizing n with
  | nil => simp only [List.take_nil]; exact .nil
  | cons h _ ih =>
    cases n with
    | zero => exact .nil
    | succ n => exact .cons h (ih n)
theorem All2.drop (h : All2 R as bs) (n : Nat) : All2 R (as.drop n) (bs.drop n) := by
  induction h generalizing n with
  | nil => simp only [List.drop_nil]; exact .nil
  | cons h q ih =>
    cases n with
    | zero => exact .cons h q
    | succ n => exact ih n
end

noncomputable abbrev Has (V : List (Str × Value)) (x : Str) (v : Value) : Prop := V.lookup x = some v
/- a value or none -/
noncomputable def valOf (o : Option (List Nat)) (v : Value) : Prop := match o with | none => v = .none | some x => ∃ t, v = .str (T x) t
noncomputable def PairAt (F : Fz) (v : Value) (p : Word) : Prop := ∃ a t u, v = .ref a ∧ valOf p.2 u ∧ F a = some (tupObj [.str (T p.1) t, u])
noncomputable def PairsAt (F : Fz) (v : Value) (ps : List Word) : Prop := ∃ a vs n, v = .ref a ∧ F a = some (lstObj vs n) ∧ All2 (PairAt F) vs ps
noncomputable def ListsAt (F : Fz) (v : Value) (ls : List (List Word)) : Prop := ∃ a vs n, v = .ref a ∧ F a = some (lstObj vs n) ∧ All2 (PairsAt F) vs ls
noncomputable def textOf (v : Value) (x : List Nat) : Prop := ∃ t, v = .str (T x) t
noncomputable def TextsAt (F : Fz) (v : Value) (xs : List (List Nat)) : Prop := ∃ a vs n, v = .ref a ∧ F a = some (lstObj vs n) ∧ All2 textOf vs xs
section
variable {F F' : Fz} {v : Value}
theorem PairAt.up {p : Word} (h : PairAt F v p) (l : Le F F') : PairAt F' v p := let ⟨a, t, u, e, q, f⟩ := h; ⟨a, t, u, e, q, l _ _ f⟩
theorem PairsAt.up {ps : List Word} (h : PairsAt F v ps) (l : Le F F') : PairsAt F' v ps := let ⟨a, vs, n, e, f, q⟩ := h; ⟨a, vs, n, e, l _ _ f, q.up fun _ _ x => x.up l⟩
theorem ListsAt.up {ls : List (List Word)} (h : ListsAt F v ls) (l : Le F F') : ListsAt F' v ls := let ⟨a, vs, n, e, f, q⟩ := h; ⟨a, vs, n, e, l _ _ f, q.up fun _ _ x => x.up l⟩
theorem TextsAt.up {xs : List (List Nat)} (h : TextsAt F v xs) (l : Le F F') : TextsAt F' v xs := let ⟨a, vs, n, e, f, q⟩ := h; ⟨a, vs, n, e, l _ _ f, q⟩
end

theorem Fn.useL {β : Type} {prog : Program} {w : World} {A : Around} {E : Value → Shared → Prop} {h : Heap} {F : Fz} {M : List (Addr × Obj)} {L : Addr} {V : List (Str × Value)} {g : Array GenState} {d : Drawn} {tk : Nat} {os : OsState}
    {f : Value} {args : List Value} {D U : Nat} {K : Fz → Value → β → Prop} {xs : List β} {Q : Value → Shared → Prop} (R : Fn w f args F D U (fun F' v => ∃ a vs n, v = .ref a ∧ F' a = some (lstObj vs n) ∧ All2 (K F') vs xs)) (C : Cx A D U) (S : Sf w h F M L V)
    (H : ∀ F' h' tk' a vs n, Le F F' → Sf w h' F' M L V → F' a = some (lstObj vs n) → All2 (K F') vs xs → Q (.ref a) ⟨h', g, d, tk', os⟩) : wpAny (model prog w) A (call f args) Q E ⟨h, g, d, tk, os⟩ :=
  Fn.use R C S fun F' h' tk' v le S' p => by obtain ⟨a, vs, n, rfl, q1, q2⟩ := p; exact H F' h' tk' a vs n le S' q1 q2
section
variable {M : Model} {A : Around} {E : Value → Shared → Prop} {s : Shared} {env : Env}
/- a statement with a branch, and what holds behind it -/
theorem x_ifJ {test : Expr} {body orelse rest : List Stmt} {pos : Pos} {Q : Flow → Shared → Prop} (J : Shared → Prop)
    (H : ∀ P : Shared → Prop, (∀ {s}, J s → P s) → wpAny M A (isTrue test env (eval test env)) (fun b s₁ => if b then wpAny M A (execs body env) (fun f s => f = .next ∧ P s) E s₁ else wpAny M A (execs orelse env) (fun f s => f = .next ∧ P s) E s₁) E s)
    (H2 : ∀ s, J s → wpAny M A (execs rest env) Q E s) : wpAny M A (execs (.If test body orelse pos :: rest) env) Q E s := by
  refine x_if (wpAny_mono (H J (fun j => j)) (fun b s₁ h₁ => ?_) fun _ _ e => e)
  cases b with
  | true => exact wpAny_mono h₁ (fun f s h => by obtain ⟨rfl, j⟩ := h; exact H2 s j) fun _ _ e => e
  | false => exact wpAny_mono h₁ (fun f s h => by obtain ⟨rfl, j⟩ := h; exact H2 s j) fun _ _ e => e
theorem isT {e : Expr} {whole : Sem Value} {Q : Bool → Shared → Prop} (h : wpAny M A whole (fun v s₁ => wpAny M A (truthy v) Q E s₁) E s)
    (he : isTrue e env whole = (do let v ← whole; standAt e.pos; holding [v] (truthy v)) := by rfl) : wpAny M A (isTrue e env whole) Q E s := isTrue_plain h he
theorem r_call {id : Str} {p pos : Pos} {args : List Expr} {Q : Value → Shared → Prop}
    (h : wpAny M A (eval (.Name id p) env) (fun f s₁ => wpAny M A (callWith pos f [] (backTo pos (starEach args env)) []) Q E s₁) E s) :
    wpAny M A (eval (.Call (.Name id p) args [] pos) env) Q E s := wpAny_Call_Name_kw h
end
section
variable {prog : Program} {w : World} {A : Around} {E : Value → Shared → Prop} {h : Heap} {g : Array GenState} {d : Drawn} {tk : Nat} {os : OsState}
theorem truthy_T {x : List Nat} {t : Tok} {Q : Bool → Shared → Prop} (hx : x.length ≤ 2 ^ 24) (H : ∀ tk', Q (!x.isEmpty) ⟨h, g, d, tk', os⟩) : wpAny (model prog w) A (truthy (.str (T x) t)) Q E ⟨h, g, d, tk, os⟩ := by
  refine PySem.P.truthy_str (by rw [T_len]; first | with_reducible assumption | decide | lia | omega) ?_
  have : (((T x).length : Int) != 0) = !x.isEmpty := by
    rw [T_len]
    cases x with
    | nil => rfl
    | cons a x => show ((↑(x.length + 1) : Int) != 0) = true; simp; first | with_reducible assumption | decide | lia | omega
  rw [this]
  exact H _
theorem truthy_lst {l : Addr} {vs : List Value} {n : Nat} {Q : Bool → Shared → Prop} (ho : h.get? l = some (lstObj vs n)) (hv : vs.length ≤ 2 ^ 24) (H : ∀ tk', Q (!vs.isEmpty) ⟨h, g, d, tk', os⟩) :
    wpAny (model prog w) A (truthy (.ref l)) Q E ⟨h, g, d, tk, os⟩ := by
  refine wpAny_truthy_list (items := vs.toArray) ⟨_, ho, rfl, n, rfl⟩ (by rw [List.size_toArray]; first | with_reducible assumption | decide | lia | omega) ?_
  have : vs.toArray.isEmpty = vs.isEmpty := by cases vs <;> simp
  rw [this]
  exact H _
theorem truthy_b {b : Bool} {Q : Bool → Shared → Prop} {s : Shared} (H : Q b s) : wpAny (model prog w) A (truthy (.bool b)) Q E s := wpAny_truthy_bool H
end

section
variable {w : World} {F : Fz}
theorem unmatched_fn {a : Addr} {x : List Nat} {b e : Nat} {r : List Int} (hm : IsMatch F a x ((b : Int) :: (e : Int) :: r)) (hbe : b ≤ e) (he : e ≤ x.length) (hx : x.length ≤ 2 ^ 20) :
    Fn w (.ref 57) [.ref a] F 2 10 (fun _ v => ∃ t, v = .str (T (x.take b ++ x.drop e)) t) := by
  obtain ⟨v, pv, pos, lim, li, t, ho, ht⟩ := hm
  intro prog A M h g d tk os Q E C S H
  refine enter (D := 1) (U := 7) (binds := [("match", .ref a)]) C S (by exact rfl) (by exact rfl) (by exact rfl) (by exact rfl) ?_
  intro h1 tk1 L E' S1 C1
  have o1 := S1.f ho
  have o2 := S1.f ht
  refine x_assignT ?_
  refine r_meth (v := .ref a) S1 (by exact rfl) ⟨_, o1, rfl⟩ (fun b hb => by cases hb; exact ⟨_, o1, rfl⟩) pa_mat slot_span type_span ?_
  refine r_cwB1 ?_
  refine r_int ?_
  refine wp_span o1 o2 ?_
  have S2 := S1.push (o := tupObj [.int b (tk1 + 1), .int e (tk1 + 1 + 1)]) rfl
  refine r_unpack2 C1.mono S2 (S2.m (.head _)) ?_
  intro h2 tk2 S3
  have o3 := S3.f ho
  have o4 := S3.f ht
  refine x_ret ?_
  refine wpAny_BinOp ?_
  refine r_sub ?_
  refine Attribute_any_ ?_
  refine r_name S3 (by exact rfl) ?_
  refine string_attr o3 ?_
  refine r_slice ?_
  refine wpAny_evalPart_none ?_
  refine wpAny_evalPart_some ?_
  refine r_name S3 (by exact rfl) ?_
  have S4 := S3.push (o := { cls := .type "slice", data := .fields #[.none, .int b (tk1 + 1), .none] }) rfl
  refine ⟨"str", _, typeIs_str _ _ _, PySem.F.slot_str_getitem.lookup, ?_⟩
  refine r_getSlice (lo := none) (hi := some ((b : Int), tk1 + 1)) (a := 0) (b := b) (S4.m (.head _)) (.inr ⟨rfl, rfl⟩) (.inl rfl) (Nat.zero_le _) (by first | with_reducible assumption | decide | lia | omega) (by rw [sizeLine_eq]; first | with_reducible assumption | decide | lia | omega) ?_
  intro t1 tk3
  refine r_sub ?_
  refine Attribute_any_ ?_
  refine r_name S4 (by exact rfl) ?_
  refine string_attr (S4.f ho) ?_
  refine r_slice ?_
  refine wpAny_evalPart_some ?_
  refine r_name S4 (by exact rfl) ?_
  refine wpAny_evalPart_none ?_
  have S5 := S4.push (o := { cls := .type "slice", data := .fields #[.int e (tk1 + 1 + 1), .none, .none] }) rfl
  refine ⟨"str", _, typeIs_str _ _ _, PySem.F.slot_str_getitem.lookup, ?_⟩
  refine r_getSlice (lo := some ((e : Int), tk1 + 1 + 1)) (hi := none) (a := e) (b := x.length) (S5.m (.head _)) (.inl rfl) (.inr ⟨rfl, rfl⟩) (by first | with_reducible assumption | decide | lia | omega) (by first | with_reducible assumption | decide | lia | omega) (by rw [sizeLine_eq]; first | with_reducible assumption | decide | lia | omega) ?_
  intro t2 tk4
  refine r_addS ?_ ?_
  · simp only [List.length_take, List.length_drop]; rw [sizeLine_eq]; first | with_reducible assumption | decide | lia | omega
  intro t3 tk5
  refine H F _ _ _ (Le.refl _) (S5.st.sub ?_) ?_
  · exact (((List.sublist_cons_self _ _).trans (List.sublist_cons_self _ _))).trans (List.sublist_cons_self _ _)
  · refine ⟨t3, ?_⟩
    rw [List.drop_zero, Nat.sub_zero, List.take_of_length_le (l := x.drop e) (by rw [List.length_drop]; first | with_reducible assumption | decide | lia | omega)]

theorem Fn.mono {f : Value} {args : List Value} {D U : Nat} {P P' : Fz → Value → Prop} (R : Fn w f args F D U P) (k : ∀ F' v, P F' v → P' F' v) : Fn w f args F D U P' := by
  intro prog A M h g d tk os Q E C S H
  exact R C S fun F' h' tk' v l s p => H F' h' tk' v l s (k _ _ p)
/- what the two value patterns find -/
theorem val_cases {r rest : List Nat} {o : Option (List Nat)} (V : Val r rest o) (hr : r.length ≤ 2 ^ 20) :
    (∃ vv, r = 61 :: 34 :: (esc vv ++ 34 :: rest) ∧ o = some vv ∧ Found (Sre.forSearch cQuo r.toArray 1 0 r.length false) 0 (2 + (esc vv).length + 1) #[some 2, some (2 + (esc vv).length)] 1 1 (10 * r.length + 50)) ∨
    (Lost (Sre.forSearch cQuo r.toArray 1 0 r.length false) (3 * r.length + 20) ∧
      ((∃ vv, o = some vv ∧ r = 61 :: (vv ++ rest) ∧ vv ≠ [] ∧ (∀ a ∈ vv, fVal a = true) ∧ Found (Sre.forSearch cVal r.toArray 1 0 r.length false) 0 (1 + vv.length) #[some 1, some (1 + vv.length)] 1 1 20) ∨
       (o = none ∧ r = rest ∧ Lost (Sre.forSearch cVal r.toArray 1 0 r.length false) (3 * r.length + 20)))) := by
  have short : ∀ {c : Array Nat} {g : Nat}, r.length < (Sre.header c).1 → Lost (Sre.forSearch c r.toArray g 0 r.length false) (3 * r.length + 20) := by
    intro c g hc
    obtain ⟨k, m, hk, e⟩ := fs_short (c := c) (x := r) (g := g) (p := 0) (must := false) (.inr (by rw [Nat.sub_zero]; exact hc))
    exact ⟨k, m, by first | with_reducible assumption | decide | lia | omega, e⟩
  cases V with
  | @quo v rest =>
    obtain ⟨p0, segs, s1, s2, s3⟩ := esc_segs v.length v (Nat.le_refl _)
    refine .inl ⟨v, rfl, rfl, ?_⟩
    have := quo_yes (x := 61 :: 34 :: (esc v ++ 34 :: rest)) (rest := rest) (by first | with_reducible assumption | decide | lia | omega) s2 s1 (by rw [s3, List.append_assoc])
    rw [← s3] at this
    exact this
  | @plain v rest h1 h2 h3 h4 =>
    obtain ⟨c, v', rfl⟩ : ∃ c v', v = c :: v' := by
      cases v with
      | nil => exact absurd rfl h1
      | cons c v' => exact ⟨c, v', rfl⟩
    have hc : fSp c = false := by
      have := h3 c (.head _)
      unfold fVal at this
      unfold fSp
      cases q : Unicode.isSpace c with
      | false => rfl
      | true => rw [q] at this; cases this
    have h34 : c ≠ 34 := fun e => h2 (by rw [e]; rfl)
    refine .inr ⟨?_, .inl ⟨_, rfl, rfl, h1, h3, ?_⟩⟩
    · by_cases hl : (61 :: (c :: v' ++ rest)).length < 3
      · exact short hl
      · exact quo_no2 (by first | with_reducible assumption | decide | lia | omega) (by first | with_reducible assumption | decide | lia | omega) rfl hc h34
    · refine val_yes (by first | with_reducible assumption | decide | lia | omega) rfl (tw0 fun c' r' q => by cases q; exact hc) ?_
      cases rest with
      | nil => rw [List.append_nil]; exact tw_all h3
      | cons a rest => exact tw_app h3 (h4 a rfl)
  | none h =>
    cases r with
    | nil => exact .inr ⟨short (by decide), .inr ⟨rfl, rfl, short (by decide)⟩⟩
    | cons c r' =>
      obtain ⟨h1, h2⟩ := h c rfl
      refine .inr ⟨?_, .inr ⟨rfl, rfl, val_no (by first | with_reducible assumption | decide | lia | omega) rfl h2 h1⟩⟩
      by_cases hl : (c :: r').length < 3
      · exact short hl
      · exact quo_no1 (by first | with_reducible assumption | decide | lia | omega) (by first | with_reducible assumption | decide | lia | omega) rfl h2 h1
/- pairs that there are, kept -/
theorem if_append {prog : Program} {A : Around} {E : Value → Shared → Prop} {h : Heap} {M : List (Addr × Obj)} {L a pl rl : Addr} {V : List (Str × Value)} {g : Array GenState} {d : Drawn} {tk : Nat} {os : OsState} {cn : Str} {cs : Scope} {cd : Value} {cl : List (Str × Addr)}
    {vs1 vs2 : List Value} {n1 n2 : Nat} {ps : List Word} {rs : List (List Word)} {p1 p2 p3 p4 p5 p6 p7 : Pos} {rest : List Stmt} {Q : Flow → Shared → Prop}
    (S : Sf w h F ((pl, lstObj vs1 n1) :: (rl, lstObj vs2 n2) :: M) L V) (a1 : All2 (PairAt F) vs1 ps) (a2 : All2 (PairsAt F) vs2 rs) (hp : ps.length ≤ 2 ^ 21) (hr : rs.length ≤ 2 ^ 24)
    (lp : Has V "pairs" (.ref pl)) (lr : Has V "result" (.ref rl))
    (H : ∀ F' h' tk' vs' n', Le F F' → Sf w h' F' ((rl, lstObj vs' n') :: M) L V → All2 (PairsAt F') vs' (if ps = [] then rs else rs ++ [ps]) → wpAny (model prog w) A (execs rest (envX cn cs L a cd cl)) Q E ⟨h', g, d, tk', os⟩)
    (hk : cs.kind = .function := by rfl) (hl1 : (envX cn cs L a cd cl).kindOf "pairs" = some .local := by rfl) (hl2 : (envX cn cs L a cd cl).kindOf "result" = some .local := by rfl)
    (hi : interactive (envX cn cs L a cd cl) = false := by rfl) (hs : swapsWith (.Call (.Attribute (.Name "result" p2) "append" p3) [.Name "pairs" p4] [] p5) none p6.line (envX cn cs L a cd cl) = pure false := by rfl)
    (hbase : attributeBase (.Name "result" p2) "append" (envX cn cs L a cd cl) (eval (.Name "result" p2) (envX cn cs L a cd cl)) = eval (.Name "result" p2) (envX cn cs L a cd cl) := by rfl)
    (hline : (p3.endLine == p5.line) = true := by rfl) :
    wpAny (model prog w) A (execs (.If (.Name "pairs" p1) [.Expr (.Call (.Attribute (.Name "result" p2) "append" p3) [.Name "pairs" p4] [] p5) p6] [] p7 :: rest) (envX cn cs L a cd cl)) Q E ⟨h, g, d, tk, os⟩ := by
  have l1 := a1.len
  have l2 := a2.len
  refine x_ifJ (fun s => ∃ F' h' tk' vs' n', s = ⟨h', g, d, tk', os⟩ ∧ Le F F' ∧ Sf w h' F' ((rl, lstObj vs' n') :: M) L V ∧ All2 (PairsAt F') vs' (if ps = [] then rs else rs ++ [ps])) ?_ ?_
  · intro PJ hJ
    refine isT ?_
    refine r_name S lp ?_ hk hl1
    refine truthy_lst (S.m (.head _)) (by first | with_reducible assumption | decide | lia | omega) fun tk2 => ?_
    by_cases q : ps = []
    · have : vs1 = [] := List.eq_nil_of_length_eq_zero (by rw [l1, q]; rfl)
      subst this
      first | with_reducible refine on_f (by decide) ?_ | refine on_f (by decide) ?_ | rw [if_neg (by decide)]
      refine x_nil ⟨rfl, hJ ⟨F, h, tk2, vs2, n2, rfl, Le.refl _, S.tl, ?_⟩⟩
      rw [if_pos q]; exact a2
    · have : (!vs1.isEmpty) = true := by
        cases vs1 with
        | nil => exact absurd (List.eq_nil_of_length_eq_zero l1.symm) q
        | cons a b => rfl
      first | refine on_t this ?_ | rw [if_pos this]
      refine x_expr ?_ hi hs
      refine r_meth (v := .ref rl) S lr ⟨_, S.m (.tail _ (.head _)), rfl⟩ (fun b hb => by cases hb; exact ⟨_, S.m (.tail _ (.head _)), rfl⟩) PySem.F.plainAttrs_list PySem.F.slot_list_append PySem.F.type_list_append ?_ hk hl2 (by decide) hbase (by rfl) hline
      refine r_cwB1 ?_
      refine r_name S lp ?_ hk hl1
      refine wp_append (M1 := [(pl, lstObj vs1 n1)]) S (by rw [sizeLine_eq]; first | with_reducible assumption | decide | lia | omega) fun h' n' S' => ?_
      have SLe := S'.freeze
      have S2 := SLe.1
      have le := SLe.2
      clear SLe
      refine x_nil ⟨rfl, hJ ⟨_, h', tk2, _, _, rfl, le, S2, ?_⟩⟩
      first | refine on_f q ?_ | rw [if_neg q]
      exact (a2.up fun _ _ z => z.up le).snoc ⟨pl, vs1, n1, rfl, ins_self _ _ _, a1.up fun _ _ z => z.up le⟩
  · rintro s ⟨F', h', tk', vs', n', rfl, le, S', a'⟩
    exact H F' h' tk' vs' n' le S' a'

/- what the loop keeps -/
inductive SplO (F : Fz) (rl : Addr) (M : List (Addr × Obj)) (xs : List (List Nat)) (out : List (List Word)) (i : Nat) (F' : Fz) (M' : List (Addr × Obj)) (V' : List (Str × Value)) : Prop
  | mk (h1_ : Le F F') (vs2 : List Value) (n2 : Nat) (res : List (List Word)) (h2_ : M' = (rl, lstObj vs2 n2) :: M) (h3_ : All2 (PairsAt F') vs2 res) (h4_ : Runs (xs.drop i) res out) (h5_ : res.length ≤ i * (2 ^ 20 + 1)) (h6_ : i ≤ 8) (h7_ : Has V' "result" (.ref rl)) : SplO F rl M xs out i F' M' V'
/- what the loop keeps -/
inductive SplI (F' : Fz) (rl : Addr) (M N : List (Addr × Obj)) (ss : List (List Word)) (i : Nat) (n : Nat) (F2 : Fz) (M2 : List (Addr × Obj)) (V2 : List (Str × Value)) : Prop
  | mk (h1_ : Le F' F2) (text : List Nat) (t : Tok) (pairs : List Word) (res' : List (List Word)) (pl : Addr) (vs1 : List Value) (n1 : Nat) (vs2 : List Value) (n2 : Nat) (h2_ : n = text.length) (h3_ : M2 = (pl, lstObj vs1 n1) :: (rl, lstObj vs2 n2) :: (M ++ N)) (h4_ : All2 (PairAt F2) vs1 pairs) (h5_ : All2 (PairsAt F2) vs2 res') (h6_ : Run text pairs res' ss) (h7_ : text.length ≤ 2 ^ 20) (h8_ : pairs.length + text.length ≤ 2 ^ 20) (h9_ : res'.length + text.length ≤ i * (2 ^ 20 + 1) + 2 ^ 20) (h10_ : Has V2 "text" (.str (T text) t)) (h11_ : Has V2 "pairs" (.ref pl)) (h12_ : Has V2 "result" (.ref rl)) : SplI F' rl M N ss i n F2 M2 V2
set_option maxHeartbeats 4000000 in
theorem split_fn {l : Addr} {vs : List Value} {n : Nat} {xs : List (List Nat)} {out : List (List Word)} (hl : F l = some (lstObj vs n)) (hvs : All2 textOf vs xs) (hlen : xs.length ≤ 8) (hx : ∀ x ∈ xs, x.length ≤ 2 ^ 20) (R : Runs xs [] out) :
    Fn w (.ref 84) [.ref l] F 6 40 (fun F' v => ListsAt F' v out) := by
  obtain ⟨o57, fd57, k57, f57⟩ : ∃ o fd, (KF w).lookup 57 = some o ∧ o.data = .func fd := ⟨_, _, by exact rfl, rfl⟩
  intro prog A M h g d tk os Q E C S H
  refine enter (D := 5) (U := 37) (binds := [("header_values", .ref l)]) C S (by exact rfl) (by exact rfl) (by exact rfl) (by exact rfl) ?_
  intro h1 tk1 L E' S1 C1
  refine x_assert ?_
  refine isTrue_not ?_
  refine isT ?_
  refine r_call ?_
  refine r_builtin S1 (by exact rfl) (by exact rfl) (by decide) ?_
  refine r_cwB2 ?_
  refine r_name S1 (by exact rfl) ?_
  refine r_builtin S1 (by exact rfl) (by exact rfl) (by decide) ?_
  refine PySem.IsiPair.list_str (S1.f hl) rfl ?_
  refine truthy_b ?_
  refine ⟨rfl, ?_⟩
  refine x_assign ?_
  refine r_list0 ?_
  have S2 := S1.push (o := lstObj [] 0) rfl
  refine r_store S2 fun h3 tk3 S3 => ?_
  clear S1 S2
  refine xl_for ?_
  refine r_name S3 (by exact rfl) ?_
  generalize hrl : h1.objs.size = rl at S3
  have C2 := C1.mono (d' := 4) (u' := 30)
  clear C1
  generalize A.deeper _ = A1 at C2 ⊢
  show wpAny _ _ _ _ _ ⟨_, g, d, _, os⟩
  refine loop_list (l := l) (vs := vs) (SplO F rl M xs out) C2.hd ?_ ?_ ?_ S3 ?_
  · rintro i F' M' V' ⟨le, _⟩
    exact .inl ⟨n, le _ _ hl⟩
  · rintro i x F' M' V' N h4 tk4 E4 P hP hx' ⟨le, vs2, n2, res, rfl, a2, rr, hres, hi8, lr⟩ S4
    obtain ⟨y, hy, t, rfl⟩ := hvs.get hx'
    have hyl : y.length ≤ 2 ^ 20 := hx y (List.mem_of_getElem? hy)
    have hilt : i < xs.length := (List.getElem?_eq_some_iff.mp hy).1
    have hdrop : xs.drop i = y :: xs.drop (i + 1) := by
      rw [List.drop_eq_getElem_cons hilt]
      congr 1
      exact (List.getElem?_eq_some_iff.mp hy).2
    rw [hdrop] at rr
    cases rr with
    | cons run rr =>
    rename_i ss
    refine wpAny_assign_Name (r_store S4 fun h5 tk5 S5 => ?_)
    refine x_assign ?_
    refine r_name S5 (by exact rfl) ?_
    refine r_store S5 fun h6 tk6 S6 => ?_
    refine x_assign ?_
    refine r_list0 ?_
    have S7 := S6.push (o := lstObj [] 0) rfl
    refine r_store S7 fun h8 tk8 S8 => ?_
    clear S4 S5 S6 S7
    generalize hpl : h6.objs.size = pl at S8
    refine xl_while ?_
    show codeAny _ _ _ _ ⟨_, g, d, _, os⟩
    refine loop_while (n := y.length) (SplI F' rl M N ss i)
      ?_ S8 ⟨Le.refl _, y, t, [], res, pl, [], 0, vs2, n2, rfl, rfl, .nil, a2, run, hyl, (by simpa using hyl), (by first | with_reducible assumption | decide | lia | omega), rfl, rfl, lr⟩
    clear S8 run a2 hres
    rintro m F2 M2 V2 h9 tk9 E9 P2 hP2 hB2 X hX ⟨le2, x, t, pairs, res', pl, vs1, n1, vs2, n2, rfl, rfl, a1, a2, run, hx1, hx2, hx3, lt, lp, lr⟩ S9
    refine isT ?_
    refine r_name S9 lt ?_
    with_reducible refine truthy_T ?_ fun tk10 => ?_
    · first | with_reducible assumption | decide | lia | omega
    cases run with
    | nil =>
      first | with_reducible refine on_f (by decide) ?_ | refine on_f (by decide) ?_ | rw [if_neg (by decide)]
      refine hX ?_
      refine if_append (S9 : Sf _ _ _ (_ :: _ :: (M ++ N)) _ _) a1 a2 (by first | with_reducible assumption | decide | lia | omega) (by first | with_reducible assumption | decide | lia | omega) lp lr fun F3 h3 tk3 vs3 n3 le3 S10 a3 => ?_
      refine x_nil ?_
      refine hP ⟨F3, (rl, lstObj vs3 n3) :: M, _, h3, tk3, rfl, S10, (le.trans le2).trans le3, vs3, n3, _, rfl, a3, rr, ?_, by first | with_reducible assumption | decide | lia | omega, lr⟩
      split
      · first | with_reducible assumption | decide | lia | omega
      · rw [List.length_append, List.length_singleton]; first | with_reducible assumption | decide | lia | omega
    | @cons _ rest _ ps' _ rs' _ st run =>
      have hsl := st.len
      have hne : (!x.isEmpty) = true := by
        cases x with
        | nil => simp at hsl
        | cons a x => rfl
      first | refine on_t hne ?_ | rw [if_pos hne]
      refine x_assign ?_
      refine r_pat S9 (by exact rfl) (by exact rfl) rfl rfl slot_search type_search ?_
      refine r_cwB1 ?_
      refine r_name S9 lt ?_
      cases st with
      | @word sp k r rest o ps rs w1 w2 w3 w4 w5 val =>
        have hk0 : 1 ≤ k.length := List.length_pos_iff.mpr w2
        have hxl : (sp ++ (k ++ r)).length = sp.length + (k.length + r.length) := by rw [List.length_append, List.length_append]
        have e1 : ((sp ++ (k ++ r)).takeWhile fSp).length = sp.length := by
          cases k with
          | nil => simp at hk0
          | cons c k => exact tw_app w1 (w4 c (.head _))
        have e2 : (((sp ++ (k ++ r)).drop sp.length).takeWhile fTok).length = k.length := by
          rw [List.drop_left]
          cases r with
          | nil => rw [List.append_nil]; exact tw_all w3
          | cons c r => exact tw_app w3 (w5 c rfl)
        have Fo := tok_yes (x := sp ++ (k ++ r)) (by first | with_reducible assumption | decide | lia | omega) e1 e2 hk0
        refine Fn.useM (search_found (pat_tok S9.st.b) (by first | with_reducible assumption | decide | lia | omega) Fo (by first | with_reducible assumption | decide | lia | omega) (by first | with_reducible assumption | decide | lia | omega)) C2.mono S9 ?_
        intro F3 h10 tk11 a le3 S10 im
        refine r_store S10 fun h11 tk12 S11 => ?_
        have imo := im
        obtain ⟨mv, pv, mpos, mlim, mli, mt, mo, mt2⟩ := imo
        refine x_if ?_
        refine isT ?_
        refine r_name S11 (by exact rfl) ?_
        refine truthy_mat (S11.f mo) rfl ?_
        first | with_reducible refine on_t rfl ?_ | refine on_t rfl ?_ | rw [if_pos rfl]
        refine x_assign ?_
        refine r_call ?_
        refine r_global S11 (by exact rfl) ?_
        refine r_cwF1 (o := o57) (fd := fd57) ?_
        refine r_name S11 (by exact rfl) ?_
        refine ⟨⟨S11.f (S11.st.b.k _ _ k57), f57⟩, ?_⟩
        refine Fn.useT (unmatched_fn im (by first | with_reducible assumption | decide | lia | omega) (by first | with_reducible assumption | decide | lia | omega) hx1) C2.mono S11 ?_
        intro F4 h12 tk13 tt le4 S12
        have et : (sp ++ (k ++ r)).take 0 ++ (sp ++ (k ++ r)).drop (sp.length + k.length) = r := by
          rw [List.take_zero, List.nil_append, ← List.append_assoc, ← List.length_append, List.drop_left]
        rw [et]
        refine r_store S12 fun h13 tk14 S13 => ?_
        refine x_assign ?_
        refine r_meth (v := .ref a) S13 (by exact rfl) ⟨_, S13.f (le4 _ _ mo), rfl⟩ (fun b hb => by cases hb; exact ⟨_, S13.f (le4 _ _ mo), rfl⟩) pa_mat slot_group type_group ?_
        refine r_cwB1 ?_
        refine r_int ?_
        have ek : (T (sp ++ (k ++ r))).cps.extract sp.length (sp.length + k.length) = k.toArray := by
          refine (ext_take _ _ _).trans ?_
          rw [List.drop_left, Nat.add_sub_cancel_left, List.take_left]
        refine wp_group1 (S13.f (le4 _ _ mo)) (S13.f (le4 _ _ mt2)) ?_ ?_
        · rw [ek, List.size_toArray, sizeLine_eq]; first | with_reducible assumption | decide | lia | omega
        rw [ek]
        refine r_store S13 fun h14 tk15 S14 => ?_
        clear S10 S11 S12 S13 Fo e1 e2
        refine x_assign ?_
        refine r_pat S14 (by exact rfl) (by exact rfl) rfl rfl slot_search type_search ?_
        refine r_cwB1 ?_
        refine r_name S14 (by exact rfl) ?_
        have leA := (le2.trans le3).trans le4
        clear et ek
        generalize tk14 + 1 = tk14' at S14 ⊢
        have hrl2 : r.length ≤ 2 ^ 20 := by first | with_reducible assumption | decide | lia | omega
        have vc := val_cases val hrl2
        have srch : Fn w (.builtin "re.Pattern.search") [.ref 67, .str (T r) tt] F4 0 1 (fun F' v => (∃ vv a, r = 61 :: 34 :: (esc vv ++ 34 :: rest) ∧ o = some vv ∧ v = .ref a ∧
            IsMatch F' a r [((0 : Nat) : Int), ((2 + (esc vv).length + 1 : Nat) : Int), ((2 : Nat) : Int), ((2 + (esc vv).length : Nat) : Int)]) ∨ (v = .none ∧ ((∃ vv, o = some vv ∧ r = 61 :: (vv ++ rest) ∧ vv ≠ [] ∧ (∀ a ∈ vv, fVal a = true) ∧ Found (Sre.forSearch cVal r.toArray 1 0 r.length false) 0 (1 + vv.length) #[some 1, some (1 + vv.length)] 1 1 20) ∨
               (o = none ∧ r = rest ∧ Lost (Sre.forSearch cVal r.toArray 1 0 r.length false) (3 * r.length + 20))))) := by
          rcases vc with ⟨vv, v1, v2, v3⟩ | ⟨v1, v2⟩
          · exact Fn.mono (search_found (pat_quo S14.st.b) (by first | with_reducible assumption | decide | lia | omega) v3 (by first | with_reducible assumption | decide | lia | omega) (by first | with_reducible assumption | decide | lia | omega)) fun F' v ⟨a, e, im⟩ => .inl ⟨vv, a, v1, v2, e, im⟩
          · exact Fn.mono (search_lost (pat_quo S14.st.b) (by first | with_reducible assumption | decide | lia | omega) v1 (by first | with_reducible assumption | decide | lia | omega)) fun F' v e => .inr ⟨e, v2⟩
        refine Fn.use srch C2.mono S14 ?_
        rintro F5 h15 tk16 mm le5 S15 alt
        refine r_store S15 fun h16 tk17 S16 => ?_
        clear srch vc S14 S15
        refine x_ifJ (fun s => ∃ F6 h6 tk6 V6 v t6, s = ⟨h6, g, d, tk6, os⟩ ∧ Le F5 F6 ∧ Sf w h6 F6 ((pl, lstObj vs1 n1) :: (rl, lstObj vs2 n2) :: (M ++ N)) L V6 ∧ Has V6 "text" (.str (T rest) t6) ∧ Has V6 "name" (.str (T k) tk14') ∧ Has V6 "value" v ∧ Has V6 "pairs" (.ref pl) ∧ Has V6 "result" (.ref rl) ∧ valOf o v) ?_ ?_
        · intro PJ hJ
          refine isT ?_
          refine r_name S16 (by exact rfl) ?_
          rcases alt with ⟨vv, b, v1, rfl, rfl, im2⟩ | ⟨rfl, ⟨vv, rfl, v1, v2, v3, v4⟩ | ⟨rfl, rfl, v1⟩⟩
          · have hvl : (esc vv).length + 3 ≤ r.length := by rw [v1]; simp only [List.length_cons, List.length_append]; first | with_reducible assumption | decide | lia | omega
            have imo2 := im2
            obtain ⟨nv, nw, npos, nlim, nli, nt, no, nt2⟩ := imo2
            refine truthy_mat (S16.f no) rfl ?_
            first | with_reducible refine on_t rfl ?_ | refine on_t rfl ?_ | rw [if_pos rfl]
            refine x_assign ?_
            refine r_call ?_
            refine r_global S16 (by exact rfl) ?_
            refine r_cwF1 (o := o57) (fd := fd57) ?_
            refine r_name S16 (by exact rfl) ?_
            refine ⟨⟨S16.f (S16.st.b.k _ _ k57), f57⟩, ?_⟩
            refine Fn.useT (unmatched_fn im2 (by first | with_reducible assumption | decide | lia | omega) (by first | with_reducible assumption | decide | lia | omega) hrl2) C2.mono S16 ?_
            intro F6 h17 tk18 tt2 le6 S17
            have et2 : r.take 0 ++ r.drop (2 + (esc vv).length + 1) = rest := by
              rw [List.take_zero, List.nil_append, v1]
              rw [show 2 + (esc vv).length + 1 = ((esc vv).length + 1) + 1 + 1 by first | with_reducible assumption | decide | lia | omega]
              show (esc vv ++ 34 :: rest).drop ((esc vv).length + 1) = rest
              rw [List.drop_append, List.drop_of_length_le (by first | with_reducible assumption | decide | lia | omega), Nat.add_sub_cancel_left]; rfl
            rw [et2]
            refine r_store S17 fun h18 tk19 S18 => ?_
            refine x_assign ?_
            refine r_meth (v := .ref b) S18 (by exact rfl) ⟨_, S18.f (le6 _ _ no), rfl⟩ (fun b hb => by cases hb; exact ⟨_, S18.f (le6 _ _ no), rfl⟩) pa_mat slot_group type_group ?_
            refine r_cwB1 ?_
            refine r_int ?_
            have ek2 : (T r).cps.extract 2 (2 + (esc vv).length) = (esc vv).toArray := by
              refine (ext_take _ _ _).trans ?_
              rw [v1, Nat.add_sub_cancel_left]
              show ((esc vv ++ 34 :: rest).take (esc vv).length).toArray = _
              rw [List.take_left]
            refine wp_group1 (S18.f (le6 _ _ no)) (S18.f (le6 _ _ nt2)) ?_ ?_
            · rw [ek2, List.size_toArray, sizeLine_eq]; first | with_reducible assumption | decide | lia | omega
            rw [ek2]
            refine r_store S18 fun h19 tk20 S19 => ?_
            refine x_assign ?_
            refine r_pat S19 (by exact rfl) (by exact rfl) rfl rfl slot_sub type_sub ?_
            refine r_cwB2 ?_
            obtain ⟨oL, S20, nL⟩ := S19
            refine lamS_new S20 ?_ rfl rfl rfl rfl rfl
            intro F7 h20 tk21 lf c' ctv pm le7 S21 lo lc
            have S22 : Sf w h20 F7 _ L _ := ⟨oL, S21, nL⟩
            refine r_name S22 (by exact rfl) ?_
            obtain ⟨ps, z1, z2⟩ := subs_esc (x := esc vv) (by first | with_reducible assumption | decide | lia | omega) vv.length 0 vv (Nat.le_refl _) rfl (Nat.zero_le _)
            have hcb : Cb w F7 (.ref lf) (fun y => [] ++ y) 1 9 := fun F8 a8 x8 b0 e0 b8 e8 r8 le8 im8 hbe8 he8 hx8 =>
              lam_fn (pre := []) (le8 _ _ lo) (let ⟨oc, vs, t, q1, q2, q3⟩ := lc; ⟨oc, vs, t, le8 _ _ q1, q2, q3⟩) rfl (Nat.zero_le _) rfl (fun _ => rfl) rfl im8 hbe8 he8 hx8
            have hvv := (esc_len vv).1
            refine Fn.useT (sub_fn (by first | with_reducible assumption | decide | lia | omega) z1 (pat_esc S22.st.b) lo rfl hcb ?_) C2.mono S22 ?_
            · rw [← List.length_flatten, z2]; first | with_reducible assumption | decide | lia | omega
            intro F8 h21 tk22 t8 le8 S23
            rw [z2]
            refine r_store S23 fun h22 tk23 S24 => ?_
            refine x_nil ⟨rfl, hJ ⟨F8, h22, tk23, _, _, _, rfl, (le6.trans le7).trans le8, S24, by exact rfl, by exact rfl, by exact rfl, by exact lp, by exact lr, ⟨_, rfl⟩⟩⟩
          · refine truthy_none ?_
            first | with_reducible refine on_f (by decide) ?_ | refine on_f (by decide) ?_ | rw [if_neg (by decide)]
            refine x_assign ?_
            refine r_pat S16 (by exact rfl) (by exact rfl) rfl rfl slot_search type_search ?_
            refine r_cwB1 ?_
            refine r_name S16 (by exact rfl) ?_
            have hvl : vv.length + 1 ≤ r.length := by rw [v1]; simp only [List.length_cons, List.length_append]; first | with_reducible assumption | decide | lia | omega
            refine Fn.useM (search_found (pat_val S16.st.b) (by first | with_reducible assumption | decide | lia | omega) v4 (by first | with_reducible assumption | decide | lia | omega) (by first | with_reducible assumption | decide | lia | omega)) C2.mono S16 ?_
            intro F6 h17 tk18 b le6 S17 im2
            refine r_store S17 fun h18 tk19 S18 => ?_
            have imo2 := im2
            obtain ⟨nv, nw, npos, nlim, nli, nt, no, nt2⟩ := imo2
            refine x_if ?_
            refine isT ?_
            refine r_name S18 (by exact rfl) ?_
            refine truthy_mat (S18.f no) rfl ?_
            first | with_reducible refine on_t rfl ?_ | refine on_t rfl ?_ | rw [if_pos rfl]
            refine x_assign ?_
            refine r_call ?_
            refine r_global S18 (by exact rfl) ?_
            refine r_cwF1 (o := o57) (fd := fd57) ?_
            refine r_name S18 (by exact rfl) ?_
            refine ⟨⟨S18.f (S18.st.b.k _ _ k57), f57⟩, ?_⟩
            refine Fn.useT (unmatched_fn im2 (by first | with_reducible assumption | decide | lia | omega) (by first | with_reducible assumption | decide | lia | omega) hrl2) C2.mono S18 ?_
            intro F7 h19 tk20 tt2 le7 S19
            have et2 : r.take 0 ++ r.drop (1 + vv.length) = rest := by
              rw [List.take_zero, List.nil_append, v1, Nat.add_comm]
              show (vv ++ rest).drop vv.length = rest
              rw [List.drop_left]
            rw [et2]
            refine r_store S19 fun h20 tk21 S20 => ?_
            refine x_assign ?_
            refine r_meth (v := .ref b) S20 (by exact rfl) ⟨_, S20.f (le7 _ _ no), rfl⟩ (fun b hb => by cases hb; exact ⟨_, S20.f (le7 _ _ no), rfl⟩) pa_mat slot_group type_group ?_
            refine r_cwB1 ?_
            refine r_int ?_
            have ek2 : (T r).cps.extract 1 (1 + vv.length) = vv.toArray := by
              refine (ext_take _ _ _).trans ?_
              rw [v1, Nat.add_sub_cancel_left]
              show ((vv ++ rest).take vv.length).toArray = _
              rw [List.take_left]
            refine wp_group1 (S20.f (le7 _ _ no)) (S20.f (le7 _ _ nt2)) ?_ ?_
            · rw [ek2, List.size_toArray, sizeLine_eq]; first | with_reducible assumption | decide | lia | omega
            rw [ek2]
            refine r_store S20 fun h21 tk22 S21 => ?_
            refine x_assign ?_
            refine r_meth S21 (by exact rfl) (typeIs_str _ _ _) (fun _ e => nomatch e) PySem.F.plainAttrs_str PySem.F.slot_str_rstrip PySem.F.type_str_rstrip ?_
            refine r_cwB0 ?_
            have hrs : Txt.rstrip (T vv) = T vv := by
              obtain ⟨l, c, rfl⟩ : ∃ l c, vv = l ++ [c] := ⟨vv.dropLast, vv.getLast v2, (List.dropLast_concat_getLast v2).symm⟩
              refine rstrip_T ?_
              have := v3 c (List.mem_append_right _ (.head _))
              unfold fVal at this
              cases q : Unicode.isSpace c with
              | false => rfl
              | true => rw [q] at this; cases this
            refine r_rstrip (by show (T vv).length ≤ _; rw [T_len, sizeLine_eq]; first | with_reducible assumption | decide | lia | omega) fun t9 tk23 => ?_
            rw [hrs]
            refine r_store S21 fun h22 tk24 S22 => ?_
            refine x_nil ?_
            refine x_nil ⟨rfl, hJ ⟨F7, h22, tk24, _, _, _, rfl, le6.trans le7, S22, by exact rfl, by exact rfl, by exact rfl, by exact lp, by exact lr, ⟨_, rfl⟩⟩⟩
          · refine truthy_none ?_
            first | with_reducible refine on_f (by decide) ?_ | refine on_f (by decide) ?_ | rw [if_neg (by decide)]
            refine x_assign ?_
            refine r_pat S16 (by exact rfl) (by exact rfl) rfl rfl slot_search type_search ?_
            refine r_cwB1 ?_
            refine r_name S16 (by exact rfl) ?_
            refine Fn.useN (search_lost (pat_val S16.st.b) (by first | with_reducible assumption | decide | lia | omega) v1 (by first | with_reducible assumption | decide | lia | omega)) C2.mono S16 ?_
            intro F6 h17 tk18 le6 S17
            refine r_store S17 fun h18 tk19 S18 => ?_
            refine x_if ?_
            refine isT ?_
            refine r_name S18 (by exact rfl) ?_
            refine truthy_none ?_
            first | with_reducible refine on_f (by decide) ?_ | refine on_f (by decide) ?_ | rw [if_neg (by decide)]
            refine x_assign ?_
            refine r_none ?_
            refine r_store S18 fun h19 tk20 S19 => ?_
            refine x_nil ?_
            refine x_nil ⟨rfl, hJ ⟨F6, h19, tk20, _, _, _, rfl, le6, S19, by exact rfl, by exact rfl, by exact rfl, by exact lp, by exact lr, rfl⟩⟩
        · rintro s ⟨F6, h6, tk6, V6, v, t6, rfl, le6, S17, g1, g2, g3, g4, g5, g6⟩
          refine x_expr ?_
          refine r_meth (v := .ref pl) S17 g4 ⟨_, S17.m (.head _), rfl⟩ (fun b hb => by cases hb; exact ⟨_, S17.m (.head _), rfl⟩) PySem.F.plainAttrs_list PySem.F.slot_list_append PySem.F.type_list_append ?_
          refine r_cwB1 ?_
          refine r_tup2 ?_
          refine r_name S17 g2 ?_
          refine r_name S17 g3 ?_
          have SLe := S17.pushF (o := tupObj [.str (T k) tk14', v]) rfl
          have S18 := SLe.1
          have le7 := SLe.2
          clear SLe
          refine wp_append (M1 := []) S18 (by rw [a1.len, sizeLine_eq]; first | with_reducible assumption | decide | lia | omega) fun h7 n7 S19 => ?_
          refine x_nil ?_
          refine x_nil ?_
          refine hP2 ⟨rest.length, hsl, .mk S19 ⟨(leA.trans le5).trans (le6.trans le7), rest, t6, _, res', pl, _, n7, vs2, n2, rfl, rfl, ?_, ?_, run, by first | with_reducible assumption | decide | lia | omega, ?_, by first | with_reducible assumption | decide | lia | omega, g1, g4, g5⟩⟩
          · have leB := ((le3.trans le4).trans le5).trans (le6.trans le7)
            exact (a1.up fun _ _ z => z.up leB).snoc ⟨_, _, _, rfl, g6, ins_self _ _ _⟩
          · have leB := ((le3.trans le4).trans le5).trans (le6.trans le7)
            exact a2.up fun _ _ z => z.up leB
          · rw [List.length_append, List.length_singleton]; first | with_reducible assumption | decide | lia | omega
      | @comma sp rest ps rs hsp =>
        have hsps : ∀ a ∈ sp, Unicode.isSpace a = true := by
          rcases hsp with rfl | rfl
          · intro a h; cases h
          · intro a h; rw [List.mem_singleton] at h; subst h; decide +kernel
        have f44 : fTok 44 = false := by decide +kernel
        have s44 : Unicode.isSpace 44 = false := by decide +kernel
        have t32 : fTok 32 = false := by decide +kernel
        have s32 : fSp 32 = true := by decide +kernel
        have Lo : Lost (Sre.forSearch cTok (sp ++ 44 :: rest).toArray 1 0 (sp ++ 44 :: rest).length false) (3 * (sp ++ 44 :: rest).length + 20) := by
          rcases hsp with rfl | rfl
          · refine tok_no0 (by first | with_reducible assumption | decide | lia | omega) (by simp) ?_ ?_
            · exact tw0 fun c r e => by cases e; exact s44
            · exact tw0 fun c r e => by cases e; exact f44
          · refine tok_no1 (by first | with_reducible assumption | decide | lia | omega) (by simp) ?_ ?_ ?_
            · show ((32 :: 44 :: rest).takeWhile fSp).length = 1
              rw [List.takeWhile_cons, s32, if_pos rfl, List.takeWhile_cons, show fSp 44 = false from s44]; rfl
            · exact tw0 fun c r e => by cases e; exact t32
            · exact tw0 fun c r e => by cases e; exact f44
        refine Fn.useN (search_lost (pat_tok S9.st.b) (by first | with_reducible assumption | decide | lia | omega) Lo (by first | with_reducible assumption | decide | lia | omega)) C2.mono S9 ?_
        intro F3 h10 tk11 le3 S10
        refine r_store S10 fun h11 tk12 S11 => ?_
        refine x_if ?_
        refine isT ?_
        refine r_name S11 (by exact rfl) ?_
        refine truthy_none ?_
        first | with_reducible refine on_f (by decide) ?_ | refine on_f (by decide) ?_ | rw [if_neg (by decide)]
        refine x_if ?_
        refine isT ?_
        refine r_methE PySem.F.plainAttrs_str PySem.F.slot_str_startswith PySem.F.type_str_startswith ?_
        refine r_meth S11 lt (typeIs_str _ _ _) (fun _ e => nomatch e) PySem.F.plainAttrs_str PySem.F.slot_str_lstrip PySem.F.type_str_lstrip ?_
        refine r_cwB0 ?_
        refine r_lstrip (by rw [T_len, sizeLine_eq]; first | with_reducible assumption | decide | lia | omega) fun t2 tk13 => ?_
        rw [lstrip_T hsps s44]
        refine ⟨typeIs_str _ _ _, (fun _ e => nomatch e), ?_⟩
        refine r_cwB1 ?_
        refine r_str ?_
        have e44 : (Str.ofString ",") = T [44] := rfl
        rw [e44]
        refine r_startswith ?_
        rw [startswith_T]
        refine truthy_b ?_
        first | with_reducible refine on_t (by decide) ?_ | refine on_t (by decide) ?_ | rw [if_pos (by decide)]
        refine x_assign ?_
        refine r_sub ?_
        refine r_meth S11 lt (typeIs_str _ _ _) (fun _ e => nomatch e) PySem.F.plainAttrs_str PySem.F.slot_str_lstrip PySem.F.type_str_lstrip ?_
        refine r_cwB0 ?_
        refine r_lstrip (by rw [T_len, sizeLine_eq]; first | with_reducible assumption | decide | lia | omega) fun t3 tk14 => ?_
        rw [lstrip_T hsps s44]
        refine r_slice ?_
        refine wpAny_evalPart_some ?_
        refine r_int ?_
        refine wpAny_evalPart_none ?_
        have S12 := S11.push (o := { cls := .type "slice", data := .fields #[.int 1 tk14, .none, .none] }) rfl
        refine ⟨"str", _, typeIs_str _ _ _, PySem.F.slot_str_getitem.lookup, ?_⟩
        have hrl : rest.length + 1 ≤ 2 ^ 20 := by rw [List.length_append, List.length_cons] at hx1; first | with_reducible assumption | decide | lia | omega
        refine r_getSlice (x := 44 :: rest) (lo := some (1, tk14)) (hi := none) (a := 1) (b := (44 :: rest).length) (S12.m (.head _)) (.inl rfl) (.inr ⟨rfl, rfl⟩) (by simp) (Nat.le_refl _) (by rw [sizeLine_eq, List.length_cons]; first | with_reducible assumption | decide | lia | omega) ?_
        intro t4 tk15
        have er : ((44 :: rest).drop 1).take ((44 :: rest).length - 1) = rest := by
          rw [List.length_cons, Nat.add_sub_cancel]
          show rest.take rest.length = rest
          rw [List.take_length]
        rw [er]
        refine r_store S12.tl fun h13 tk16 S13 => ?_
        refine if_append (S13 : Sf _ _ _ (_ :: _ :: (M ++ N)) _ _) (a1.up fun _ _ z => z.up le3) (a2.up fun _ _ z => z.up le3) (by first | with_reducible assumption | decide | lia | omega) (by first | with_reducible assumption | decide | lia | omega) lp lr fun F4 h14 tk17 vs3 n3 le4 S14 a3 => ?_
        refine x_assign ?_
        refine r_list0 ?_
        have S15 := S14.push (o := lstObj [] 0) rfl
        refine r_store S15 fun h15 tk18 S16 => ?_
        refine x_nil ?_
        refine x_nil ?_
        refine x_nil ?_
        refine hP2 ⟨rest.length, hsl, .mk S16 ⟨(le2.trans le3).trans le4, rest, t4, [], _, _, [], 0, vs3, n3, rfl, rfl, .nil, a3, run, by first | with_reducible assumption | decide | lia | omega, ?_, ?_, by exact rfl, by exact rfl, by exact lr⟩⟩
        · simp only [List.length_nil]; first | with_reducible assumption | decide | lia | omega
        · rw [List.length_append, List.length_cons] at hx3
          split
          · first | with_reducible assumption | decide | lia | omega
          · rw [List.length_append, List.length_singleton]; first | with_reducible assumption | decide | lia | omega
      | @junk j rest ps rs j1 j2 =>
        have f59 : fTok 59 = false := by decide +kernel
        have s59 : Unicode.isSpace 59 = false := by decide +kernel
        have w59 : fTwin 59 = true := by decide +kernel
        have Lo : Lost (Sre.forSearch cTok (59 :: j ++ rest).toArray 1 0 (59 :: j ++ rest).length false) (3 * (59 :: j ++ rest).length + 20) := by
          refine tok_no0 (by first | with_reducible assumption | decide | lia | omega) (by simp) ?_ ?_
          · exact tw0 fun c r e => by cases e; exact s59
          · exact tw0 fun c r e => by cases e; exact f59
        refine Fn.useN (search_lost (pat_tok S9.st.b) (by first | with_reducible assumption | decide | lia | omega) Lo (by first | with_reducible assumption | decide | lia | omega)) C2.mono S9 ?_
        intro F3 h10 tk11 le3 S10
        refine r_store S10 fun h11 tk12 S11 => ?_
        refine x_if ?_
        refine isT ?_
        refine r_name S11 (by exact rfl) ?_
        refine truthy_none ?_
        first | with_reducible refine on_f (by decide) ?_ | refine on_f (by decide) ?_ | rw [if_neg (by decide)]
        refine x_if ?_
        refine isT ?_
        refine r_methE PySem.F.plainAttrs_str PySem.F.slot_str_startswith PySem.F.type_str_startswith ?_
        refine r_meth S11 lt (typeIs_str _ _ _) (fun _ e => nomatch e) PySem.F.plainAttrs_str PySem.F.slot_str_lstrip PySem.F.type_str_lstrip ?_
        refine r_cwB0 ?_
        refine r_lstrip (by rw [T_len, sizeLine_eq]; first | with_reducible assumption | decide | lia | omega) fun t2 tk13 => ?_
        have els : Txt.lstrip (T (59 :: j ++ rest)) = T (59 :: (j ++ rest)) := lstrip_T (sp := []) (fun _ h => nomatch h) s59
        rw [els]
        refine ⟨typeIs_str _ _ _, (fun _ e => nomatch e), ?_⟩
        refine r_cwB1 ?_
        refine r_str ?_
        have e44 : (Str.ofString ",") = T [44] := rfl
        rw [e44]
        refine r_startswith ?_
        rw [startswith_T]
        refine truthy_b ?_
        first | with_reducible refine on_f (by decide) ?_ | refine on_f (by decide) ?_ | rw [if_neg (by decide)]
        refine x_assignT ?_
        refine r_pat S11 (by exact rfl) (by exact rfl) rfl rfl slot_subn type_subn ?_
        refine r_cwB2 ?_
        refine r_str ?_
        have e0 : (Str.ofString "") = T [] := rfl
        rw [e0]
        refine r_name S11 lt ?_
        have htw : ((59 :: j ++ rest).takeWhile fTwin).length = j.length + 1 := by
          have hall : ∀ a ∈ 59 :: j, fTwin a = true := by
            intro a ha
            rcases List.mem_cons.mp ha with rfl | ha
            · exact w59
            · exact j1 a ha
          cases rest with
          | nil => rw [List.append_nil]; exact tw_all hall
          | cons c r => exact tw_app hall (j2 c rfl)
        have hjl : (59 :: j ++ rest).length = j.length + 1 + rest.length := by rw [List.length_append, List.length_cons]
        refine Fn.use (subn_fn (by first | with_reducible assumption | decide | lia | omega) (pat_twin S11.st.b) (Nat.succ_pos _) (by first | with_reducible assumption | decide | lia | omega) (twin_yes (by first | with_reducible assumption | decide | lia | omega) htw) (by first | with_reducible assumption | decide | lia | omega) (twin_no (by first | with_reducible assumption | decide | lia | omega) (Nat.succ_ne_zero _)) (by first | with_reducible assumption | decide | lia | omega)) C2.mono S11 ?_
        rintro F4 h12 tk14 _ le4 S12 ⟨b, t3, t4, rfl, ob⟩
        refine r_unpack2 C2.mono S12 (S12.f ob) fun h13 tk15 S13 => ?_
        refine x_assert ?_
        refine wpAny_isTrue_Compare1 ?_
        refine r_name S13 (by exact rfl) ?_
        refine r_int ?_
        first | with_reducible refine PySem.P.gt_int ?_ | refine PySem.P.gt_int ?_
        refine truthy_b ?_
        refine ⟨by decide, ?_⟩
        refine x_assign ?_
        refine r_name S13 (by exact rfl) ?_
        refine r_store S13 fun h14 tk16 S14 => ?_
        refine x_nil ?_
        refine x_nil ?_
        refine x_nil ?_
        have er : (59 :: j ++ rest).drop (j.length + 1) = rest := by
          show (j ++ rest).drop j.length = rest
          rw [List.drop_left]
        rw [er] at S14
        refine hP2 ⟨rest.length, hsl, .mk S14 ⟨(le2.trans le3).trans le4, rest, t3, _, _, pl, _, _, vs2, n2, rfl, rfl, a1.up fun _ _ z => z.up (le3.trans le4), a2.up fun _ _ z => z.up (le3.trans le4), run, by first | with_reducible assumption | decide | lia | omega, by first | with_reducible assumption | decide | lia | omega, by first | with_reducible assumption | decide | lia | omega, by exact rfl, by exact lp, by exact lr⟩⟩
  · rintro F' M' V' h4 tk4 ⟨le, vs2, n2, res, rfl, a2, rr, hres, hi8, lr⟩ S4
    refine x_ret ?_
    refine r_name S4 lr ?_
    have : out = res := by
      rw [List.drop_eq_nil_of_le (by rw [hvs.len]; exact Nat.le_refl _)] at rr
      cases rr; rfl
    subst this
    have SLe := S4.freeze
    have S5 := SLe.1
    have le5 := SLe.2
    clear SLe
    exact H _ _ _ _ (le.trans le5) S5.st ⟨rl, vs2, n2, rfl, ins_self _ _ _, a2.up fun _ _ z => z.up le5⟩
  · exact ⟨Le.refl _, [], 0, [], rfl, .nil, R, Nat.zero_le _, Nat.zero_le _, rfl⟩
end
end Mine
end
section
open PySem PySem.W PyProof.Rows PySem.Calls
set_option autoImplicit false
set_option maxRecDepth 100000
namespace Mine
open PySem.Builtin
theorem q_meets (t u : Tok) (z : Str) (hz : z.length ≤ 1000000) : Meets (Builtin.«str.__mod__» ⟨[.str ⟨#[34, 37, 115, 34]⟩ t, .str z u], []⟩)
    (fun _ R s => ∀ t' k, R (.ok (.ret (.str (Str.ofString "\"" ++ z ++ Str.ofString "\"") t'))) { s with toks := k }) := by
  kpc_run_s

/- what join writes -/
noncomputable def valT (v : List Nat) : List Nat := if v ≠ [] ∧ v.all fJtok = true then v else 34 :: (esc v ++ [34])
noncomputable def wordT : Word → List Nat
  | (k, none) => k
  | (k, some v) => k ++ 61 :: valT v
noncomputable def hdrT (ws : List Word) : List Nat := jn [59, 32] (ws.map wordT)
noncomputable def joinT (ls : List (List Word)) : List Nat := jn [44, 32] ((ls.filter (· ≠ [])).map hdrT)
noncomputable def Small (ls : List (List Word)) : Prop := ls.length ≤ 2 ^ 6 ∧ ∀ ws ∈ ls, ws.length ≤ 2 ^ 4 ∧ ∀ p ∈ ws, p.1.length ≤ 2 ^ 10 ∧ ∀ v, p.2 = some v → v.length ≤ 2 ^ 10
theorem valT_len (v : List Nat) : (valT v).length ≤ 2 * v.length + 2 := by
  unfold valT
  have := (esc_len v).2
  split
  · first | with_reducible assumption | decide | lia | omega
  · simp only [List.length_cons, List.length_append, List.length_nil]; first | with_reducible assumption | decide | lia | omega
theorem wordT_len {p : Word} (h1 : p.1.length ≤ 2 ^ 10) (h2 : ∀ v, p.2 = some v → v.length ≤ 2 ^ 10) : (wordT p).length ≤ 2 ^ 12 := by
  obtain ⟨k, o⟩ := p
  cases o with
  | none => show k.length ≤ _; dsimp only at h1; first | with_reducible assumption | decide | lia | omega
  | some v =>
    have := valT_len v
    have := h2 v rfl
    show (k ++ 61 :: valT v).length ≤ _
    dsimp only at h1
    simp only [List.length_append, List.length_cons]; first | with_reducible assumption | decide | lia | omega
theorem jn_len (sep : List Nat) (B : Nat) : ∀ ts : List (List Nat), (∀ t ∈ ts, t.length ≤ B) → (jn sep ts).length ≤ ts.length * (B + sep.length)
  | [], _ => Nat.zero_le _
  | [x], h => by
    show x.length ≤ _
    have := h x (.head _)
    simp only [List.length_singleton]; first | with_reducible assumption | decide | lia | omega
  | x :: y :: r, h => by
    show (x ++ sep ++ jn sep (y :: r)).length ≤ _
    have h1 := h x (.head _)
    have h2 := jn_len sep B (y :: r) fun t ht => h t (.tail _ ht)
    rw [List.length_append, List.length_append, List.length_cons (as := y :: r), Nat.succ_mul]
    first | with_reducible assumption | decide | lia | omega
theorem sum_len (B : Nat) : ∀ ts : List (List Nat), (∀ t ∈ ts, t.length ≤ B) → (ts.map (·.length)).sum ≤ ts.length * B
  | [], _ => Nat.zero_le _
  | x :: r, h => by
    have h1 := h x (.head _)
    have h2 := sum_len B r fun t ht => h t (.tail _ ht)
    rw [List.map_cons, List.sum_cons, List.length_cons, Nat.succ_mul]; first | with_reducible assumption | decide | lia | omega
theorem hdrT_len {ws : List Word} (h0 : ws.length ≤ 2 ^ 4) (h : ∀ p ∈ ws, p.1.length ≤ 2 ^ 10 ∧ ∀ v, p.2 = some v → v.length ≤ 2 ^ 10) : (hdrT ws).length ≤ 2 ^ 17 := by
  have := jn_len [59, 32] (2 ^ 12) (ws.map wordT) fun t ht => by
    obtain ⟨p, hp, rfl⟩ := List.mem_map.mp ht
    exact wordT_len (h p hp).1 (h p hp).2
  unfold hdrT
  rw [List.length_map] at this
  simp only [List.length_cons, List.length_nil] at this
  have h3 : ws.length * (2 ^ 12 + (0 + 1 + 1)) ≤ 2 ^ 4 * (2 ^ 12 + (0 + 1 + 1)) := Nat.mul_le_mul_right _ h0
  first | with_reducible assumption | decide | lia | omega
end Mine
end
section
open PySem PySem.W PyProof.Rows PySem.Calls
set_option autoImplicit false
set_option maxRecDepth 100000
namespace Mine
/- a list of texts that grows -/
noncomputable abbrev txs (ts : List (List Nat × Tok)) : List Value := ts.map fun p => .str (T p.1) p.2
section
variable {prog : Program} {w : World} {A : Around} {E : Value → Shared → Prop} {h : Heap} {g : Array GenState} {d : Drawn} {tk : Nat} {os : OsState}
theorem r_join {ce : Env} {sep : Str} {sp : List Nat} {k : Nat} {p1 apos pos : Pos} {e1 : Expr} {Q : Value → Shared → Prop} (hsep : sep = T sp)
    (H : ∀ tk', wpAny (model prog w) A (eval e1 ce) (fun v s₁ => wpAny (model prog w) A (call (.builtin "str.join") [.str (T sp) tk', v]) Q E s₁) E ⟨h, g, d, tk' + 1, os⟩)
    (hbase : attributeBase (.Constant (.str sep) k p1) "join" ce (eval (.Constant (.str sep) k p1) ce) = eval (.Constant (.str sep) k p1) ce := by rfl)
    (hst : starEach [e1] ce = [(false, eval e1 ce)] := by rfl)
    (hfew : ((backTo pos (starEach [e1] ce)).all (fun x => !x.1) && (backToKw pos (keywordEach [] ce)).all (fun x => x.1.isSome)
      && decide (([e1] : List Expr).length + ([] : List Keyword).length + (if ([] : List Keyword).isEmpty then 0 else 1) < 30)) = true := by rfl)
    (hline : (apos.endLine == pos.line) = true := by rfl) : wpAny (model prog w) A (eval (.Call (.Attribute (.Constant (.str sep) k p1) "join" apos) [e1] [] pos) ce) Q E ⟨h, g, d, tk, os⟩ := by
  subst hsep
  refine r_methE PySem.F.plainAttrs_str PySem.F.slot_str_join PySem.F.type_str_join ?_ hbase hfew hline
  refine r_str ?_
  exact ⟨typeIs_str _ _ _, (fun _ e => nomatch e), r_cwB1 (H tk) hst⟩
theorem r_fs {env : Env} {value : Expr} {pos : Pos} {s : Shared} {Q : Value → Shared → Prop} (H : wpAny (model prog w) A (eval value env) (fun v s₁ => ∃ x t, v = .str x t ∧ x.length ≤ sizeLine ∧ ∀ t' k, Q (.str x t') { s₁ with toks := k }) E s) :
    wpAny (model prog w) A (eval (.FormattedValue value 115 none pos) env) Q E s := by
  refine wpAny_FormattedValue_s (wpAny_mono H (fun v s₁ h₁ => ?_) fun _ _ e => e)
  obtain ⟨x, t, rfl, hx, q⟩ := h₁
  exact wpAny_habitSame_str (wpAny_formatField_str (q _ _) (q _ _) hx) (wpAny_formatField_str (q _ _) (q _ _) hx) hx
theorem jt_found {F : Fz} {x : List Nat} {t : Tok} (B : Base w F) (hx : x.length ≤ 2 ^ 20) : Fn w (.builtin "re.Pattern.fullmatch") [.ref 89, .str (T x) t] F 0 1
    (fun F' v => if x ≠ [] ∧ x.all fJtok = true then ∃ a o, v = .ref a ∧ F' a = some o ∧ o.cls = .type "re.Match" else v = .none) := by
  by_cases q : x ≠ [] ∧ x.all fJtok = true
  · refine Fn.mono (full_found (pat_jtok B) (by first | with_reducible assumption | decide | lia | omega) (jt_yes (by first | with_reducible assumption | decide | lia | omega) (List.length_pos_iff.mpr q.1) (fun a ha => List.all_eq_true.mp q.2 a ha)) (by first | with_reducible assumption | decide | lia | omega)) fun F' v ⟨a, e, im⟩ => ?_
    first | refine on_t q ?_ | rw [if_pos q]
    obtain ⟨_, _, _, _, _, _, h1, _⟩ := im
    exact ⟨a, _, e, h1, rfl⟩
  · refine Fn.mono (full_lost (pat_jtok B) (by first | with_reducible assumption | decide | lia | omega) (jt_no (by first | with_reducible assumption | decide | lia | omega) ?_) (by first | with_reducible assumption | decide | lia | omega)) fun F' v e => ?_
    · by_cases e : x = []
      · exact .inl e
      · refine .inr ?_
        have h1 := take_len fJtok x
        rcases Nat.lt_or_ge (x.takeWhile fJtok).length x.length with h | h
        · exact h
        · exfalso
          have h2 : x.takeWhile fJtok = x := (List.takeWhile_sublist fJtok).eq_of_length (by first | with_reducible assumption | decide | lia | omega)
          have h3 : (x.takeWhile fJtok).all fJtok = true := List.all_takeWhile
          rw [h2] at h3
          exact q ⟨e, h3⟩
    · rw [if_neg q]; exact e
end
section
variable {w : World} {F : Fz}
/- what the loop keeps -/
inductive JoiO (F : Fz) (hd : Addr) (M : List (Addr × Obj)) (ls : List (List Word)) (i : Nat) (F' : Fz) (M' : List (Addr × Obj)) (V' : List (Str × Value)) : Prop
  | mk (h1_ : Le F F') (ts : List (List Nat × Tok)) (n : Nat) (h2_ : M' = (hd, lstObj (txs ts) n) :: M) (h3_ : ts.map (·.1) = ((ls.take i).filter (· ≠ [])).map hdrT) (h4_ : Has V' "headers" (.ref hd)) : JoiO F hd M ls i F' M' V'
/- what the loop keeps -/
inductive JoiI (F' : Fz) (al hd : Addr) (ts : List (List Nat × Tok)) (n1 : Nat) (M N : List (Addr × Obj)) (ws : List Word) (j : Nat) (F2 : Fz) (M2 : List (Addr × Obj)) (V2 : List (Str × Value)) : Prop
  | mk (h1_ : Le F' F2) (as_ : List (List Nat × Tok)) (n2 : Nat) (h2_ : M2 = (al, lstObj (txs as_) n2) :: (hd, lstObj (txs ts) n1) :: (M ++ N)) (h3_ : as_.map (·.1) = (ws.take j).map wordT) (h4_ : Has V2 "attr" (.ref al)) (h5_ : Has V2 "headers" (.ref hd)) : JoiI F' al hd ts n1 M N ws j F2 M2 V2
set_option maxHeartbeats 4000000 in
theorem join_fn {l : Addr} {vs : List Value} {n : Nat} {ls : List (List Word)} (hl : F l = some (lstObj vs n)) (hvs : All2 (PairsAt F) vs ls) (hS : Small ls) :
    Fn w (.ref 101) [.ref l] F 6 40 (fun _ v => textOf v (joinT ls)) := by
  intro prog A M h g d tk os Q E C S H
  refine enter (D := 5) (U := 37) (binds := [("lists", .ref l)]) C S (by exact rfl) (by exact rfl) (by exact rfl) (by exact rfl) ?_
  intro h1 tk1 L E' S1 C1
  refine x_assign ?_
  refine r_list0 ?_
  have S2 := S1.push (o := lstObj [] 0) rfl
  refine r_store S2 fun h3 tk3 S3 => ?_
  clear S1 S2
  refine xl_for ?_
  refine r_name S3 (by exact rfl) ?_
  generalize hrl : h1.objs.size = hd at S3
  have C2 := C1.mono (d' := 4) (u' := 30)
  clear C1
  generalize A.deeper _ = A1 at C2 ⊢
  show wpAny _ _ _ _ _ ⟨_, g, d, _, os⟩
  refine loop_list (l := l) (vs := vs) (JoiO F hd M ls) C2.hd ?_ ?_ ?_ S3 ?_
  · rintro i F' M' V' ⟨le, _⟩
    exact .inl ⟨n, le _ _ hl⟩
  · rintro i x F' M' V' N h4 tk4 E4 P hP hx' ⟨le, ts, n1, rfl, hts, lr⟩ S4
    obtain ⟨ws, hws, a, pvs, pn, rfl, ha, aps⟩ := hvs.get hx'
    obtain ⟨hw1, hw2⟩ := hS.2 ws (List.mem_of_getElem? hws)
    refine wpAny_assign_Name (r_store S4 fun h5 tk5 S5 => ?_)
    refine x_assign ?_
    refine r_list0 ?_
    have S6 := S5.push (o := lstObj [] 0) rfl
    refine r_store S6 fun h7 tk7 S7 => ?_
    refine xl_for ?_
    refine r_name S7 (by exact rfl) ?_
    clear S4 S5 S6
    generalize hpl : h5.objs.size = al at S7
    show wpAny _ _ _ _ _ ⟨_, g, d, _, os⟩
    refine loop_list (l := a) (vs := pvs) (JoiI F' al hd ts n1 M N ws) C2.hd ?_ ?_ ?_ S7 ?_
    · rintro j F2 M2 V2 ⟨le2, _⟩
      exact .inl ⟨pn, le2 _ _ (le _ _ ha)⟩
    · rintro j y F2 M2 V2 N2 h8 tk8 E8 P hP hy ⟨le2, as, n2, rfl, has, la, lh⟩ S8
      obtain ⟨p, hp, b, pt, u, rfl, hu, hb⟩ := aps.get hy
      obtain ⟨hp1, hp2⟩ := hw2 p (List.mem_of_getElem? hp)
      obtain ⟨k, o⟩ := p
      dsimp only at hp1 hp2 hu hb
      refine r_unpack2 C2.mono S8 (S8.f (le2 _ _ (le _ _ hb))) fun h9 tk9 S9 => ?_
      refine x_ifJ (fun s => ∃ F3 h3 tk3 V3 t3, s = ⟨h3, g, d, tk3, os⟩ ∧ Le F2 F3 ∧ Sf w h3 F3 ((al, lstObj (txs as) n2) :: (hd, lstObj (txs ts) n1) :: (M ++ N ++ N2)) L V3 ∧ Has V3 "k" (.str (T (wordT (k, o))) t3) ∧ Has V3 "attr" (.ref al) ∧ Has V3 "headers" (.ref hd)) ?_ ?_
      · intro PJ hJ
        refine wpAny_isTrue_Compare1 ?_
        refine r_name S9 (by exact rfl) ?_
        refine r_none ?_
        cases o with
        | none =>
          subst hu
          refine wpAny_isNot_self rfl ?_
          refine truthy_b ?_
          first | with_reducible refine on_f (by decide) ?_ | refine on_f (by decide) ?_ | rw [if_neg (by decide)]
          exact x_nil ⟨rfl, hJ ⟨F2, h9, tk9, _, pt, rfl, Le.refl _, S9, by exact rfl, by exact la, by exact lh⟩⟩
        | some v =>
          obtain ⟨t, rfl⟩ := hu
          have hv := hp2 v rfl
          refine isnot_str_none ?_
          refine truthy_b ?_
          first | with_reducible refine on_t rfl ?_ | refine on_t rfl ?_ | rw [if_pos rfl]
          refine x_ifJ (fun s => ∃ F3 h3 tk3 V3 t3, s = ⟨h3, g, d, tk3, os⟩ ∧ Le F2 F3 ∧ Sf w h3 F3 ((al, lstObj (txs as) n2) :: (hd, lstObj (txs ts) n1) :: (M ++ N ++ N2)) L V3 ∧ Has V3 "v" (.str (T (valT v)) t3) ∧ Has V3 "k" (.str (T k) pt) ∧ Has V3 "attr" (.ref al) ∧ Has V3 "headers" (.ref hd)) ?_ ?_
          · intro PJ hJ
            refine isTrue_not ?_
            refine isT ?_
            refine r_pat S9 (by exact rfl) (by exact rfl) rfl rfl slot_fullmatch type_fullmatch ?_
            refine r_cwB1 ?_
            refine r_name S9 (by exact rfl) ?_
            refine Fn.use (jt_found S9.st.b (by first | with_reducible assumption | decide | lia | omega)) C2.mono S9 ?_
            rintro F3 h10 tk10 m le3 S10 hm
            by_cases q : v ≠ [] ∧ v.all fJtok = true
            · rw [if_pos q] at hm
              obtain ⟨c, oc, rfl, hc, hcc⟩ := hm
              refine truthy_mat (S10.f hc) hcc ?_
              first | with_reducible refine on_f (by decide) ?_ | refine on_f (by decide) ?_ | rw [if_neg (by decide)]
              have : valT v = v := if_pos q
              exact x_nil ⟨rfl, hJ ⟨F3, h10, tk10, _, t, rfl, le3, S10, by rw [this]; exact rfl, by exact rfl, by exact la, by exact lh⟩⟩
            · rw [if_neg q] at hm
              subst hm
              refine truthy_none ?_
              first | with_reducible refine on_t (by decide) ?_ | refine on_t (by decide) ?_ | rw [if_pos (by decide)]
              have : valT v = 34 :: (esc v ++ [34]) := if_neg q
              refine x_assign ?_
              refine r_pat S10 (by exact rfl) (by exact rfl) rfl rfl slot_sub type_sub ?_
              refine r_cwB2 ?_
              obtain ⟨oL, S20, nL⟩ := S10
              refine lamJ_new S20 ?_ rfl rfl rfl rfl rfl
              intro F7 h20 tk21 lf c' ctv pm le7 S21 lo lc
              have S22 : Sf w h20 F7 _ L _ := ⟨oL, S21, nL⟩
              refine r_name S22 (by exact rfl) ?_
              obtain ⟨ps, z1, z2⟩ := subs_jesc (x := v) v.length 0 v (Nat.le_refl _) rfl (Nat.zero_le _)
              have hcb : Cb w F7 (.ref lf) (fun y => [92] ++ y) 1 9 := fun F8 a8 x8 b0 e0 b8 e8 r8 le8 im8 hbe8 he8 hx8 =>
                lam_fn (pre := [92]) (le8 _ _ lo) (let ⟨oc, vs, t, q1, q2, q3⟩ := lc; ⟨oc, vs, t, le8 _ _ q1, q2, q3⟩) rfl (by decide) rfl (fun _ => rfl) rfl im8 hbe8 he8 hx8
              have hvv := (esc_len v).2
              refine Fn.useT (sub_fn (by first | with_reducible assumption | decide | lia | omega) z1 (pat_jesc S22.st.b) lo rfl hcb ?_) C2.mono S22 ?_
              · rw [← List.length_flatten, z2]; first | with_reducible assumption | decide | lia | omega
              intro F8 h21 tk22 t8 le8 S23
              rw [z2]
              refine r_store S23 fun h22 tk23 S24 => ?_
              refine x_assign ?_
              refine wpAny_BinOp ?_
              refine r_str ?_
              refine r_name S24 (by exact rfl) ?_
              refine KPc.mod_str (X' := ⟨#[34, 37, 115, 34]⟩) (T := fun z => Str.ofString "\"" ++ z ++ Str.ofString "\"") rfl (by rw [T_len]; first | with_reducible assumption | decide | lia | omega) (fun z hz => q_meets _ _ z hz) fun t9 tk24 => ?_
              have e9 : Str.ofString "\"" ++ T (esc v) ++ Str.ofString "\"" = T (valT v) := by
                have e8 : Str.ofString "\"" = T [34] := rfl
                rw [this, e8, T_add, T_add]; rfl
              rw [e9]
              refine r_store S24 fun h23 tk25 S25 => ?_
              exact x_nil ⟨rfl, hJ ⟨F8, h23, tk25, _, t9, rfl, (le3.trans le7).trans le8, S25, by exact rfl, by exact rfl, by exact la, by exact lh⟩⟩
          · rintro s ⟨F3, h10, tk10, V3, t3, rfl, le3, S10, lv, lk, la3, lh3⟩
            have hvl := valT_len v
            refine x_assign ?_
            refine wpAny_JoinedStr ?_
            refine r_fs ?_
            refine r_name S10 lk ?_
            refine ⟨_, _, rfl, by rw [T_len, sizeLine_eq]; first | with_reducible assumption | decide | lia | omega, fun t4 tk11 => ?_⟩
            have e0 : Str.empty ++ T k = T k := T_add [] k
            refine ⟨_, _, rfl, by rw [e0, T_len, sizeLine_eq]; first | with_reducible assumption | decide | lia | omega, ?_⟩
            rw [e0]
            refine r_str ?_
            have e1 : T k ++ Str.ofString "=" = T (k ++ [61]) := T_add k [61]
            refine ⟨_, _, rfl, by rw [e1, T_len, sizeLine_eq, List.length_append]; simp only [List.length_singleton]; first | with_reducible assumption | decide | lia | omega, ?_⟩
            rw [e1]
            refine r_fs ?_
            refine r_name S10 lv ?_
            refine ⟨_, _, rfl, by rw [T_len, sizeLine_eq]; first | with_reducible assumption | decide | lia | omega, fun t5 tk12 => ?_⟩
            have e2 : T (k ++ [61]) ++ T (valT v) = T (wordT (k, some v)) := by
              rw [T_add, List.append_assoc]; rfl
            have hl3 := wordT_len (p := (k, some v)) hp1 hp2
            refine ⟨_, _, rfl, by rw [e2, T_len, sizeLine_eq]; first | with_reducible assumption | decide | lia | omega, ?_⟩
            rw [e2]
            refine ⟨by rw [T_len, sizeLine_eq]; first | with_reducible assumption | decide | lia | omega, ?_⟩
            refine r_store S10 fun h11 tk13 S11 => ?_
            exact x_nil ⟨rfl, hJ ⟨F3, h11, tk13, _, _, rfl, le3, S11, by exact rfl, by exact la3, by exact lh3⟩⟩
      · rintro s ⟨F3, h10, tk10, V3, t3, rfl, le3, S10, lk, la3, lh3⟩
        refine x_expr ?_
        refine r_meth (v := .ref al) S10 la3 ⟨_, S10.m (.head _), rfl⟩ (fun b hb => by cases hb; exact ⟨_, S10.m (.head _), rfl⟩) PySem.F.plainAttrs_list PySem.F.slot_list_append PySem.F.type_list_append ?_
        refine r_cwB1 ?_
        refine r_name S10 lk ?_
        have hal : as.length ≤ 2 ^ 4 := by
          have := congrArg List.length has
          rw [List.length_map, List.length_map, List.length_take] at this; first | with_reducible assumption | decide | lia | omega
        refine wp_append (M1 := []) S10 (by rw [List.length_map, sizeLine_eq]; first | with_reducible assumption | decide | lia | omega) fun h11 n11 S11 => ?_
        refine x_nil ?_
        refine hP ⟨F3, (al, lstObj (txs (as ++ [(wordT (k, o), t3)])) n11) :: (hd, lstObj (txs ts) n1) :: (M ++ N), V3, h11, tk10, rfl, ?_, le2.trans le3, _, n11, rfl, ?_, la3, lh3⟩
        · have : txs (as ++ [(wordT (k, o), t3)]) = txs as ++ [.str (T (wordT (k, o))) t3] := by rw [txs, List.map_append]; rfl
          rw [this]
          exact S11
        · rw [List.map_append, has, List.take_add_one, hp, List.map_append]; rfl
    · rintro F2 M2 V2 h8 tk8 ⟨le2, as, n2, rfl, has, la, lh⟩ S8
      have hpl2 : pvs.length = ws.length := aps.len
      rw [hpl2, List.take_length] at has
      have hal : as.length = ws.length := by
        have := congrArg List.length has
        rw [List.length_map, List.length_map] at this; exact this
      have htl : ts.length ≤ 2 ^ 6 := by
        have h1 := congrArg List.length hts
        have h2 := List.length_filter_le (fun x : List Word => decide (x ≠ [])) (ls.take i)
        rw [List.length_map, List.length_map] at h1
        rw [List.length_take] at h2
        have := hS.1
        first | with_reducible assumption | decide | lia | omega
      have hnext : ((ls.take (i + 1)).filter (· ≠ [])).map hdrT = ((ls.take i).filter (· ≠ [])).map hdrT ++ (if ws = [] then [] else [hdrT ws]) := by
        rw [List.take_add_one, hws, List.filter_append, List.map_append]
        congr 1
        show ([ws].filter (fun x => decide (x ≠ []))).map hdrT = _
        by_cases q : ws = []
        · subst q; rfl
        · rw [List.filter_cons, if_pos (by simpa using q), if_neg q]; rfl
      refine x_if ?_
      refine isT ?_
      refine r_name S8 la ?_
      refine truthy_lst (S8.m (.head _)) (by rw [List.length_map]; first | with_reducible assumption | decide | lia | omega) fun tk9 => ?_
      by_cases q : ws = []
      · have : as = [] := List.eq_nil_of_length_eq_zero (by rw [hal, q]; rfl)
        subst this
        first | with_reducible refine on_f (by decide) ?_ | refine on_f (by decide) ?_ | rw [if_neg (by decide)]
        refine x_nil ?_
        refine x_nil ?_
        refine hP ⟨F2, (hd, lstObj (txs ts) n1) :: M, V2, h8, tk9, rfl, S8.tl, le.trans le2, ts, n1, rfl, ?_, lh⟩
        rw [hnext, if_pos q, List.append_nil, hts]
      · have : (!(txs as).isEmpty) = true := by
          cases as with
          | nil => exact absurd (List.eq_nil_of_length_eq_zero hal.symm) q
          | cons a b => rfl
        first | refine on_t this ?_ | rw [if_pos this]
        refine x_expr ?_
        refine r_meth (v := .ref hd) S8 lh ⟨_, S8.m (.tail _ (.head _)), rfl⟩ (fun b hb => by cases hb; exact ⟨_, S8.m (.tail _ (.head _)), rfl⟩) PySem.F.plainAttrs_list PySem.F.slot_list_append PySem.F.type_list_append ?_
        refine r_cwB1 ?_
        with_reducible refine r_join (sp := [59, 32]) ?ja1 ?jH1 ?jb1 ?jc1 ?jd1 ?je1
        case ja1 | jb1 | jc1 | jd1 | je1 => rfl
        intro tk10
        refine r_name S8 la ?_
        have hjl : ((as.map (·.1.length)).sum) ≤ as.length * 2 ^ 12 := by
          have := sum_len (2 ^ 12) (as.map (·.1)) fun t ht => by
            rw [has] at ht
            obtain ⟨p, hp, rfl⟩ := List.mem_map.mp ht
            exact wordT_len (hw2 p hp).1 (hw2 p hp).2
          rw [List.map_map, List.length_map] at this
          exact this
        refine wp_join (S8.m (.head _)) ?_ fun t' tk11 => ?_
        · have h3 : as.length * 2 ^ 12 ≤ 2 ^ 4 * 2 ^ 12 := Nat.mul_le_mul_right _ (by first | with_reducible assumption | decide | lia | omega)
          rw [sizeLine_eq]
          simp only [List.length_cons, List.length_nil]
          first | with_reducible assumption | decide | lia | omega
        have ehd : jn [59, 32] (as.map (·.1)) = hdrT ws := by rw [has]; rfl
        rw [ehd]
        refine wp_append (M1 := [(al, _)]) S8 (by rw [List.length_map, sizeLine_eq]; first | with_reducible assumption | decide | lia | omega) fun h11 n11 S11 => ?_
        refine x_nil ?_
        refine x_nil ?_
        refine hP ⟨F2, (hd, lstObj (txs (ts ++ [(hdrT ws, t')])) n11) :: M, V2, h11, tk11, rfl, ?_, le.trans le2, _, n11, rfl, ?_, lh⟩
        · have : txs (ts ++ [(hdrT ws, t')]) = txs ts ++ [.str (T (hdrT ws)) t'] := by rw [txs, List.map_append]; rfl
          rw [this]
          exact S11.tl
        · rw [hnext, if_neg q, List.map_append, hts]; rfl
    · exact ⟨Le.refl _, [], 0, rfl, rfl, rfl, lr⟩
  · rintro F' M' V' h4 tk4 ⟨le, ts, n1, rfl, hts, lr⟩ S4
    rw [hvs.len, List.take_length] at hts
    have htl : ts.length ≤ 2 ^ 6 := by
      have h1 := congrArg List.length hts
      have h2 := List.length_filter_le (fun x : List Word => decide (x ≠ [])) ls
      rw [List.length_map, List.length_map] at h1
      have := hS.1
      first | with_reducible assumption | decide | lia | omega
    refine x_ret ?_
    with_reducible refine r_join (sp := [44, 32]) ?ja2 ?jH2 ?jb2 ?jc2 ?jd2 ?je2
    case ja2 | jb2 | jc2 | jd2 | je2 => rfl
    intro tk10
    refine r_name S4 lr ?_
    have hjl : ((ts.map (·.1.length)).sum) ≤ ts.length * 2 ^ 17 := by
      have := sum_len (2 ^ 17) (ts.map (·.1)) fun t ht => by
        rw [hts] at ht
        obtain ⟨ws, hw, rfl⟩ := List.mem_map.mp ht
        have hw := (List.mem_filter.mp hw).1
        exact hdrT_len (hS.2 ws hw).1 (hS.2 ws hw).2
      rw [List.map_map, List.length_map] at this
      exact this
    refine wp_join (S4.m (.head _)) ?_ fun t' tk11 => ?_
    · have h3 : ts.length * 2 ^ 17 ≤ 2 ^ 6 * 2 ^ 17 := Nat.mul_le_mul_right _ htl
      rw [sizeLine_eq]
      simp only [List.length_cons, List.length_nil]
      first | with_reducible assumption | decide | lia | omega
    rw [hts]
    exact H F' h4 _ _ le S4.st.tl ⟨t', rfl⟩
  · exact ⟨Le.refl _, [], 0, rfl, rfl, rfl⟩
end
end Mine
end
section
open PySem PySem.W PyProof.Rows PySem.Calls
set_option autoImplicit false
set_option maxRecDepth 100000
namespace Mine

/- words, each with the words within it -/
inductive Fo (α : Type) where
  | nil : Fo α
  | cons (c : α) (kids rest : Fo α) : Fo α
section
variable {α : Type}
noncomputable def Fo.isNil : Fo α → Bool
  | .nil => true
  | .cons _ _ _ => false
noncomputable def Fo.nodes : Fo α → Nat
  | .nil => 0
  | .cons _ k r => k.nodes + r.nodes + 1
noncomputable def Fo.len : Fo α → Nat
  | .nil => 0
  | .cons _ _ r => r.len + 1
noncomputable def Fo.all (p : α → Bool) : Fo α → Bool
  | .nil => true
  | .cons c k r => p c && k.all p && r.all p
noncomputable def Fo.kid : Fo α → Nat → Option (α × Fo α)
  | .nil, _ => none
  | .cons c k _, 0 => some (c, k)
  | .cons _ _ r, i + 1 => r.kid i
noncomputable def Fo.setKid : Fo α → Nat → Fo α → Fo α
  | .nil, _, _ => .nil
  | .cons c _ r, 0, k' => .cons c k' r
  | .cons c k r, i + 1, k' => .cons c k (r.setKid i k')
/- without the word at a place -/
noncomputable def Fo.del : Fo α → Nat → Fo α
  | .nil, _ => .nil
  | .cons _ _ r, 0 => r
  | .cons c k r, i + 1 => .cons c k (r.del i)
/- a lone word laid into each gap of the outermost words -/
noncomputable def ins1 (x : α) : Fo α → List (Fo α)
  | .nil => [.cons x .nil .nil]
  | .cons c k r => .cons x .nil (.cons c k r) :: (ins1 x r).map (.cons c k)
/- .. into each gap within each word -/
noncomputable def withinG (x : α) : Fo α → List (List (Fo α))
  | .nil => []
  | .cons c k r => ((if k.isNil then [.cons x .nil .nil] else ins1 x k ++ (withinG x k).flatten).map fun k' => .cons c k' r) :: (withinG x r).map (List.map (.cons c k))
noncomputable def laid (x : α) (w : Fo α) : List (Fo α) := ins1 x w ++ (withinG x w).flatten
/- each lone word plucked, word by word -/
noncomputable def pluckG : Fo α → List (List (Fo α))
  | .nil => []
  | .cons c k r => (if k.isNil then [r] else (pluckG k).flatten.map fun k' => .cons c k' r) :: (pluckG r).map (List.map (.cons c k))
noncomputable def pluck (w : Fo α) : List (Fo α) := (pluckG w).flatten
/- what lies into a word -/
noncomputable def inner (x : α) (k : Fo α) : List (Fo α) := if k.isNil then [.cons x .nil .nil] else laid x k

section
variable {α : Type} {c x : α} {k r k' : Fo α} {i : Nat} {p : α → Bool}
theorem setKid_0 : (Fo.cons c k r).setKid 0 k' = .cons c k' r := rfl
theorem setKid_s : (Fo.cons c k r).setKid (i + 1) k' = .cons c k (r.setKid i k') := rfl
theorem del_nil : (Fo.nil : Fo α).del i = .nil := rfl
theorem del_0 : (Fo.cons c k r).del 0 = r := rfl
theorem del_s : (Fo.cons c k r).del (i + 1) = .cons c k (r.del i) := rfl
theorem all_nil : (Fo.nil : Fo α).all p = true := rfl
theorem all_cons : (Fo.cons c k r).all p = (p c && k.all p && r.all p) := rfl
theorem nodes_nil : (Fo.nil : Fo α).nodes = 0 := rfl
theorem nodes_cons : (Fo.cons c k r).nodes = k.nodes + r.nodes + 1 := rfl
theorem len_cons : (Fo.cons c k r).len = r.len + 1 := rfl
theorem isNil_nil : (Fo.nil : Fo α).isNil = true := rfl
theorem isNil_cons : (Fo.cons c k r).isNil = false := rfl
theorem ins1_nil : ins1 x .nil = [.cons x .nil .nil] := rfl
theorem ins1_cons : ins1 x (.cons c k r) = .cons x .nil (.cons c k r) :: (ins1 x r).map (.cons c k) := rfl
theorem withinG_nil : withinG x .nil = [] := rfl
theorem withinG_cons : withinG x (.cons c k r) = ((if k.isNil then [.cons x .nil .nil] else ins1 x k ++ (withinG x k).flatten).map fun k' => .cons c k' r) :: (withinG x r).map (List.map (.cons c k)) := rfl
theorem pluckG_nil : pluckG (Fo.nil : Fo α) = [] := rfl
theorem pluckG_cons : pluckG (.cons c k r) = (if k.isNil then [r] else (pluckG k).flatten.map fun k' => .cons c k' r) :: (pluckG r).map (List.map (.cons c k)) := rfl
end
theorem ins1_len (x : α) : ∀ w : Fo α, (ins1 x w).length = w.len + 1
  | .nil => rfl
  | .cons c k r => by show ((ins1 x r).map _).length + 1 = _; rw [List.length_map, ins1_len x r]; rfl
theorem withinG_len (x : α) : ∀ w : Fo α, (withinG x w).length = w.len
  | .nil => rfl
  | .cons c k r => by show ((withinG x r).map _).length + 1 = _; rw [List.length_map, withinG_len x r]; rfl
theorem pluckG_len : ∀ w : Fo α, (pluckG w).length = w.len
  | .nil => rfl
  | .cons c k r => by show ((pluckG r).map _).length + 1 = _; rw [List.length_map, pluckG_len r]; rfl
theorem kid_some : ∀ (w : Fo α) (i : Nat), i < w.len → ∃ c k, w.kid i = some (c, k)
  | .nil, i, h => absurd h (Nat.not_lt_zero _)
  | .cons c k r, 0, _ => ⟨c, k, rfl⟩
  | .cons c k r, i + 1, h => kid_some r i (Nat.lt_of_succ_lt_succ h)
theorem withinG_at (x : α) : ∀ (w : Fo α) (i : Nat) (c : α) (k : Fo α), w.kid i = some (c, k) → (withinG x w)[i]? = some ((inner x k).map fun k' => w.setKid i k')
  | .nil, i, c, k, h => nomatch h
  | .cons c k r, 0, _, _, h => by cases h; cases k <;> rfl
  | .cons c k r, i + 1, c', k', h => by
    show ((withinG x r).map _)[i]? = _
    rw [List.getElem?_map, withinG_at x r i c' k' h]
    simp [setKid_s, Function.comp_def]
theorem pluckG_at : ∀ (w : Fo α) (i : Nat) (c : α) (k : Fo α), w.kid i = some (c, k) → (pluckG w)[i]? = some (if k.isNil then [w.del i] else (pluck k).map fun k' => w.setKid i k')
  | .nil, i, c, k, h => nomatch h
  | .cons c k r, 0, _, _, h => by cases h; cases k <;> rfl
  | .cons c k r, i + 1, c', k', h => by
    show ((pluckG r).map _)[i]? = _
    rw [List.getElem?_map, pluckG_at r i c' k' h]
    cases k' <;> simp [setKid_s, del_s, Function.comp_def, isNil_nil, isNil_cons]
end

/- the text of words -/
noncomputable def R : Fo Nat → List Nat
  | .nil => []
  | .cons c k r => c :: ((if k.isNil then [] else 61 :: valT (R k)) ++ (if r.isNil then [] else 59 :: 32 :: R r))
noncomputable def vk (k : Fo Nat) : Option (List Nat) := if k.isNil then none else some (R k)
noncomputable def words : Fo Nat → List Word
  | .nil => []
  | .cons c k r => ([c], vk k) :: words r
theorem Rt_nil : R .nil = [] := rfl
theorem Rt_cons {c : Nat} {k r : Fo Nat} : R (.cons c k r) = c :: ((if k.isNil then [] else 61 :: valT (R k)) ++ (if r.isNil then [] else 59 :: 32 :: R r)) := rfl
theorem words_nil : words .nil = [] := rfl
theorem words_cons {c : Nat} {k r : Fo Nat} : words (.cons c k r) = ([c], vk k) :: words r := rfl
theorem words_len : ∀ w : Fo Nat, (words w).length = w.len
  | .nil => rfl
  | .cons c k r => by show (words r).length + 1 = _; rw [words_len r]; rfl
theorem R_words : ∀ w : Fo Nat, hdrT (words w) = R w
  | .nil => rfl
  | .cons c k .nil => by cases k <;> simp [Rt_nil, Rt_cons, isNil_nil, isNil_cons, hdrT, words_nil, words_cons, jn_one, wordT, vk]
  | .cons c k (.cons c2 k2 r2) => by
    have ih := R_words (.cons c2 k2 r2)
    have e : hdrT (words (.cons c k (.cons c2 k2 r2))) = wordT ([c], vk k) ++ [59, 32] ++ hdrT (words (.cons c2 k2 r2)) := rfl
    rw [e, ih]
    cases k <;> simp [wordT, vk, Rt_nil, Rt_cons, isNil_nil, isNil_cons]
theorem words_kid : ∀ (w : Fo Nat) (i : Nat) (c : Nat) (k : Fo Nat), w.kid i = some (c, k) → (words w)[i]? = some ([c], vk k)
  | .nil, i, c, k, h => nomatch h
  | .cons c k r, 0, _, _, h => by cases h; rfl
  | .cons c k r, i + 1, c', k', h => words_kid r i c' k' h
theorem words_setKid : ∀ (w : Fo Nat) (i : Nat) (c : Nat) (k k' : Fo Nat), w.kid i = some (c, k) → words (w.setKid i k') = (words w).take i ++ ([c], vk k') :: (words w).drop (i + 1)
  | .nil, i, c, k, _, h => nomatch h
  | .cons c k r, 0, _, _, k', h => by cases h; rfl
  | .cons c k r, i + 1, c', k1, k', h => by
    show ([c], vk k) :: words (r.setKid i k') = _
    rw [words_setKid r i c' k1 k' h]; rfl
theorem words_del : ∀ (w : Fo Nat) (i : Nat), words (w.del i) = (words w).take i ++ (words w).drop (i + 1)
  | .nil, i => by simp [del_nil, words_nil]
  | .cons c k r, 0 => rfl
  | .cons c k r, i + 1 => by
    show ([c], vk k) :: words (r.del i) = _
    rw [words_del r i]; rfl
theorem words_ins1 (x : Nat) : ∀ (w : Fo Nat) (i : Nat), i ≤ w.len → ∃ u, (ins1 x w)[i]? = some u ∧ words u = (words w).take i ++ ([x], none) :: (words w).drop i
  | .nil, i, h => by
    have : i = 0 := Nat.le_zero.mp h
    subst this; exact ⟨_, rfl, rfl⟩
  | .cons c k r, 0, _ => ⟨_, rfl, rfl⟩
  | .cons c k r, i + 1, h => by
    obtain ⟨u, h1, h2⟩ := words_ins1 x r i (Nat.le_of_succ_le_succ h)
    refine ⟨.cons c k u, ?_, ?_⟩
    · show ((ins1 x r).map _)[i]? = _
      rw [List.getElem?_map, h1]; rfl
    · show ([c], vk k) :: words u = _
      rw [h2]; rfl
theorem R_len : ∀ w : Fo Nat, (R w).length + 6 ≤ 6 * 2 ^ w.nodes
  | .nil => Nat.le_refl _
  | .cons c k r => by
    have h1 := R_len k
    have h2 := R_len r
    have h3 := valT_len (R k)
    have h4 : (R (.cons c k r)).length ≤ 6 + 2 * (R k).length + (R r).length := by
      cases k <;> cases r <;> simp only [Rt_nil, Rt_cons, isNil_nil, isNil_cons, if_true, if_false, Bool.false_eq_true, List.length_append, List.length_cons, List.length_nil] at h3 ⊢ <;> first | with_reducible assumption | decide | lia | omega
    show _ ≤ 6 * 2 ^ (k.nodes + r.nodes + 1)
    have hp := Nat.two_pow_pos k.nodes
    have hq := Nat.two_pow_pos r.nodes
    rw [Nat.pow_succ, Nat.pow_add]
    generalize 2 ^ k.nodes = p at *
    generalize 2 ^ r.nodes = q at *
    obtain ⟨p, rfl⟩ : ∃ p', p = p' + 1 := ⟨p - 1, by first | with_reducible assumption | decide | lia | omega⟩
    obtain ⟨q, rfl⟩ : ∃ q', q = q' + 1 := ⟨q - 1, by first | with_reducible assumption | decide | lia | omega⟩
    have : (p + 1) * (q + 1) = p * q + p + q + 1 := by rw [Nat.succ_mul, Nat.mul_succ]; first | with_reducible assumption | decide | lia | omega
    rw [this]
    generalize p * q = z
    first | with_reducible assumption | decide | lia | omega

/- the eight signs -/
noncomputable def okL (c : Nat) : Bool := [97, 66, 126, 39, 34, 92, 47, 91].contains c
theorem okL_all {P : Nat → Prop} (h : P 97 ∧ P 66 ∧ P 126 ∧ P 39 ∧ P 34 ∧ P 92 ∧ P 47 ∧ P 91) {c : Nat} (hc : okL c = true) : P c := by
  have : c ∈ [97, 66, 126, 39, 34, 92, 47, 91] := List.contains_iff_mem.mp hc
  simp only [List.mem_cons, List.not_mem_nil, or_false] at this
  obtain ⟨h1, h2, h3, h4, h5, h6, h7, h8⟩ := h
  rcases this with rfl | rfl | rfl | rfl | rfl | rfl | rfl | rfl <;> assumption
theorem okL_tok {c : Nat} (hc : okL c = true) : fTok c = true ∧ fSp c = false ∧ fTwin c = false := okL_all (P := fun c => fTok c = true ∧ fSp c = false ∧ fTwin c = false) (by decide +kernel) hc
theorem jtok_val : ∀ c, fJtok c = true → fVal c = true ∧ c ≠ 34 := by
  have h : ∀ c : Fin 256, fJtok c.val = true → fVal c.val = true ∧ c.val ≠ 34 := by decide +kernel
  intro c hc
  have hl : c < 256 := by
    unfold fJtok at hc
    exact of_decide_eq_true (Bool.and_eq_true_iff.mp hc).1
  exact h ⟨c, hl⟩ hc
theorem f59 : fTok 59 = false ∧ fVal 59 = false ∧ fSp 59 = false := by decide +kernel
theorem f44 : fTok 44 = false ∧ fVal 44 = false ∧ fSp 44 = false := by decide +kernel
theorem f61 : fTok 61 = false := by decide +kernel
theorem R_head : ∀ {w : Fo Nat}, w.all okL = true → w ≠ .nil → ∃ c r, R w = c :: r ∧ okL c = true
  | .nil, _, h => absurd rfl h
  | .cons c k r, h, _ => by
    have hc : okL c = true := (Bool.and_eq_true_iff.mp (Bool.and_eq_true_iff.mp h).1).1
    cases k
    · exact ⟨c, _, rfl, hc⟩
    · exact ⟨c, _, rfl, hc⟩
/- the reading of a header's text -/
theorem run_R : ∀ (w : Fo Nat) (sp tail : List Nat) (ps : List Word) (rs out : List (List Word)), w.all okL = true → w ≠ .nil → (∀ a ∈ sp, fSp a = true) → (∀ a, tail.head? = some a → a = 44) → Run tail (ps ++ words w) rs out → Run (sp ++ (R w ++ tail)) ps rs out
  | .nil, _, _, _, _, _, _, h, _, _, _ => absurd rfl h
  | .cons c k r, sp, tail, ps, rs, out, hok, _, hsp, ht, run => by
    obtain ⟨h12, hr⟩ := Bool.and_eq_true_iff.mp hok
    obtain ⟨hc, hk⟩ := Bool.and_eq_true_iff.mp h12
    obtain ⟨c1, c2, c3⟩ := okL_tok hc
    -- what stands behind the word
    have beh : ∃ tail', R (.cons c k r) ++ tail = [c] ++ ((if k.isNil then [] else 61 :: valT (R k)) ++ tail') ∧ (∀ a, tail'.head? = some a → a = 44 ∨ a = 59) ∧ Run tail' (ps ++ [([c], vk k)]) rs out := by
      cases r with
      | nil =>
        refine ⟨tail, ?_, fun a ha => .inl (ht a ha), run⟩
        cases k <;> simp [Rt_nil, Rt_cons, isNil_nil, isNil_cons]
      | cons c2 k2 r2 =>
        refine ⟨59 :: 32 :: (R (.cons c2 k2 r2) ++ tail), ?_, fun a ha => .inr (by cases ha; rfl), ?_⟩
        · cases k <;> simp [Rt_nil, Rt_cons, isNil_nil, isNil_cons]
        · have ih := run_R (.cons c2 k2 r2) [] tail (ps ++ [([c], vk k)]) rs out hr (fun e => nomatch e) (fun _ h => nomatch h) ht (by rw [List.append_assoc]; exact run)
          refine .cons (Step.junk (j := [32]) (fun a ha => by rw [List.mem_singleton] at ha; subst ha; decide +kernel) ?_) ih
          intro a ha
          obtain ⟨c', r', e, hc'⟩ := R_head hr (fun e => nomatch e)
          have ha : (R (.cons c2 k2 r2) ++ tail).head? = some a := ha
          rw [e] at ha
          cases ha
          exact (okL_tok hc').2.2
    obtain ⟨tail', e, hh, run'⟩ := beh
    rw [e]
    have fv : ∀ a, tail'.head? = some a → fVal a = false := fun a ha => by rcases hh a ha with rfl | rfl; exact f44.2.1; exact f59.2.1
    have ft : ∀ a, tail'.head? = some a → fTok a = false := fun a ha => by rcases hh a ha with rfl | rfl; exact f44.1; exact f59.1
    have hva : Val ((if k.isNil then [] else 61 :: valT (R k)) ++ tail') tail' (vk k) ∧ ∀ a, ((if k.isNil then [] else 61 :: valT (R k)) ++ tail').head? = some a → fTok a = false := by
      cases k with
      | nil => exact ⟨.none fun a ha => by rcases hh a ha with rfl | rfl; exact ⟨by decide, f44.2.2⟩; exact ⟨by decide, f59.2.2⟩, ft⟩
      | cons c2 k2 r2 =>
        refine ⟨?_, fun a ha => by cases ha; exact f61⟩
        show Val (61 :: (valT (R (.cons c2 k2 r2)) ++ tail')) tail' (some (R (.cons c2 k2 r2)))
        by_cases q : R (.cons c2 k2 r2) ≠ [] ∧ (R (.cons c2 k2 r2)).all fJtok = true
        · have e2 : valT (R (.cons c2 k2 r2)) = R (.cons c2 k2 r2) := if_pos q
          rw [e2]
          refine .plain q.1 ?_ (fun a ha => (jtok_val a (List.all_eq_true.mp q.2 a ha)).1) fv
          intro h
          have := List.mem_of_head? h
          exact (jtok_val 34 (List.all_eq_true.mp q.2 34 this)).2 rfl
        · have e2 : valT (R (.cons c2 k2 r2)) = 34 :: (esc (R (.cons c2 k2 r2)) ++ [34]) := if_neg q
          rw [e2]
          have := Val.quo (v := R (.cons c2 k2 r2)) (rest := tail')
          simpa using this
    refine .cons (Step.word (k := [c]) hsp (by simp) (fun a ha => by rw [List.mem_singleton] at ha; rw [ha]; exact c1) (fun a ha => by rw [List.mem_singleton] at ha; rw [ha]; exact c2) hva.2 hva.1) run'
theorem runs_R {w : Fo Nat} (h : w.all okL = true) (h0 : w ≠ .nil) : Runs [R w] [] [words w] := by
  have hw : words w ≠ [] := by cases w with | nil => exact absurd rfl h0 | cons c k r => exact fun e => nomatch e
  have := run_R w [] [] [] [] [words w] h h0 (fun _ h => nomatch h) (fun a h => nomatch h) (by
    have := Run.nil (ps := [] ++ words w) (rs := [])
    rw [List.nil_append, if_neg hw] at this
    exact this)
  rw [List.nil_append, List.append_nil] at this
  exact .cons this .nil
end Mine
end
section
open PySem PySem.W PyProof.Rows PySem.Calls
set_option autoImplicit false
set_option maxRecDepth 100000
namespace Mine
section
variable {prog : Program} {w : World} {A : Around} {E : Value → Shared → Prop} {h : Heap} {F : Fz} {M : List (Addr × Obj)} {L a b l : Addr} {V : List (Str × Value)} {g : Array GenState} {d : Drawn} {tk : Nat} {os : OsState}
  {cn : Str} {cs : Scope} {cd : Value} {cl : List (Str × Addr)} {vs us : List Value} {n m : Nat}
theorem r_ladd {Q : Value → Shared → Prop} (S : Sf w h F M L V) (ha : F a = some (lstObj vs n)) (hb : F b = some (lstObj us m)) (hz : vs.length + us.length ≤ 2 ^ 20)
    (H : ∀ F' h' c, Le F F' → Sf w h' F' M L V → F' c = some (lstObj (vs ++ us) 0) → Q (.ref c) ⟨h', g, d, tk, os⟩) : wpAny (model prog w) A (binaryOp .Add (.ref a) (.ref b)) Q E ⟨h, g, d, tk, os⟩ := by
  have e1 := S.f ha
  have e2 := S.f hb
  refine wpAny_binaryOp_concat (T := "list") ⟨_, e1, rfl⟩ ⟨_, e2, rfl⟩ PySem.noFill_list_add PySem.seq_list_add ?_
  refine call_meets PySem.F.slot_list_add (show (⟨h, g, d, tk, os⟩ : Shared).TypeIs (.ref a) "list" from ⟨_, e1, rfl⟩) PySem.F.entry_list_add (PySem.F.args_list_add_2 _ _) (list_addW a b vs.toArray us.toArray n m none none #[] #[] (by rw [List.size_toArray, List.size_toArray, sizeLine_eq]; first | with_reducible assumption | decide | lia | omega)) ⟨e1, e2, ?_⟩
  have SLe := S.pushF (o := lstObj (vs ++ us) 0) rfl
  have S1 := SLe.1
  have le := SLe.2
  clear SLe
  have e3 : (⟨.type "list", none, .seq (vs.toArray ++ us.toArray) 0, #[]⟩ : Obj) = lstObj (vs ++ us) 0 := by rw [List.append_toArray]; rfl
  show Q (.ref h.objs.size) ⟨h.push (⟨.type "list", none, .seq (vs.toArray ++ us.toArray) 0, #[]⟩ : Obj), g, d, tk, os⟩
  rw [e3]
  exact H _ _ _ le S1 (ins_self _ _ _)
theorem r_lupto {x : Str} {px p pos : Pos} {e : Expr} {Q : Value → Shared → Prop} (S : Sf w h F M L V) (hv : V.lookup x = some (.ref l)) (hl : F l = some (lstObj vs n)) (hz : vs.length ≤ 2 ^ 20)
    (H : wpAny (model prog w) A (eval e (envX cn cs L a cd cl)) (fun v s₁ => ∃ (k : Nat) (t : Tok) (tk1 : Nat), v = .int k t ∧ s₁ = ⟨h, g, d, tk1, os⟩ ∧
      ∀ F' h' c, Le F F' → Sf w h' F' M L V → F' c = some (lstObj (vs.take k) 0) → Q (.ref c) ⟨h', g, d, tk1, os⟩) E ⟨h, g, d, tk, os⟩)
    (hk : cs.kind = .function := by rfl) (hln : (envX cn cs L a cd cl).kindOf x = some .local := by rfl) (hd : (x == ("__debug__" : Str)) = false := by decide) :
    wpAny (model prog w) A (eval (.Subscript (.Name x px) (.Slice none (some e) none p) pos) (envX cn cs L a cd cl)) Q E ⟨h, g, d, tk, os⟩ := by
  refine r_sub ?_
  refine r_name S hv ?_ hk hln hd
  refine r_slice ?_
  refine wpAny_evalPart_none ?_
  refine wpAny_evalPart_some ?_
  refine wpAny_mono H (fun v s₁ h₁ => ?_) fun _ _ e => e
  obtain ⟨k, t, tk1, rfl, rfl, q⟩ := h₁
  have S1 := S.push (o := { cls := .type "slice", data := .fields #[.none, .int k t, .none] }) rfl
  refine ⟨"list", _, ⟨_, S1.f hl, rfl⟩, PySem.F.slot_list_getitem.lookup, ?_⟩
  refine wpAny_getItem_list_slice (items := vs.toArray) (lo := none) (hi := some k) (st := none) ⟨_, S1.f hl, rfl, n, rfl⟩ (Heap.IsSliceOf.new h _ _ _) .none (.int _ _) .none (by decide) ?_ (by rw [List.size_toArray, sizeLine_eq]; first | with_reducible assumption | decide | lia | omega)
  rw [slicePick_upto']
  have SLe := S1.pushF (o := lstObj (vs.take k) 0) rfl
  have S2 := SLe.1
  have le := SLe.2
  clear SLe
  exact q _ _ _ le S2.tl (ins_self _ _ _)
theorem r_lfrom {x : Str} {px p pos : Pos} {e : Expr} {Q : Value → Shared → Prop} (S : Sf w h F M L V) (hv : V.lookup x = some (.ref l)) (hl : F l = some (lstObj vs n)) (hz : vs.length ≤ 2 ^ 20)
    (H : wpAny (model prog w) A (eval e (envX cn cs L a cd cl)) (fun v s₁ => ∃ (k : Nat) (t : Tok) (tk1 : Nat), v = .int k t ∧ s₁ = ⟨h, g, d, tk1, os⟩ ∧
      ∀ F' h' c, Le F F' → Sf w h' F' M L V → F' c = some (lstObj (vs.drop k) 0) → Q (.ref c) ⟨h', g, d, tk1, os⟩) E ⟨h, g, d, tk, os⟩)
    (hk : cs.kind = .function := by rfl) (hln : (envX cn cs L a cd cl).kindOf x = some .local := by rfl) (hd : (x == ("__debug__" : Str)) = false := by decide) :
    wpAny (model prog w) A (eval (.Subscript (.Name x px) (.Slice (some e) none none p) pos) (envX cn cs L a cd cl)) Q E ⟨h, g, d, tk, os⟩ := by
  refine r_sub ?_
  refine r_name S hv ?_ hk hln hd
  refine r_slice ?_
  refine wpAny_evalPart_some ?_
  refine wpAny_mono H (fun v s₁ h₁ => ?_) fun _ _ e => e
  obtain ⟨k, t, tk1, rfl, rfl, q⟩ := h₁
  refine wpAny_evalPart_none ?_
  have S1 := S.push (o := { cls := .type "slice", data := .fields #[.int k t, .none, .none] }) rfl
  refine ⟨"list", _, ⟨_, S1.f hl, rfl⟩, PySem.F.slot_list_getitem.lookup, ?_⟩
  refine wpAny_getItem_list_slice (items := vs.toArray) (lo := some k) (hi := none) (st := none) ⟨_, S1.f hl, rfl, n, rfl⟩ (Heap.IsSliceOf.new h _ _ _) (.int _ _) .none .none (by decide) ?_ (by rw [List.size_toArray, sizeLine_eq]; first | with_reducible assumption | decide | lia | omega)
  rw [slicePick_from']
  have SLe := S1.pushF (o := lstObj (vs.drop k) 0) rfl
  have S2 := SLe.1
  have le := SLe.2
  clear SLe
  exact q _ _ _ le S2.tl (ins_self _ _ _)
theorem r_len {x : Str} {p1 p2 pos : Pos} {Q : Value → Shared → Prop} (S : Sf w h F M L V) (hv : V.lookup x = some (.ref l)) (hl : h.get? l = some (lstObj vs n)) (hz : vs.length ≤ 2 ^ 24)
    (H : ∀ t tk1, Q (.int (vs.length : Nat) t) ⟨h, g, d, tk1, os⟩) (he : nsIn (KF w) mainGlobals "len" = some none := by exact rfl) 
    (hk : cs.kind = .function := by rfl) (hln : (envX cn cs L a cd cl).kindOf x = some .local := by rfl) (hd : (x == ("__debug__" : Str)) = false := by decide) (hlg : (envX cn cs L a cd cl).kindOf "len" = some .globalImplicit := by rfl) :
    wpAny (model prog w) A (eval (.Call (.Name "len" p1) [.Name x p2] [] pos) (envX cn cs L a cd cl)) Q E ⟨h, g, d, tk, os⟩ := by
  refine r_call ?_
  refine r_builtin S he (by exact rfl) (by decide) ?_ hk hlg
  refine r_cwB1 ?_
  refine r_name S hv ?_ hk hln hd
  refine call_len_list (items := vs.toArray) ⟨_, hl, rfl, n, rfl⟩ (by rw [List.size_toArray]; first | with_reducible assumption | decide | lia | omega) ?_
  rw [List.size_toArray]
  exact H _ _
/- range(..) of one number -/
theorem r_range {e : Expr} {p1 pos : Pos} {Q : Value → Shared → Prop} (S : Sf w h F M L V)
    (H : wpAny (model prog w) A (eval e (envX cn cs L a cd cl)) (fun v s₁ => ∃ (k : Int) (t : Tok) (tk1 : Nat), v = .int k t ∧ s₁ = ⟨h, g, d, tk1, os⟩ ∧
      ∀ F' h' c tk2 t1 t2 t3, Le F F' → Sf w h' F' M L V → IsRange h' c 0 k 1 t1 t2 t3 → Q (.ref c) ⟨h', g, d, tk2, os⟩) E ⟨h, g, d, tk, os⟩)
    (he : nsIn (KF w) mainGlobals "range" = some none := by exact rfl) (hk : cs.kind = .function := by rfl) (hlg : (envX cn cs L a cd cl).kindOf "range" = some .globalImplicit := by rfl)
    (hst : starEach [e] (envX cn cs L a cd cl) = [(false, eval e (envX cn cs L a cd cl))] := by rfl) :
    wpAny (model prog w) A (eval (.Call (.Name "range" p1) [e] [] pos) (envX cn cs L a cd cl)) Q E ⟨h, g, d, tk, os⟩ := by
  refine r_call ?_
  refine r_builtin S he (by exact rfl) (by decide) ?_ hk hlg
  rw [hst]
  refine PyProof.Rows.callWith_type rfl (evalArgs_plain (spliced_cons (wpAny_mono H (fun v s₁ h₁ => spliced_nil ?_) fun _ _ e => e)))
  obtain ⟨k, t, tk1, rfl, rfl, q⟩ := h₁
  refine call_range_1 ?_
  have SLe := S.pushF (o := { cls := .type "range", data := .fields #[.int 0 tk1, .int k t, .int 1 (tk1 + 1)] }) rfl
  have S1 := SLe.1
  have le := SLe.2
  clear SLe
  exact q _ _ _ _ _ _ _ le S1 (IsRange.new ..)
theorem r_range2 {e1 e2 : Expr} {p1 pos : Pos} {Q : Value → Shared → Prop} (S : Sf w h F M L V)
    (H : wpAny (model prog w) A (eval e1 (envX cn cs L a cd cl)) (fun v s₁ => wpAny (model prog w) A (eval e2 (envX cn cs L a cd cl)) (fun u s₂ => ∃ (i k : Int) (t t' : Tok) (tk1 : Nat), v = .int i t ∧ u = .int k t' ∧ s₂ = ⟨h, g, d, tk1, os⟩ ∧
      ∀ F' h' c tk2 t1 t2 t3, Le F F' → Sf w h' F' M L V → IsRange h' c i k 1 t1 t2 t3 → Q (.ref c) ⟨h', g, d, tk2, os⟩) E s₁) E ⟨h, g, d, tk, os⟩)
    (he : nsIn (KF w) mainGlobals "range" = some none := by exact rfl) (hk : cs.kind = .function := by rfl) (hlg : (envX cn cs L a cd cl).kindOf "range" = some .globalImplicit := by rfl)
    (hst : starEach [e1, e2] (envX cn cs L a cd cl) = [(false, eval e1 (envX cn cs L a cd cl)), (false, eval e2 (envX cn cs L a cd cl))] := by rfl) :
    wpAny (model prog w) A (eval (.Call (.Name "range" p1) [e1, e2] [] pos) (envX cn cs L a cd cl)) Q E ⟨h, g, d, tk, os⟩ := by
  refine r_call ?_
  refine r_builtin S he (by exact rfl) (by decide) ?_ hk hlg
  rw [hst]
  refine PyProof.Rows.callWith_type rfl (evalArgs_plain (spliced_cons (wpAny_mono H (fun v s₁ h₁ => spliced_cons (wpAny_mono h₁ (fun u s₂ h₂ => spliced_nil ?_) fun _ _ e => e)) fun _ _ e => e)))
  obtain ⟨i, k, t, t', tk1, rfl, rfl, rfl, q⟩ := h₂
  refine call_range_2 ?_
  have SLe := S.pushF (o := { cls := .type "range", data := .fields #[.int i t, .int k t', .int 1 tk1] }) rfl
  have S1 := SLe.1
  have le := SLe.2
  clear SLe
  exact q _ _ _ _ _ _ _ le S1 (IsRange.new ..)
end

section
variable {prog : Program} {w : World} {A : Around} {E : Value → Shared → Prop} {h : Heap} {F : Fz} {M : List (Addr × Obj)} {L : Addr} {V : List (Str × Value)} {g : Array GenState} {d : Drawn} {tk : Nat} {os : OsState}
  {env : Env} {R : Result → Shared → Prop}
theorem loop_range {target : Expr} {body : List Stmt} {c : Addr} {lo hi : Int} {n : Nat} {t1 t2 t3 : Tok} (I : Nat → Inv) (hh : A.handled = none) (hr : IsRange h c lo hi 1 t1 t2 t3) (hlo : -100000 ≤ lo ∧ lo ≤ 100000) (hhi : -100000 ≤ hi ∧ hi ≤ 100000) (hn : (n : Int) = max 0 (hi - lo))
    (turn : ∀ i F M V N h tk t (E' : Value → Shared → Prop) (P : Flow → Shared → Prop), (∀ {s}, (∃ F' M' V' h' tk', s = ⟨h', g, d, tk', os⟩ ∧ Sf w h' F' (M' ++ N) L V' ∧ I (i + 1) F' M' V') → P .next s) → i < n → I i F M V → Sf w h F (M ++ N) L V →
      wpAny (model prog w) A (assign target env (.int (lo + (i : Nat)) t)) (fun _ s₂ => wpAny (model prog w) A (execs body env) P E' s₂) E' ⟨h, g, d, tk, os⟩)
    (fin : ∀ F M V h tk, I n F M V → Sf w h F M L V → R (.ok .next) ⟨h, g, d, tk, os⟩)
    (S : Sf w h F M L V) (i0 : I 0 F M V) :
    wpAny (model prog w) A (pyIter (.ref c)) (fun it s₂ => codeAny (model prog w) A (.forLoop target it body [] env) R s₂) E ⟨h, g, d, tk, os⟩ := by
  have hsz : Builtin.Range.rangeSize lo hi 1 = (n : Int) := by
    rw [rangeSize_one, hn]; split <;> first | with_reducible assumption | decide | lia | omega
  refine wpAny_pyIter_range hr ?_ ?_
  · unfold Builtin.Range.small Builtin.Range.rangeFitsLong
    rw [hsz]
    simp only [Bool.and_eq_true, decide_eq_true_eq]
    simp
    first | with_reducible assumption | decide | lia | omega
  rw [hsz]
  have S1 := S.push (o := { cls := .type "range_iterator", data := .fields #[rawInt lo, rawInt (n : Nat), rawInt 1] }) rfl
  have S2 := S1.perm (M' := M ++ [(h.objs.size, { cls := .type "range_iterator", data := .fields #[rawInt lo, rawInt (n : Nat), rawInt 1] })]) (List.perm_append_singleton _ _).symm
  generalize h.objs.size = it at S2 ⊢
  refine codeAny_forLoop_any (fun k s => ∃ i F M V h tk, k = n + 1 - i ∧ i ≤ n ∧ s = ⟨h, g, d, tk, os⟩ ∧ Sf w h F (M ++ [(it, ⟨.type "range_iterator", none, .fields #[rawInt (lo + (i : Nat)), rawInt ((n : Int) - (i : Nat)), rawInt 1], #[]⟩)]) L V ∧ I i F M V) ?_ (n + 1 - 0)
    ⟨0, F, M, V, _, _, rfl, Nat.zero_le _, rfl, by simpa using S2, i0⟩
  rintro k s ⟨i, F, M, V, h, tk, rfl, hi', rfl, S, ii⟩
  have hit : IsRangeIter h it (lo + (i : Nat)) ((n : Int) - (i : Nat)) 1 := S.m (List.mem_append_right _ (.head _))
  by_cases hx : i = n
  · subst hx
    refine wpAny_pyNext_range_end hh hit (by first | with_reducible assumption | decide | lia | omega) fun h' k' => ?_
    refine wpAny_execs_nil ?_
    have S' := S.drop k'
    rw [List.append_nil] at S'
    exact fin F M V h' tk ii S'
  · refine wpAny_pyNext_range_item hit (by first | with_reducible assumption | decide | lia | omega) fun h' k' sb => ?_
    have S' := S.upd sb.extBut k'
    refine own_skip k' rfl rfl (by decide) ?_
    refine wpAny_mono (turn i F M V _ h' _ _ _ (fun f s₃ => match f with
          | .next | .cont => ∃ F' M' V' h' tk', s₃ = ⟨h', g, d, tk', os⟩ ∧ Sf w h' F' (M' ++ [(it, ⟨.type "range_iterator", none, .fields #[rawInt (lo + (i : Nat) + 1), rawInt ((n : Int) - (i : Nat) - 1), rawInt 1], #[]⟩)]) L V' ∧ I (i + 1) F' M' V'
          | .brk => R (.ok .next) s₃
          | .ret v => R (.ok (.ret v)) s₃) (fun q => q) (by first | with_reducible assumption | decide | lia | omega) ii S') (fun _ s₂ h₂ => wpAny_mono h₂ (fun f s₃ h₃ => ?_) fun _ _ e => e) fun _ _ e => e
    have go : (∃ F' M' V' h' tk', s₃ = ⟨h', g, d, tk', os⟩ ∧ Sf w h' F' (M' ++ [(it, ⟨.type "range_iterator", none, .fields #[rawInt (lo + (i : Nat) + 1), rawInt ((n : Int) - (i : Nat) - 1), rawInt 1], #[]⟩)]) L V' ∧ I (i + 1) F' M' V') →
        ∃ m, m < n + 1 - i ∧ ∃ i F M V h tk, m = n + 1 - i ∧ i ≤ n ∧ s₃ = ⟨h, g, d, tk, os⟩ ∧ Sf w h F (M ++ [(it, ⟨.type "range_iterator", none, .fields #[rawInt (lo + (i : Nat)), rawInt ((n : Int) - (i : Nat)), rawInt 1], #[]⟩)]) L V ∧ I i F M V := by
      rintro ⟨F', M', V', h', tk', rfl, S3, i3⟩
      refine ⟨n + 1 - (i + 1), by first | with_reducible assumption | decide | lia | omega, i + 1, F', M', V', h', tk', rfl, by first | with_reducible assumption | decide | lia | omega, rfl, ?_, i3⟩
      have e1 : lo + ((i + 1 : Nat) : Int) = lo + (i : Nat) + 1 := by first | with_reducible assumption | decide | lia | omega
      have e2 : (n : Int) - ((i + 1 : Nat) : Int) = (n : Int) - (i : Nat) - 1 := by first | with_reducible assumption | decide | lia | omega
      rw [e1, e2]; exact S3
    cases f with
    | next => exact go h₃
    | cont => exact go h₃
    | brk => exact h₃
    | ret v => exact h₃
end
end Mine
end
section
open PySem PySem.W PyProof.Rows PySem.Calls
set_option autoImplicit false
set_option maxRecDepth 100000
namespace Mine
section
variable {α : Type}
theorem ins1_mem {x : α} {p : α → Bool} : ∀ {f u : Fo α}, u ∈ ins1 x f → u.nodes = f.nodes + 1 ∧ u.all p = (p x && f.all p) ∧ u ≠ .nil
  | .nil, u, h => by
    have : u = .cons x .nil .nil := List.mem_singleton.mp h
    subst this; exact ⟨rfl, by simp [all_nil, all_cons], fun e => nomatch e⟩
  | .cons c k r, u, h => by
    rcases List.mem_cons.mp h with rfl | h
    · exact ⟨by simp only [nodes_nil, nodes_cons]; first | with_reducible assumption | decide | lia | omega, by simp [all_nil, all_cons], fun e => nomatch e⟩
    · obtain ⟨u', h', rfl⟩ := List.mem_map.mp h
      obtain ⟨h1, h2, _⟩ := ins1_mem (p := p) h'
      refine ⟨by simp only [nodes_nil, nodes_cons]; first | with_reducible assumption | decide | lia | omega, ?_, fun e => nomatch e⟩
      simp only [all_nil, all_cons, h2]
      cases p c <;> cases p x <;> cases k.all p <;> rfl
theorem kid_facts {p : α → Bool} : ∀ {f : Fo α} {i : Nat} {c : α} {k : Fo α}, f.kid i = some (c, k) → k.nodes + 1 ≤ f.nodes ∧ (f.all p = true → p c = true ∧ k.all p = true) ∧
    ∀ k', (f.setKid i k').nodes + k.nodes = f.nodes + k'.nodes ∧ (f.all p = true → k'.all p = true → (f.setKid i k').all p = true) ∧ f.setKid i k' ≠ .nil
  | .nil, i, c, k, h => nomatch h
  | .cons c k r, 0, _, _, h => by
    cases h
    refine ⟨by simp only [nodes_nil, nodes_cons]; first | with_reducible assumption | decide | lia | omega, fun h => ?_, fun k' => ⟨by simp only [setKid_0, setKid_s, nodes_nil, nodes_cons]; first | with_reducible assumption | decide | lia | omega, fun h h' => ?_, fun e => nomatch e⟩⟩
    · simp only [all_nil, all_cons, Bool.and_eq_true] at h; exact ⟨h.1.1, h.1.2⟩
    · simp only [setKid_0, setKid_s, all_nil, all_cons, Bool.and_eq_true] at h ⊢; exact ⟨⟨h.1.1, h'⟩, h.2⟩
  | .cons c k r, i + 1, c', k1, h => by
    obtain ⟨h1, h2, h3⟩ := kid_facts (p := p) (f := r) h
    refine ⟨by simp only [nodes_nil, nodes_cons]; first | with_reducible assumption | decide | lia | omega, fun h => ?_, fun k' => ⟨?_, fun h h' => ?_, fun e => nomatch e⟩⟩
    · simp only [all_nil, all_cons, Bool.and_eq_true] at h; exact h2 h.2
    · have := (h3 k').1
      simp only [setKid_0, setKid_s, nodes_nil, nodes_cons]; first | with_reducible assumption | decide | lia | omega
    · simp only [setKid_0, setKid_s, all_nil, all_cons, Bool.and_eq_true] at h ⊢; exact ⟨h.1, (h3 k').2.1 h.2 h'⟩
theorem kid_mem {f : Fo α} {G : List (List (Fo α))} {P : Fo α → Prop} (hl : G.length = f.len) (h : ∀ i c k, f.kid i = some (c, k) → ∀ u ∈ G.getD i [], P u) : ∀ u ∈ G.flatten, P u := by
  intro u hu
  obtain ⟨l, hl', hu⟩ := List.mem_flatten.mp hu
  obtain ⟨i, hi, e⟩ := List.mem_iff_getElem.mp hl'
  obtain ⟨c, k, hk⟩ := kid_some f i (by first | with_reducible assumption | decide | lia | omega)
  refine h i c k hk u ?_
  rw [List.getD_eq_getElem?_getD, List.getElem?_eq_getElem hi]
  rw [← e] at hu; exact hu
theorem laid_mem {x : α} {p : α → Bool} : ∀ (n : Nat) {f u : Fo α}, f.nodes ≤ n → u ∈ laid x f → u.nodes = f.nodes + 1 ∧ (p x = true → f.all p = true → u.all p = true) ∧ u ≠ .nil := by
  intro n
  induction n with
  | zero =>
    intro f u hn hu
    cases f with
    | nil =>
      have hu : u ∈ ins1 x .nil ++ [] := hu
      rw [List.append_nil] at hu
      obtain ⟨h1, h2, h3⟩ := ins1_mem (p := p) hu
      exact ⟨h1, fun a b => by rw [h2, a, b]; rfl, h3⟩
    | cons c k r => simp only [nodes_nil, nodes_cons] at hn; first | with_reducible assumption | decide | lia | omega
  | succ n ih =>
    intro f u hn hu
    rcases List.mem_append.mp hu with hu | hu
    · obtain ⟨h1, h2, h3⟩ := ins1_mem (p := p) hu
      exact ⟨h1, fun a b => by rw [h2, a, b]; rfl, h3⟩
    · refine kid_mem (f := f) (P := fun u => u.nodes = f.nodes + 1 ∧ (p x = true → f.all p = true → u.all p = true) ∧ u ≠ .nil) (withinG_len x f) ?_ u hu
      intro i c k hk u hu
      rw [List.getD_eq_getElem?_getD, withinG_at x f i c k hk, Option.getD_some] at hu
      obtain ⟨k', hk', rfl⟩ := List.mem_map.mp hu
      obtain ⟨h1, h2, h3⟩ := kid_facts (p := p) hk
      obtain ⟨h4, h5, h6⟩ := h3 k'
      have hin : k'.nodes = k.nodes + 1 ∧ (p x = true → k.all p = true → k'.all p = true) := by
        unfold inner at hk'
        split at hk'
        · rename_i q
          have : k = .nil := by cases k with | nil => rfl | cons a b c => cases q
          subst this
          have : k' = .cons x .nil .nil := List.mem_singleton.mp hk'
          subst this
          exact ⟨rfl, fun a _ => by simp [all_nil, all_cons, a]⟩
        · obtain ⟨a1, a2, _⟩ := ih (by first | with_reducible assumption | decide | lia | omega) hk'
          exact ⟨a1, a2⟩
      exact ⟨by first | with_reducible assumption | decide | lia | omega, fun a b => h5 b (hin.2 a (h2 b).2), h6⟩
theorem del_facts {p : α → Bool} : ∀ {f : Fo α} {i : Nat} {c : α}, f.kid i = some (c, .nil) → (f.del i).nodes + 1 = f.nodes ∧ (f.all p = true → (f.del i).all p = true)
  | .nil, i, c, h => nomatch h
  | .cons c k r, 0, _, h => by
    cases h
    exact ⟨by simp only [del_0, del_s, nodes_nil, nodes_cons]; first | with_reducible assumption | decide | lia | omega, fun h => by simp only [all_nil, all_cons, Bool.and_eq_true] at h; exact h.2⟩
  | .cons c k r, i + 1, c', h => by
    obtain ⟨h1, h2⟩ := del_facts (p := p) (f := r) h
    exact ⟨by simp only [del_0, del_s, nodes_nil, nodes_cons]; first | with_reducible assumption | decide | lia | omega, fun h => by simp only [del_0, del_s, all_nil, all_cons, Bool.and_eq_true] at h ⊢; exact ⟨h.1, h2 h.2⟩⟩
theorem pluck_mem {p : α → Bool} : ∀ (n : Nat) {f u : Fo α}, f.nodes ≤ n → u ∈ pluck f → u.nodes + 1 = f.nodes ∧ (f.all p = true → u.all p = true) := by
  intro n
  induction n with
  | zero =>
    intro f u hn hu
    cases f with
    | nil => nomatch hu
    | cons c k r => simp only [nodes_nil, nodes_cons] at hn; first | with_reducible assumption | decide | lia | omega
  | succ n ih =>
    intro f u hn hu
    refine kid_mem (f := f) (P := fun u => u.nodes + 1 = f.nodes ∧ (f.all p = true → u.all p = true)) (pluckG_len f) ?_ u hu
    intro i c k hk u hu
    rw [List.getD_eq_getElem?_getD, pluckG_at f i c k hk, Option.getD_some] at hu
    obtain ⟨h1, h2, h3⟩ := kid_facts (p := p) hk
    split at hu
    · rename_i q
      have : k = .nil := by cases k with | nil => rfl | cons a b c => cases q
      subst this
      have := List.mem_singleton.mp hu
      subst this
      exact del_facts hk
    · obtain ⟨k', hk', rfl⟩ := List.mem_map.mp hu
      obtain ⟨h4, h5, h6⟩ := h3 k'
      obtain ⟨a1, a2⟩ := ih (by first | with_reducible assumption | decide | lia | omega) hk'
      exact ⟨by first | with_reducible assumption | decide | lia | omega, fun a => h5 a (a2 (h2 a).2)⟩
end
theorem R_small {f : Fo Nat} (h : f.nodes ≤ 6) : (R f).length ≤ 378 := by
  have h1 := R_len f
  have h2 : 2 ^ f.nodes ≤ 2 ^ 6 := Nat.pow_le_pow_right (by decide) h
  first | with_reducible assumption | decide | lia | omega
theorem len_nodes {α : Type} : ∀ f : Fo α, f.len ≤ f.nodes
  | .nil => Nat.le_refl _
  | .cons c k r => by have := len_nodes r; simp only [len_cons, nodes_nil, nodes_cons]; first | with_reducible assumption | decide | lia | omega
theorem words_small : ∀ {f : Fo Nat}, f.nodes ≤ 6 → ∀ p ∈ words f, p.1.length ≤ 2 ^ 10 ∧ ∀ v, p.2 = some v → v.length ≤ 2 ^ 10
  | .nil, _, p, h => nomatch h
  | .cons c k r, hn, p, h => by
    simp only [nodes_nil, nodes_cons] at hn
    rcases List.mem_cons.mp h with rfl | h
    · refine ⟨by show 1 ≤ _; first | with_reducible assumption | decide | lia | omega, fun v hv => ?_⟩
      have hv : vk k = some v := hv
      unfold vk at hv
      split at hv
      · cases hv
      · cases hv
        have := R_small (f := k) (by first | with_reducible assumption | decide | lia | omega)
        first | with_reducible assumption | decide | lia | omega
    · exact words_small (f := r) (by first | with_reducible assumption | decide | lia | omega) p h
theorem small1 {f : Fo Nat} (h : f.nodes ≤ 6) : Small [words f] := by
  refine ⟨by show 1 ≤ _; first | with_reducible assumption | decide | lia | omega, fun ws hw => ?_⟩
  rw [List.mem_singleton] at hw
  subst hw
  exact ⟨by rw [words_len]; have := len_nodes f; first | with_reducible assumption | decide | lia | omega, words_small h⟩
theorem joinT1 (f : Fo Nat) : joinT [words f] = R f := by
  unfold joinT
  cases f with
  | nil => rfl
  | cons c k r =>
    have : [words (.cons c k r)].filter (fun x => decide (x ≠ [])) = [words (.cons c k r)] := rfl
    rw [this]
    show hdrT (words (.cons c k r)) = _
    exact R_words _
theorem join1 {w : World} {F : Fz} {l c : Addr} {n m : Nat} {vs : List Value} {f : Fo Nat} (hl : F l = some (lstObj [.ref c] n)) (hc : F c = some (lstObj vs m)) (ha : All2 (PairAt F) vs (words f)) (h : f.nodes ≤ 6) :
    Fn w (.ref 101) [.ref l] F 6 40 (fun _ v => textOf v (R f)) := by
  exact Fn.mono (join_fn (w := w) hl (.cons ⟨c, vs, m, rfl, hc, ha⟩ .nil) (small1 h)) fun F' v e => by rw [joinT1] at e; exact e
end Mine
end
section
open PySem PySem.W PyProof.Rows PySem.Calls
set_option autoImplicit false
set_option maxRecDepth 100000
namespace Mine
section
variable {w : World} {F : Fz} {v : Value} {vs : List Value} {xs : List (List Nat)}
theorem All2.one {α β : Type} {R : α → β → Prop} {as : List α} {b : β} (h : All2 R as [b]) : ∃ a, as = [a] ∧ R a b := by
  cases h with
  | cons h q => cases q; exact ⟨_, rfl, h⟩
theorem txs_all (ts : List (List Nat × Tok)) : All2 textOf (txs ts) (ts.map (·.1)) := by
  induction ts with
  | nil => exact .nil
  | cons a ts ih => exact .cons ⟨_, rfl⟩ ih
theorem txs_snoc (ts : List (List Nat × Tok)) (x : List Nat) (t : Tok) : txs (ts ++ [(x, t)]) = txs ts ++ [.str (T x) t] := by rw [txs, List.map_append]; rfl
theorem flat_map_len {α β : Type} (g : α → β) : ∀ G : List (List α), (G.map (List.map g)).flatten.length = G.flatten.length
  | [] => rfl
  | a :: G => by rw [List.map_cons, List.flatten_cons, List.flatten_cons, List.length_append, List.length_append, List.length_map, flat_map_len g G]
theorem laid_len {α : Type} (x : α) : ∀ f : Fo α, f.len + 1 + (withinG x f).flatten.length = 2 * f.nodes + 1
  | .nil => rfl
  | .cons c k r => by
    have h1 := laid_len x k
    have h2 := laid_len x r
    have e : (withinG x (.cons c k r)).flatten.length = (if k.isNil then 1 else k.len + 1 + (withinG x k).flatten.length) + (withinG x r).flatten.length := by
      show (_ :: (withinG x r).map (List.map (Fo.cons c k))).flatten.length = _
      rw [List.flatten_cons, List.length_append, flat_map_len, List.length_map]
      congr 1
      split
      · rfl
      · rw [List.length_append, ins1_len]
    rw [e]
    simp only [len_cons, nodes_nil, nodes_cons]
    split
    · rename_i q
      have : k = .nil := by cases k with | nil => rfl | cons a b c => cases q
      subst this
      simp only [nodes_nil, nodes_cons]; first | with_reducible assumption | decide | lia | omega
    · first | with_reducible assumption | decide | lia | omega
/- what the loop keeps -/
inductive LaiA (F7 : Fz) (tl wl : Addr) (M : List (Addr × Obj)) (f : Fo Nat) (x : Nat) (t' : Tok) (i : Nat) (F' : Fz) (M' : List (Addr × Obj)) (V' : List (Str × Value)) : Prop
  | mk (h1_ : Le F7 F') (ts : List (List Nat × Tok)) (n : Nat) (h2_ : M' = (tl, lstObj (txs ts) n) :: M) (h3_ : ts.map (·.1) = ((ins1 x f).take i).map R) (h4_ : Has V' "words" (.ref wl)) (h5_ : Has V' "told" (.ref tl)) (h6_ : Has V' "name" (.str (T [x]) t')) : LaiA F7 tl wl M f x t' i F' M' V'
/- what the loop keeps -/
inductive LaiB (F9 : Fz) (tl wl : Addr) (M : List (Addr × Obj)) (f : Fo Nat) (x : Nat) (t' : Tok) (i : Nat) (F' : Fz) (M' : List (Addr × Obj)) (V' : List (Str × Value)) : Prop
  | mk (h1_ : Le F9 F') (ts : List (List Nat × Tok)) (n : Nat) (h2_ : M' = (tl, lstObj (txs ts) n) :: M) (h3_ : ts.map (·.1) = (ins1 x f ++ ((withinG x f).take i).flatten).map R) (h4_ : Has V' "words" (.ref wl)) (h5_ : Has V' "told" (.ref tl)) (h6_ : Has V' "name" (.str (T [x]) t')) : LaiB F9 tl wl M f x t' i F' M' V'
/- what the loop keeps -/
inductive LaiC (F14 : Fz) (tl wl : Addr) (M N' : List (Addr × Obj)) (ts : List (List Nat × Tok)) (f k : Fo Nat) (x c i : Nat) (t' pt : Tok) (j : Nat) (F2 : Fz) (M2 : List (Addr × Obj)) (V2 : List (Str × Value)) : Prop
  | mk (h1_ : Le F14 F2) (ts2 : List (List Nat × Tok)) (n2 : Nat) (h2_ : M2 = (tl, lstObj (txs ts2) n2) :: (M ++ N')) (h3_ : ts2.map (·.1) = ts.map (·.1) ++ (((inner x k).take j).map fun k' => R (f.setKid i k'))) (h4_ : Has V2 "words" (.ref wl)) (h5_ : Has V2 "told" (.ref tl)) (h6_ : Has V2 "name" (.str (T [x]) t')) (h7_ : Has V2 "key" (.str (T [c]) pt)) (h8_ : ∃ ti, Has V2 "k" (.int (i : Nat) ti)) : LaiC F14 tl wl M N' ts f k x c i t' pt j F2 M2 V2
set_option maxHeartbeats 4000000 in
theorem laid_fn : ∀ (N : Nat) (f : Fo Nat) (x : Nat), f.nodes ≤ N → N ≤ 5 → f ≠ .nil → f.all okL = true → okL x = true → ∀ (F : Fz) (t t' : Tok),
    Fn w (.ref 108) [.str (T (R f)) t, .str (T [x]) t'] F (10 * N + 10) (60 * N + 60) (fun F' v => TextsAt F' v ((laid x f).map R)) := by
  intro N
  obtain ⟨o84, fd84, k84, f84⟩ : ∃ o fd, (KF w).lookup 84 = some o ∧ o.data = .func fd := ⟨_, _, by exact rfl, rfl⟩
  obtain ⟨o101, fd101, k101, f101⟩ : ∃ o fd, (KF w).lookup 101 = some o ∧ o.data = .func fd := ⟨_, _, by exact rfl, rfl⟩
  obtain ⟨o108, fd108, k108, f108⟩ : ∃ o fd, (KF w).lookup 108 = some o ∧ o.data = .func fd := ⟨_, _, by exact rfl, rfl⟩
  induction N with
  | zero =>
    intro f x hn _ h0
    cases f with
    | nil => exact absurd rfl h0
    | cons c k r => simp only [nodes_nil, nodes_cons] at hn; first | with_reducible assumption | decide | lia | omega
  | succ N ih =>
  intro f x hn hN h0 hok hx F t t'
  intro prog A M h g d tk os Q E C S H
  refine enter (D := 10 * N + 15) (U := 60 * N + 110) (binds := [("text", .str (T (R f)) t), ("name", .str (T [x]) t')]) (C.mono) S (by exact rfl) (by exact rfl) (by exact rfl) (by exact rfl) ?_
  intro h1 tk1 L E' S1 C1
  refine x_assign ?_
  refine r_sub ?_
  refine r_call ?_
  refine r_global S1 (by exact rfl) ?_
  refine r_cwF1 (o := o84) (fd := fd84) ?_
  refine r_list1 ?_
  refine r_name S1 (by exact rfl) ?_
  have SLe := S1.pushF (o := lstObj [.str (T (R f)) t] 0) rfl
  have S2 := SLe.1
  have le2 := SLe.2
  clear SLe
  refine ⟨⟨S2.f (S2.st.b.k _ _ k84), f84⟩, ?_⟩
  have hRl := R_small (f := f) (by first | with_reducible assumption | decide | lia | omega)
  refine Fn.useL (split_fn (ins_self _ _ _) (.cons ⟨t, rfl⟩ .nil) (by simp) (fun y hy => by rw [List.mem_singleton] at hy; subst hy; first | with_reducible assumption | decide | lia | omega) (runs_R hok h0)) C1.mono S2 ?_
  intro F3 h3 tk3 la lvs ln le3 S3 hla al
  obtain ⟨wv, rfl, wl, pvs, pn, rfl, hwl, aps⟩ := al.one
  refine r_int ?_
  refine ⟨"list", _, ⟨_, S3.f hla, rfl⟩, PySem.F.slot_list_getitem.lookup, ?_⟩
  refine wpAny_getItem_list (items := #[.ref wl]) ⟨_, S3.f hla, rfl, ln, rfl⟩ (by decide) (by decide) rfl ?_
  refine r_store S3 fun h4 tk4 S4 => ?_
  refine x_assign ?_
  refine r_list0 ?_
  have S5 := S4.push (o := lstObj [] 0) rfl
  refine r_store S5 fun h6 tk6 S6 => ?_
  generalize h4.objs.size = tl at S6
  clear S1 S2 S3 S4 S5
  have leF := le2.trans le3
  have hpl : pvs.length = f.len := by rw [aps.len, words_len]
  have hfl := len_nodes f
  refine xl_for ?_
  refine r_range S6 ?_
  refine wpAny_BinOp ?_
  refine r_len S6 (by exact rfl) (S6.f hwl) (by first | with_reducible assumption | decide | lia | omega) fun t7 tk7 => ?_
  refine r_int ?_
  first | with_reducible refine PySem.P.add_int ?_ | refine PySem.P.add_int ?_
  refine ⟨_, _, _, rfl, rfl, fun F7 h7 rc tk8 q1 q2 q3 le7 S7 hrc => ?_⟩
  generalize A.deeper _ = A1 at C1 ⊢
  show wpAny _ _ _ _ _ ⟨_, g, d, _, os⟩
  refine loop_range (n := f.len + 1) (LaiA F7 tl wl M f x t') C1.hd hrc (by decide) (by rw [hpl]; first | with_reducible assumption | decide | lia | omega) (by rw [hpl]; first | with_reducible assumption | decide | lia | omega) ?_ ?_ S7 ?_
  · rintro i F' M' V' N' h8 tk9 ti E8 P hP hi ⟨le8, ts, tn, rfl, hts, lw, lt, ln⟩ S8
    obtain ⟨u, hu1, hu2⟩ := words_ins1 x f i (by first | with_reducible assumption | decide | lia | omega)
    have hum := ins1_mem (p := okL) (List.mem_of_getElem? hu1)
    rw [Int.zero_add]
    refine wpAny_assign_Name (r_store S8 fun h9 tk10 S9 => ?_)
    refine x_expr ?_
    refine r_meth (v := .ref tl) S9 (by exact lt) ⟨_, S9.m (.head _), rfl⟩ (fun b hb => by cases hb; exact ⟨_, S9.m (.head _), rfl⟩) PySem.F.plainAttrs_list PySem.F.slot_list_append PySem.F.type_list_append ?_
    refine r_cwB1 ?_
    refine r_call ?_
    refine r_global S9 (by exact rfl) ?_
    refine r_cwF1 (o := o101) (fd := fd101) ?_
    refine r_list1 ?_
    refine wpAny_BinOp ?_
    refine wpAny_BinOp ?_
    refine r_lupto S9 (by exact lw) (le8 _ _ (le7 _ _ hwl)) (by first | with_reducible assumption | decide | lia | omega) ?_
    refine r_name S9 (by exact rfl) ?_
    refine ⟨i, _, _, rfl, rfl, fun F10 h10 c1 le10 S10 o1 => ?_⟩
    refine r_list1 ?_
    refine r_tup2 ?_
    refine r_name S10 (by exact ln) ?_
    refine r_none ?_
    have SLe := S10.pushF (o := tupObj [.str (T [x]) t', .none]) rfl
    have S11 := SLe.1
    have le11 := SLe.2
    clear SLe
    have hpa := ins_self F10 h10.objs.size (tupObj [.str (T [x]) t', .none])
    generalize ins F10 h10.objs.size (tupObj [.str (T [x]) t', .none]) = F11 at S11 le11 hpa
    have SLe := S11.pushF (o := lstObj [.ref h10.objs.size] 0) rfl
    have S12 := SLe.1
    have le12 := SLe.2
    clear SLe
    have hls := ins_self F11 (h10.push (tupObj [.str (T [x]) t', .none])).objs.size (lstObj [.ref h10.objs.size] 0)
    generalize ins F11 (h10.push (tupObj [.str (T [x]) t', .none])).objs.size (lstObj [.ref h10.objs.size] 0) = F12 at S12 le12 hls
    refine r_ladd S12 (le12 _ _ (le11 _ _ o1)) hls (by rw [List.length_take, List.length_singleton]; first | with_reducible assumption | decide | lia | omega) fun F13 h13 c2 le13 S13 o2 => ?_
    have leA := (le8.trans le10).trans ((le11.trans le12).trans le13)
    refine r_lfrom S13 (by exact lw) (leA _ _ (le7 _ _ hwl)) (by first | with_reducible assumption | decide | lia | omega) ?_
    refine r_name S13 (by exact rfl) ?_
    refine ⟨i, _, _, rfl, rfl, fun F14 h14 c3 le14 S14 o3 => ?_⟩
    refine r_ladd S14 (le14 _ _ o2) o3 (by rw [List.length_append, List.length_take, List.length_drop, List.length_singleton]; first | with_reducible assumption | decide | lia | omega) fun F15 h15 c4 le15 S15 o4 => ?_
    have SLe := S15.pushF (o := lstObj [.ref c4] 0) rfl
    have S16 := SLe.1
    have le16 := SLe.2
    clear SLe
    have o5 := ins_self F15 h15.objs.size (lstObj [.ref c4] 0)
    generalize ins F15 h15.objs.size (lstObj [.ref c4] 0) = F16 at S16 le16 o5
    refine ⟨⟨S16.f (S16.st.b.k _ _ k101), f101⟩, ?_⟩
    have leB := (((le11.trans le12).trans le13).trans (le14.trans le15)).trans le16
    have leC := ((leF.trans le7).trans le8).trans (le10.trans leB)
    have apw : All2 (PairAt F16) (pvs.take i ++ [.ref h10.objs.size] ++ pvs.drop i) (words u) := by
      rw [hu2, List.append_assoc]
      have a1 := (aps.take i).up fun _ _ z => z.up ((le7.trans le8).trans (le10.trans leB))
      have a2 := (aps.drop i).up fun _ _ z => z.up ((le7.trans le8).trans (le10.trans leB))
      exact a1.app (.cons ⟨_, _, _, rfl, rfl, ((((le12.trans le13).trans (le14.trans le15)).trans le16)) _ _ hpa⟩ a2)
    refine Fn.useT (join1 o5 (le16 _ _ o4) apw (by first | with_reducible assumption | decide | lia | omega)) C1.mono S16 ?_
    intro F17 h17 tk17 t17 le17 S17
    have htl : ts.length ≤ 2 ^ 10 := by
      have := congrArg List.length hts
      rw [List.length_map, List.length_map, List.length_take] at this; first | with_reducible assumption | decide | lia | omega
    refine wp_append (M1 := []) S17 (by rw [List.length_map, sizeLine_eq]; first | with_reducible assumption | decide | lia | omega) fun h18 n18 S18 => ?_
    refine x_nil ?_
    refine hP ⟨F17, (tl, lstObj (txs (ts ++ [(R u, t17)])) n18) :: M, (("k" : Str), .int (i : Nat) ti) :: V', h18, tk17, rfl, ?_, le8.trans (le10.trans (leB.trans le17)), _, n18, rfl, ?_, by exact lw, by exact lt, by exact ln⟩
    · rw [txs_snoc]; exact S18
    · rw [List.map_append, hts, List.take_add_one, hu1, List.map_append]; rfl
  · rintro F8 M8 V8 h8 tk9 ⟨le8, ts, tn, rfl, hts, lw, lt, ln⟩ S8
    have hts : ts.map (·.1) = (ins1 x f).map R := by rw [hts, List.take_of_length_le (by rw [ins1_len]; exact Nat.le_refl _)]
    refine xl_for ?_
    refine r_range S8 ?_
    refine r_len S8 lw (S8.f (le8 _ _ (le7 _ _ hwl))) (by first | with_reducible assumption | decide | lia | omega) fun t9 tk10 => ?_
    refine ⟨_, _, _, rfl, rfl, fun F9 h9 rc tk11 q1 q2 q3 le9 S9 hrc => ?_⟩
    show wpAny _ _ _ _ _ ⟨_, g, d, _, os⟩
    refine loop_range (n := f.len) (LaiB F9 tl wl M f x t') C1.hd hrc (by decide) (by rw [hpl]; first | with_reducible assumption | decide | lia | omega) (by rw [hpl]; first | with_reducible assumption | decide | lia | omega) ?_ ?_ S9 ?_
    · clear hts S8 S9 hrc lw lt ln
      rintro i F' M' V' N' h10 tk12 ti E8 P hP hi ⟨le10, ts, tn, rfl, hts, lw, lt, ln⟩ S10
      obtain ⟨c, k, hk⟩ := kid_some f i hi
      have hwk := words_kid f i c k hk
      obtain ⟨pv, hpv, pa, pt, pu, rfl, hpu, hpa⟩ := aps.get' hwk
      dsimp only at hpu hpa
      have leW := (le7.trans le8).trans (le9.trans le10)
      have SLe := kid_facts (p := okL) hk
      have kf1 := SLe.1
      have kf2 := SLe.2.1
      have kf3 := SLe.2.2
      clear SLe
      rw [Int.zero_add]
      refine wpAny_assign_Name (r_store S10 fun h11 tk13 S11 => ?_)
      refine x_assignT ?_
      refine r_sub ?_
      refine r_name S11 (by exact lw) ?_
      refine r_name S11 (by exact rfl) ?_
      refine ⟨"list", _, ⟨_, S11.f (leW _ _ hwl), rfl⟩, PySem.F.slot_list_getitem.lookup, ?_⟩
      refine wpAny_getItem_list (items := pvs.toArray) ⟨_, S11.f (leW _ _ hwl), rfl, pn, rfl⟩ (by first | with_reducible assumption | decide | lia | omega) (by first | with_reducible assumption | decide | lia | omega) (x := .ref pa) (by rw [Int.toNat_natCast]; simpa using hpv) ?_
      refine r_unpack2 C1.mono S11 (S11.f (leW _ _ hpa)) fun h12 tk14 S12 => ?_
      refine x_assign ?_
      refine r_list1 ?_
      refine r_name S12 (by exact ln) ?_
      have SLe := S12.pushF (o := lstObj [.str (T [x]) t'] 0) rfl
      have S13 := SLe.1
      have le13 := SLe.2
      clear SLe
      have hil := ins_self F' h12.objs.size (lstObj [.str (T [x]) t'] 0)
      generalize ins F' h12.objs.size (lstObj [.str (T [x]) t'] 0) = F13 at S13 le13 hil
      refine r_store S13 fun h14 tk15 S14 => ?_
      clear S10 S11 S12 S13
      refine x_ifJ (fun s => ∃ F6 h6 tk6 V6 iv, s = ⟨h6, g, d, tk6, os⟩ ∧ Le F13 F6 ∧ Sf w h6 F6 ((tl, lstObj (txs ts) tn) :: (M ++ N')) L V6 ∧ TextsAt F6 iv ((inner x k).map R) ∧ Has V6 "inner" iv ∧ Has V6 "words" (.ref wl) ∧ Has V6 "told" (.ref tl) ∧ Has V6 "name" (.str (T [x]) t') ∧ Has V6 "key" (.str (T [c]) pt) ∧ ∃ ti, Has V6 "k" (.int (i : Nat) ti)) ?_ ?_
      · intro PJ hJ
        refine wpAny_isTrue_Compare1 ?_
        refine r_name S14 (by exact rfl) ?_
        refine r_none ?_
        by_cases q : k.isNil = true
        · have hv : pu = .none := by unfold vk at hpu; rw [if_pos q] at hpu; exact hpu
          subst hv
          refine wpAny_isNot_self rfl ?_
          refine truthy_b ?_
          first | with_reducible refine on_f (by decide) ?_ | refine on_f (by decide) ?_ | rw [if_neg (by decide)]
          refine x_nil ⟨rfl, hJ ⟨F13, h14, tk15, _, _, rfl, Le.refl _, S14, ⟨_, _, 0, rfl, hil, ?_⟩, by exact rfl, by exact lw, by exact lt, by exact ln, by exact rfl, ti, by exact rfl⟩⟩
          have : inner x k = [.cons x .nil .nil] := if_pos q
          rw [this]
          exact .cons ⟨_, rfl⟩ .nil
        · have hv : valOf (some (R k)) pu := by unfold vk at hpu; rw [if_neg q] at hpu; exact hpu
          obtain ⟨pt2, rfl⟩ := hv
          refine isnot_str_none ?_
          refine truthy_b ?_
          first | with_reducible refine on_t rfl ?_ | refine on_t rfl ?_ | rw [if_pos rfl]
          refine x_assign ?_
          refine r_call ?_
          refine r_global S14 (by exact rfl) ?_
          refine r_cwF2 (o := o108) (fd := fd108) ?_
          refine r_name S14 (by exact rfl) ?_
          refine r_name S14 (by exact ln) ?_
          refine ⟨⟨S14.f (S14.st.b.k _ _ k108), f108⟩, ?_⟩
          refine Fn.use (ih k x (by first | with_reducible assumption | decide | lia | omega) (by first | with_reducible assumption | decide | lia | omega) (fun e => q (by rw [e]; rfl)) (kf2 hok).2 hx F13 pt2 t') C1.mono S14 ?_
          rintro F15 h15 tk16 iv le15 S15 hiv
          refine r_store S15 fun h16 tk17 S16 => ?_
          have hin : inner x k = laid x k := if_neg q
          rw [← hin] at hiv
          exact x_nil ⟨rfl, hJ ⟨F15, h16, tk17, _, iv, rfl, le15, S16, hiv, by exact rfl, by exact lw, by exact lt, by exact ln, by exact rfl, ti, by exact rfl⟩⟩
      · rintro s ⟨F14, h15, tk16, V14, iv, rfl, le14, S15, hiv, li, lw, lt, ln, lk, ti2, lki⟩
        obtain ⟨il, ivs, inn, rfl, hil2, ail⟩ := hiv
        have hinl : ∀ k' ∈ inner x k, k'.nodes = k.nodes + 1 ∧ k'.isNil = false := by
          intro k' hk'
          unfold inner at hk'
          split at hk'
          · rename_i q
            have : k = .nil := by cases k with | nil => rfl | cons a b c => cases q
            subst this
            have : k' = .cons x .nil .nil := List.mem_singleton.mp hk'
            subst this
            exact ⟨rfl, rfl⟩
          · obtain ⟨a1, _, a3⟩ := laid_mem (p := okL) k.nodes (Nat.le_refl _) hk'
            exact ⟨a1, by cases k' with | nil => exact absurd rfl a3 | cons a b c => rfl⟩
        refine xl_for ?_
        refine r_name S15 li ?_
        have leX := (leW.trans le13).trans le14
        show wpAny _ _ _ _ _ ⟨_, g, d, _, os⟩
        refine loop_list (l := il) (vs := ivs) (LaiC F14 tl wl M N' ts f k x c i t' pt) C1.hd ?_ ?_ ?_ S15 ?_
        · rintro j F2 M2 V2 ⟨le2, _⟩
          exact .inl ⟨inn, le2 _ _ hil2⟩
        · clear lw lt ln lk lki S14 S15
          rintro j y F2 M2 V2 N2 h16 tk17 E9 P hP hy ⟨le16, ts2, n2, rfl, hts2, lw, lt, ln, lk, ti3, lki⟩ S16
          obtain ⟨yt, hyt, ty, rfl⟩ := ail.get hy
          rw [List.getElem?_map] at hyt
          obtain ⟨k', hk', rfl⟩ := Option.map_eq_some_iff.mp hyt
          obtain ⟨kn, kz⟩ := hinl k' (List.mem_of_getElem? hk')
          have SLe := kf3 k'
          have g1 := SLe.1
          have g2 := SLe.2.1
          have g3 := SLe.2.2
          clear SLe
          have leY := leX.trans le16
          refine wpAny_assign_Name (r_store S16 fun h17 tk18 S17 => ?_)
          refine x_expr ?_
          refine r_meth (v := .ref tl) S17 (by exact lt) ⟨_, S17.m (.head _), rfl⟩ (fun b hb => by cases hb; exact ⟨_, S17.m (.head _), rfl⟩) PySem.F.plainAttrs_list PySem.F.slot_list_append PySem.F.type_list_append ?_
          refine r_cwB1 ?_
          refine r_call ?_
          refine r_global S17 (by exact rfl) ?_
          refine r_cwF1 (o := o101) (fd := fd101) ?_
          refine r_list1 ?_
          refine wpAny_BinOp ?_
          refine wpAny_BinOp ?_
          refine r_lupto S17 (by exact lw) (leY _ _ hwl) (by first | with_reducible assumption | decide | lia | omega) ?_
          refine r_name S17 (by exact lki) ?_
          refine ⟨i, _, _, rfl, rfl, fun F18 h18 c1 le18 S18 o1 => ?_⟩
          refine r_list1 ?_
          refine r_tup2 ?_
          refine r_name S18 (by exact lk) ?_
          refine r_name S18 (by exact rfl) ?_
          have SLe := S18.pushF (o := tupObj [.str (T [c]) pt, .str (T (R k')) ty]) rfl
          have S19 := SLe.1
          have le19 := SLe.2
          clear SLe
          have hpa2 := ins_self F18 h18.objs.size (tupObj [.str (T [c]) pt, .str (T (R k')) ty])
          generalize ins F18 h18.objs.size (tupObj [.str (T [c]) pt, .str (T (R k')) ty]) = F19 at S19 le19 hpa2
          have SLe := S19.pushF (o := lstObj [.ref h18.objs.size] 0) rfl
          have S20 := SLe.1
          have le20 := SLe.2
          clear SLe
          have hls := ins_self F19 (h18.push (tupObj [.str (T [c]) pt, .str (T (R k')) ty])).objs.size (lstObj [.ref h18.objs.size] 0)
          generalize ins F19 (h18.push (tupObj [.str (T [c]) pt, .str (T (R k')) ty])).objs.size (lstObj [.ref h18.objs.size] 0) = F20 at S20 le20 hls
          refine r_ladd S20 (le20 _ _ (le19 _ _ o1)) hls (by rw [List.length_take, List.length_singleton]; first | with_reducible assumption | decide | lia | omega) fun F21 h21 c2 le21 S21 o2 => ?_
          have leA := (le18.trans le19).trans (le20.trans le21)
          refine r_lfrom S21 (by exact lw) (leA _ _ (leY _ _ hwl)) (by first | with_reducible assumption | decide | lia | omega) ?_
          refine wpAny_BinOp ?_
          refine r_name S21 (by exact lki) ?_
          refine r_int ?_
          first | with_reducible refine PySem.P.add_int ?_ | refine PySem.P.add_int ?_
          refine ⟨i + 1, _, _, rfl, rfl, fun F22 h22 c3 le22 S22 o3 => ?_⟩
          refine r_ladd S22 (le22 _ _ o2) o3 (by rw [List.length_append, List.length_take, List.length_drop, List.length_singleton]; first | with_reducible assumption | decide | lia | omega) fun F23 h23 c4 le23 S23 o4 => ?_
          have SLe := S23.pushF (o := lstObj [.ref c4] 0) rfl
          have S24 := SLe.1
          have le24 := SLe.2
          clear SLe
          have o5 := ins_self F23 h23.objs.size (lstObj [.ref c4] 0)
          generalize ins F23 h23.objs.size (lstObj [.ref c4] 0) = F24 at S24 le24 o5
          refine ⟨⟨S24.f (S24.st.b.k _ _ k101), f101⟩, ?_⟩
          have leB := ((le20.trans le21).trans (le22.trans le23)).trans le24
          have leC := (le18.trans le19).trans leB
          have apw : All2 (PairAt F24) (pvs.take i ++ [.ref h18.objs.size] ++ pvs.drop (i + 1)) (words (f.setKid i k')) := by
            rw [words_setKid f i c k k' hk, List.append_assoc]
            have a1 := (aps.take i).up fun _ _ z => z.up (leY.trans leC)
            have a2 := (aps.drop (i + 1)).up fun _ _ z => z.up (leY.trans leC)
            refine a1.app (.cons ⟨_, _, _, rfl, ?_, leB _ _ hpa2⟩ a2)
            have : vk k' = some (R k') := if_neg (by rw [kz]; decide)
            rw [this]
            exact ⟨_, rfl⟩
          refine Fn.useT (join1 o5 (le24 _ _ o4) apw (by first | with_reducible assumption | decide | lia | omega)) C1.mono S24 ?_
          intro F25 h25 tk25 t25 le25 S25
          have htl : ts2.length ≤ 2 ^ 20 := by
            have z1 := congrArg List.length hts2
            have z2 := congrArg List.length hts
            have z3 := laid_len x f
            have z4 := laid_len x k
            have z5 : ((withinG x f).take i).flatten.length ≤ (withinG x f).flatten.length := by
              have := congrArg (fun l : List (List (Fo Nat)) => l.flatten.length) (List.take_append_drop i (withinG x f))
              rw [List.flatten_append, List.length_append] at this
              first | with_reducible assumption | decide | lia | omega
            have z6 : (inner x k).length ≤ 2 * k.nodes + 1 := by
              unfold inner
              split
              · simp
              · unfold laid; rw [List.length_append, ins1_len]; first | with_reducible assumption | decide | lia | omega
            rw [List.length_append, List.length_map, List.length_map, List.length_map, List.length_take] at z1
            rw [List.length_map, List.length_map, List.length_append, ins1_len] at z2
            first | with_reducible assumption | decide | lia | omega
          refine wp_append (M1 := []) S25 (by rw [List.length_map, sizeLine_eq]; first | with_reducible assumption | decide | lia | omega) fun h26 n26 S26 => ?_
          refine x_nil ?_
          refine hP ⟨F25, (tl, lstObj (txs (ts2 ++ [(R (f.setKid i k'), t25)])) n26) :: (M ++ N'), (("within" : Str), .str (T (R k')) ty) :: V2, h26, tk25, rfl, ?_, le16.trans (leC.trans le25), _, n26, rfl, ?_, by exact lw, by exact lt, by exact ln, by exact lk, ti3, by exact lki⟩
          · rw [txs_snoc]; exact S26
          · rw [List.map_append, hts2, List.take_add_one, hk', List.map_append, List.append_assoc]; rfl
        · rintro F2 M2 V2 h16 tk17 ⟨le16, ts2, n2, rfl, hts2, lw, lt, ln, lk, ti3, lki⟩ S16
          refine x_nil ?_
          refine hP ⟨F2, (tl, lstObj (txs ts2) n2) :: M, V2, h16, tk17, rfl, S16, ((le10.trans le13).trans le14).trans le16, ts2, n2, rfl, ?_, lw, lt, ln⟩
          have hll : ivs.length = (inner x k).length := by rw [ail.len, List.length_map]
          rw [hts2, hll, List.take_length, hts, List.take_add_one, withinG_at x f i c k hk, List.flatten_append, ← List.append_assoc, List.map_append (l₁ := ins1 x f ++ _)]
          congr 1
          show _ = ([(inner x k).map fun k' => f.setKid i k'].flatten).map R
          rw [List.flatten_cons, List.flatten_nil, List.append_nil, List.map_map]; rfl
        · exact ⟨Le.refl _, ts, tn, rfl, by simp, lw, lt, ln, lk, ti2, lki⟩
    · rintro F9' M9 V9 h10 tk12 ⟨le10, ts, tn, rfl, hts, lw, lt, ln⟩ S10
      refine x_ret ?_
      refine r_name S10 lt ?_
      have SLe := S10.freeze
      have S11 := SLe.1
      have le11 := SLe.2
      clear SLe
      refine H _ _ _ _ (((leF.trans le7).trans (le8.trans le9)).trans (le10.trans le11)) S11.st ⟨tl, _, tn, rfl, ins_self _ _ _, ?_⟩
      have : (laid x f).map R = ts.map (·.1) := by rw [hts, List.take_of_length_le (by rw [withinG_len]; exact Nat.le_refl _)]; rfl
      rw [this]
      exact txs_all ts
    · exact ⟨Le.refl _, ts, tn, rfl, by rw [hts]; simp, lw, lt, ln⟩
  · exact ⟨Le.refl _, [], 0, rfl, rfl, by exact rfl, by exact rfl, by exact rfl⟩
end
end Mine
end
section
open PySem PySem.W PyProof.Rows PySem.Calls
set_option autoImplicit false
set_option maxRecDepth 100000
namespace Mine
theorem pluck_len {α : Type} : ∀ f : Fo α, (pluckG f).flatten.length ≤ f.nodes
  | .nil => Nat.le_refl _
  | .cons c k r => by
    have h1 := pluck_len k
    have h2 := pluck_len r
    have e : (pluckG (.cons c k r)).flatten.length = (if k.isNil then 1 else (pluckG k).flatten.length) + (pluckG r).flatten.length := by
      show (_ :: (pluckG r).map (List.map (Fo.cons c k))).flatten.length = _
      rw [List.flatten_cons, List.length_append, flat_map_len]
      congr 1
      split
      · rfl
      · rw [List.length_map]
    rw [e]
    simp only [nodes_nil, nodes_cons]
    split <;> first | with_reducible assumption | decide | lia | omega
theorem R_nil {f : Fo Nat} : R f = [] ↔ f.isNil = true := by
  cases f with
  | nil => exact ⟨fun _ => rfl, fun _ => rfl⟩
  | cons c k r => exact ⟨fun e => (nomatch e), fun e => (nomatch e)⟩
theorem vk_R (k : Fo Nat) : (if R k = [] then none else some (R k)) = vk k := by
  unfold vk
  by_cases q : k.isNil = true
  · rw [if_pos q, if_pos (R_nil.mpr q)]
  · rw [if_neg q, if_neg fun e => q (R_nil.mp e)]
section
variable {prog : Program} {w : World} {A : Around} {E : Value → Shared → Prop} {h : Heap} {F : Fz} {M : List (Addr × Obj)} {L a : Addr} {V : List (Str × Value)} {g : Array GenState} {d : Drawn} {tk : Nat} {os : OsState} {cn : Str} {cs : Scope} {cd : Value} {cl : List (Str × Addr)}
theorem r_orNone {x : Str} {p p2 pos : Pos} {k : Nat} {y : List Nat} {t : Tok} {Q : Value → Shared → Prop} (S : Sf w h F M L V) (hv : V.lookup x = some (.str (T y) t)) (hy : y.length ≤ 2 ^ 24)
    (H : ∀ v tk', valOf (if y = [] then none else some y) v → Q v ⟨h, g, d, tk', os⟩) (hk : cs.kind = .function := by rfl) (hln : (envX cn cs L a cd cl).kindOf x = some .local := by rfl) (hd : (x == ("__debug__" : Str)) = false := by decide) :
    wpAny (model prog w) A (eval (.BoolOp .Or [.Name x p, .Constant .none k p2] pos) (envX cn cs L a cd cl)) Q E ⟨h, g, d, tk, os⟩ := by
  refine wpAny_Or2 ?_
  refine r_name S hv ?_ hk hln hd
  refine truthy_T hy fun tk19 => ?_
  by_cases q : y = []
  · subst q
    first | with_reducible refine on_f (by decide) ?_ | refine on_f (by decide) ?_ | rw [if_neg (by decide)]
    exact r_none (H _ _ rfl)
  · have : (!y.isEmpty) = true := by
      cases y with
      | nil => exact absurd rfl q
      | cons a b => rfl
    first | refine on_t this ?_ | rw [if_pos this]
    exact H _ _ (by rw [if_neg q]; exact ⟨t, rfl⟩)
end
section
variable {w : World}
/- what the loop keeps -/
inductive PluA (F7 : Fz) (tl wl : Addr) (M : List (Addr × Obj)) (f : Fo Nat) (i : Nat) (F' : Fz) (M' : List (Addr × Obj)) (V' : List (Str × Value)) : Prop
  | mk (h1_ : Le F7 F') (ts : List (List Nat × Tok)) (n : Nat) (h2_ : M' = (tl, lstObj (txs ts) n) :: M) (h3_ : ts.map (·.1) = (((pluckG f).take i).flatten).map R) (h4_ : Has V' "words" (.ref wl)) (h5_ : Has V' "told" (.ref tl)) : PluA F7 tl wl M f i F' M' V'
/- what the loop keeps -/
inductive PluB (F14 : Fz) (tl wl : Addr) (M N' : List (Addr × Obj)) (ts : List (List Nat × Tok)) (f k : Fo Nat) (c i : Nat) (pt ti : Tok) (j : Nat) (F2 : Fz) (M2 : List (Addr × Obj)) (V2 : List (Str × Value)) : Prop
  | mk (h1_ : Le F14 F2) (ts2 : List (List Nat × Tok)) (n2 : Nat) (h2_ : M2 = (tl, lstObj (txs ts2) n2) :: (M ++ N')) (h3_ : ts2.map (·.1) = ts.map (·.1) ++ (((pluck k).take j).map fun k' => R (f.setKid i k'))) (h4_ : Has V2 "words" (.ref wl)) (h5_ : Has V2 "told" (.ref tl)) (h6_ : Has V2 "key" (.str (T [c]) pt)) (h7_ : Has V2 "k" (.int (i : Nat) ti)) : PluB F14 tl wl M N' ts f k c i pt ti j F2 M2 V2
set_option maxHeartbeats 4000000 in
theorem pluck_fn : ∀ (N : Nat) (f : Fo Nat), f.nodes ≤ N → N ≤ 6 → f ≠ .nil → f.all okL = true → ∀ (F : Fz) (t : Tok),
    Fn w (.ref 115) [.str (T (R f)) t] F (10 * N + 10) (60 * N + 60) (fun F' v => TextsAt F' v ((pluck f).map R)) := by
  intro N
  obtain ⟨o84, fd84, k84, f84⟩ : ∃ o fd, (KF w).lookup 84 = some o ∧ o.data = .func fd := ⟨_, _, by exact rfl, rfl⟩
  obtain ⟨o101, fd101, k101, f101⟩ : ∃ o fd, (KF w).lookup 101 = some o ∧ o.data = .func fd := ⟨_, _, by exact rfl, rfl⟩
  obtain ⟨o115, fd115, k115, f115⟩ : ∃ o fd, (KF w).lookup 115 = some o ∧ o.data = .func fd := ⟨_, _, by exact rfl, rfl⟩
  induction N with
  | zero =>
    intro f hn _ h0
    cases f with
    | nil => exact absurd rfl h0
    | cons c k r => simp only [nodes_nil, nodes_cons] at hn; first | with_reducible assumption | decide | lia | omega
  | succ N ih =>
  intro f hn hN h0 hok F t
  intro prog A M h g d tk os Q E C S H
  refine enter (D := 10 * N + 15) (U := 60 * N + 110) (binds := [("text", .str (T (R f)) t)]) (C.mono) S (by exact rfl) (by exact rfl) (by exact rfl) (by exact rfl) ?_
  intro h1 tk1 L E' S1 C1
  refine x_assign ?_
  refine r_sub ?_
  refine r_call ?_
  refine r_global S1 (by exact rfl) ?_
  refine r_cwF1 (o := o84) (fd := fd84) ?_
  refine r_list1 ?_
  refine r_name S1 (by exact rfl) ?_
  have SLe := S1.pushF (o := lstObj [.str (T (R f)) t] 0) rfl
  have S2 := SLe.1
  have le2 := SLe.2
  clear SLe
  refine ⟨⟨S2.f (S2.st.b.k _ _ k84), f84⟩, ?_⟩
  have hRl := R_small (f := f) (by first | with_reducible assumption | decide | lia | omega)
  refine Fn.useL (split_fn (ins_self _ _ _) (.cons ⟨t, rfl⟩ .nil) (by simp) (fun y hy => by rw [List.mem_singleton] at hy; subst hy; first | with_reducible assumption | decide | lia | omega) (runs_R hok h0)) C1.mono S2 ?_
  intro F3 h3 tk3 la lvs ln le3 S3 hla al
  obtain ⟨wv, rfl, wl, pvs, pn, rfl, hwl, aps⟩ := al.one
  refine r_int ?_
  refine ⟨"list", _, ⟨_, S3.f hla, rfl⟩, PySem.F.slot_list_getitem.lookup, ?_⟩
  refine wpAny_getItem_list (items := #[.ref wl]) ⟨_, S3.f hla, rfl, ln, rfl⟩ (by decide) (by decide) rfl ?_
  refine r_store S3 fun h4 tk4 S4 => ?_
  refine x_assign ?_
  refine r_list0 ?_
  have S5 := S4.push (o := lstObj [] 0) rfl
  refine r_store S5 fun h6 tk6 S6 => ?_
  generalize h4.objs.size = tl at S6
  clear S1 S2 S3 S4 S5
  have leF := le2.trans le3
  have hpl : pvs.length = f.len := by rw [aps.len, words_len]
  have hfl := len_nodes f
  refine xl_for ?_
  refine r_range S6 ?_
  refine r_len S6 (by exact rfl) (S6.f hwl) (by first | with_reducible assumption | decide | lia | omega) fun t7 tk7 => ?_
  refine ⟨_, _, _, rfl, rfl, fun F7 h7 rc tk8 q1 q2 q3 le7 S7 hrc => ?_⟩
  generalize A.deeper _ = A1 at C1 ⊢
  show wpAny _ _ _ _ _ ⟨_, g, d, _, os⟩
  refine loop_range (n := f.len) (PluA F7 tl wl M f) C1.hd hrc (by decide) (by rw [hpl]; first | with_reducible assumption | decide | lia | omega) (by rw [hpl]; first | with_reducible assumption | decide | lia | omega) ?_ ?_ S7 ?_
  · rintro i F' M' V' N' h10 tk12 ti E8 P hP hi ⟨le10, ts, tn, rfl, hts, lw, lt⟩ S10
    obtain ⟨c, k, hk⟩ := kid_some f i hi
    have hwk := words_kid f i c k hk
    obtain ⟨pv, hpv, pa, pt, pu, rfl, hpu, hpa⟩ := aps.get' hwk
    dsimp only at hpu hpa
    have leW := le7.trans le10
    have SLe := kid_facts (p := okL) hk
    have kf1 := SLe.1
    have kf2 := SLe.2.1
    have kf3 := SLe.2.2
    clear SLe
    have htl0 : ts.length ≤ 100 := by
      have z1 := congrArg List.length hts
      have z3 := pluck_len f
      have z5 := congrArg (fun l : List (List (Fo Nat)) => l.flatten.length) (List.take_append_drop i (pluckG f))
      rw [List.flatten_append, List.length_append] at z5
      rw [List.length_map, List.length_map] at z1
      first | with_reducible assumption | decide | lia | omega
    have hnext : ∀ g : List (Fo Nat), (pluckG f)[i]? = some g → ((pluckG f).take (i + 1)).flatten.map R = ts.map (·.1) ++ g.map R := by
      intro g hg
      rw [List.take_add_one, hg, List.flatten_append, List.map_append, hts]
      congr 1
      show [g].flatten.map R = _
      rw [List.flatten_cons, List.flatten_nil, List.append_nil]
    rw [Int.zero_add]
    refine wpAny_assign_Name (r_store S10 fun h11 tk13 S11 => ?_)
    refine x_assignT ?_
    refine r_sub ?_
    refine r_name S11 (by exact lw) ?_
    refine r_name S11 (by exact rfl) ?_
    refine ⟨"list", _, ⟨_, S11.f (leW _ _ hwl), rfl⟩, PySem.F.slot_list_getitem.lookup, ?_⟩
    refine wpAny_getItem_list (items := pvs.toArray) ⟨_, S11.f (leW _ _ hwl), rfl, pn, rfl⟩ (by first | with_reducible assumption | decide | lia | omega) (by first | with_reducible assumption | decide | lia | omega) (x := .ref pa) (by rw [Int.toNat_natCast]; simpa using hpv) ?_
    refine r_unpack2 C1.mono S11 (S11.f (leW _ _ hpa)) fun h12 tk14 S12 => ?_
    clear S10 S11
    refine x_if ?_
    refine wpAny_isTrue_Compare1 ?_
    refine r_name S12 (by exact rfl) ?_
    refine r_none ?_
    by_cases q : k.isNil = true
    · have hv : pu = .none := by unfold vk at hpu; rw [if_pos q] at hpu; exact hpu
      subst hv
      have hkn : k = .nil := by cases k with | nil => rfl | cons a b c => cases q
      subst hkn
      obtain ⟨df1, df2⟩ := del_facts (p := okL) hk
      refine wpAny_is_self rfl ?_
      refine truthy_b ?_
      first | with_reducible refine on_t rfl ?_ | refine on_t rfl ?_ | rw [if_pos rfl]
      refine x_expr ?_
      refine r_meth (v := .ref tl) S12 (by exact lt) ⟨_, S12.m (.head _), rfl⟩ (fun b hb => by cases hb; exact ⟨_, S12.m (.head _), rfl⟩) PySem.F.plainAttrs_list PySem.F.slot_list_append PySem.F.type_list_append ?_
      refine r_cwB1 ?_
      refine r_call ?_
      refine r_global S12 (by exact rfl) ?_
      refine r_cwF1 (o := o101) (fd := fd101) ?_
      refine r_list1 ?_
      refine wpAny_BinOp ?_
      refine r_lupto S12 (by exact lw) (leW _ _ hwl) (by first | with_reducible assumption | decide | lia | omega) ?_
      refine r_name S12 (by exact rfl) ?_
      refine ⟨i, _, _, rfl, rfl, fun F18 h18 c1 le18 S18 o1 => ?_⟩
      refine r_lfrom S18 (by exact lw) (le18 _ _ (leW _ _ hwl)) (by first | with_reducible assumption | decide | lia | omega) ?_
      refine wpAny_BinOp ?_
      refine r_name S18 (by exact rfl) ?_
      refine r_int ?_
      first | with_reducible refine PySem.P.add_int ?_ | refine PySem.P.add_int ?_
      refine ⟨i + 1, _, _, rfl, rfl, fun F22 h22 c3 le22 S22 o3 => ?_⟩
      refine r_ladd S22 (le22 _ _ o1) o3 (by rw [List.length_take, List.length_drop]; first | with_reducible assumption | decide | lia | omega) fun F23 h23 c4 le23 S23 o4 => ?_
      have SLe := S23.pushF (o := lstObj [.ref c4] 0) rfl
      have S24 := SLe.1
      have le24 := SLe.2
      clear SLe
      have o5 := ins_self F23 h23.objs.size (lstObj [.ref c4] 0)
      generalize ins F23 h23.objs.size (lstObj [.ref c4] 0) = F24 at S24 le24 o5
      refine ⟨⟨S24.f (S24.st.b.k _ _ k101), f101⟩, ?_⟩
      have leC := (le18.trans le22).trans (le23.trans le24)
      have apw : All2 (PairAt F24) (pvs.take i ++ pvs.drop (i + 1)) (words (f.del i)) := by
        rw [words_del f i]
        exact ((aps.take i).up fun _ _ z => z.up (leW.trans leC)).app ((aps.drop (i + 1)).up fun _ _ z => z.up (leW.trans leC))
      refine Fn.useT (join1 o5 (le24 _ _ o4) apw (by first | with_reducible assumption | decide | lia | omega)) C1.mono S24 ?_
      intro F25 h25 tk25 t25 le25 S25
      refine wp_append (M1 := []) S25 (by rw [List.length_map, sizeLine_eq]; first | with_reducible assumption | decide | lia | omega) fun h26 n26 S26 => ?_
      refine x_nil ?_
      refine x_nil ?_
      refine hP ⟨F25, (tl, lstObj (txs (ts ++ [(R (f.del i), t25)])) n26) :: M, _, h26, tk25, rfl, by rw [txs_snoc]; exact S26, le10.trans (leC.trans le25), _, n26, rfl, ?_, by exact lw, by exact lt⟩
      rw [hnext [f.del i] (by rw [pluckG_at f i c .nil hk]; rfl), List.map_append]; rfl
    · have hv : valOf (some (R k)) pu := by unfold vk at hpu; rw [if_neg q] at hpu; exact hpu
      obtain ⟨pt2, rfl⟩ := hv
      have hpk : (pluckG f)[i]? = some ((pluck k).map fun k' => f.setKid i k') := by rw [pluckG_at f i c k hk, if_neg q]
      refine is_str_none ?_
      refine truthy_b ?_
      first | with_reducible refine on_f (by decide) ?_ | refine on_f (by decide) ?_ | rw [if_neg (by decide)]
      refine xl_for ?_
      refine r_call ?_
      refine r_global S12 (by exact rfl) ?_
      refine r_cwF1 (o := o115) (fd := fd115) ?_
      refine r_name S12 (by exact rfl) ?_
      refine ⟨⟨S12.f (S12.st.b.k _ _ k115), f115⟩, ?_⟩
      refine Fn.use (ih k (by first | with_reducible assumption | decide | lia | omega) (by first | with_reducible assumption | decide | lia | omega) (fun e => q (by rw [e]; rfl)) (kf2 hok).2 F' pt2) C1.mono S12 ?_
      rintro F14 h15 tk16 iv le14 S15 ⟨il, ivs, inn, rfl, hil2, ail⟩
      have leX := leW.trans le14
      show wpAny _ _ _ _ _ ⟨_, g, d, _, os⟩
      refine loop_list (l := il) (vs := ivs) (PluB F14 tl wl M N' ts f k c i pt ti) C1.hd ?_ ?_ ?_ S15 ?_
      · rintro j F2 M2 V2 ⟨le2, _⟩
        exact .inl ⟨inn, le2 _ _ hil2⟩
      · clear lw lt S12 S15
        rintro j y F2 M2 V2 N2 h16 tk17 E9 P hP hy ⟨le16, ts2, n2, rfl, hts2, lw, lt, lk, lki⟩ S16
        obtain ⟨yt, hyt, ty, rfl⟩ := ail.get hy
        rw [List.getElem?_map] at hyt
        obtain ⟨k', hk', rfl⟩ := Option.map_eq_some_iff.mp hyt
        obtain ⟨kn, _⟩ := pluck_mem (p := okL) k.nodes (Nat.le_refl _) (List.mem_of_getElem? hk')
        have SLe := kf3 k'
        have g1 := SLe.1
        have g2 := SLe.2.1
        have g3 := SLe.2.2
        clear SLe
        have hkl := R_small (f := k') (by first | with_reducible assumption | decide | lia | omega)
        have leY := leX.trans le16
        refine wpAny_assign_Name (r_store S16 fun h17 tk18 S17 => ?_)
        refine x_expr ?_
        refine r_meth (v := .ref tl) S17 (by exact lt) ⟨_, S17.m (.head _), rfl⟩ (fun b hb => by cases hb; exact ⟨_, S17.m (.head _), rfl⟩) PySem.F.plainAttrs_list PySem.F.slot_list_append PySem.F.type_list_append ?_
        refine r_cwB1 ?_
        refine r_call ?_
        refine r_global S17 (by exact rfl) ?_
        refine r_cwF1 (o := o101) (fd := fd101) ?_
        refine r_list1 ?_
        refine wpAny_BinOp ?_
        refine wpAny_BinOp ?_
        refine r_lupto S17 (by exact lw) (leY _ _ hwl) (by first | with_reducible assumption | decide | lia | omega) ?_
        refine r_name S17 (by exact lki) ?_
        refine ⟨i, _, _, rfl, rfl, fun F18 h18 c1 le18 S18 o1 => ?_⟩
        refine r_list1 ?_
        refine r_tup2 ?_
        refine r_name S18 (by exact lk) ?_
        refine r_orNone S18 (by exact rfl) (by first | with_reducible assumption | decide | lia | omega) fun vv tk19 hvv => ?_
        rw [vk_R] at hvv
        have SLe := S18.pushF (o := tupObj [.str (T [c]) pt, vv]) rfl
        have S19 := SLe.1
        have le19 := SLe.2
        clear SLe
        have hpa2 := ins_self F18 h18.objs.size (tupObj [.str (T [c]) pt, vv])
        generalize ins F18 h18.objs.size (tupObj [.str (T [c]) pt, vv]) = F19 at S19 le19 hpa2
        have SLe := S19.pushF (o := lstObj [.ref h18.objs.size] 0) rfl
        have S20 := SLe.1
        have le20 := SLe.2
        clear SLe
        have hls := ins_self F19 (h18.push (tupObj [.str (T [c]) pt, vv])).objs.size (lstObj [.ref h18.objs.size] 0)
        generalize ins F19 (h18.push (tupObj [.str (T [c]) pt, vv])).objs.size (lstObj [.ref h18.objs.size] 0) = F20 at S20 le20 hls
        refine r_ladd S20 (le20 _ _ (le19 _ _ o1)) hls (by rw [List.length_take, List.length_singleton]; first | with_reducible assumption | decide | lia | omega) fun F21 h21 c2 le21 S21 o2 => ?_
        have leA := (le18.trans le19).trans (le20.trans le21)
        refine r_lfrom S21 (by exact lw) (leA _ _ (leY _ _ hwl)) (by first | with_reducible assumption | decide | lia | omega) ?_
        refine wpAny_BinOp ?_
        refine r_name S21 (by exact lki) ?_
        refine r_int ?_
        first | with_reducible refine PySem.P.add_int ?_ | refine PySem.P.add_int ?_
        refine ⟨i + 1, _, _, rfl, rfl, fun F22 h22 c3 le22 S22 o3 => ?_⟩
        refine r_ladd S22 (le22 _ _ o2) o3 (by rw [List.length_append, List.length_take, List.length_drop, List.length_singleton]; first | with_reducible assumption | decide | lia | omega) fun F23 h23 c4 le23 S23 o4 => ?_
        have SLe := S23.pushF (o := lstObj [.ref c4] 0) rfl
        have S24 := SLe.1
        have le24 := SLe.2
        clear SLe
        have o5 := ins_self F23 h23.objs.size (lstObj [.ref c4] 0)
        generalize ins F23 h23.objs.size (lstObj [.ref c4] 0) = F24 at S24 le24 o5
        refine ⟨⟨S24.f (S24.st.b.k _ _ k101), f101⟩, ?_⟩
        have leB := ((le20.trans le21).trans (le22.trans le23)).trans le24
        have leC := (le18.trans le19).trans leB
        have apw : All2 (PairAt F24) (pvs.take i ++ [.ref h18.objs.size] ++ pvs.drop (i + 1)) (words (f.setKid i k')) := by
          rw [words_setKid f i c k k' hk, List.append_assoc]
          have a1 := (aps.take i).up fun _ _ z => z.up (leY.trans leC)
          have a2 := (aps.drop (i + 1)).up fun _ _ z => z.up (leY.trans leC)
          exact a1.app (.cons ⟨_, _, _, rfl, hvv, leB _ _ hpa2⟩ a2)
        refine Fn.useT (join1 o5 (le24 _ _ o4) apw (by first | with_reducible assumption | decide | lia | omega)) C1.mono S24 ?_
        intro F25 h25 tk25 t25 le25 S25
        have htl : ts2.length ≤ 2 ^ 20 := by
          have z1 := congrArg List.length hts2
          have z3 : (pluck k).length ≤ k.nodes := pluck_len k
          rw [List.length_append, List.length_map, List.length_map, List.length_map, List.length_take] at z1
          first | with_reducible assumption | decide | lia | omega
        refine wp_append (M1 := []) S25 (by rw [List.length_map, sizeLine_eq]; first | with_reducible assumption | decide | lia | omega) fun h26 n26 S26 => ?_
        refine x_nil ?_
        refine hP ⟨F25, (tl, lstObj (txs (ts2 ++ [(R (f.setKid i k'), t25)])) n26) :: (M ++ N'), (("within" : Str), .str (T (R k')) ty) :: V2, h26, tk25, rfl, ?_, le16.trans (leC.trans le25), _, n26, rfl, ?_, by exact lw, by exact lt, by exact lk, by exact lki⟩
        · rw [txs_snoc]; exact S26
        · rw [List.map_append, hts2, List.take_add_one, hk', List.map_append, List.append_assoc]; rfl
      · rintro F2 M2 V2 h16 tk17 ⟨le16, ts2, n2, rfl, hts2, lw, lt, lk, lki⟩ S16
        refine x_nil ?_
        refine x_nil ?_
        refine hP ⟨F2, (tl, lstObj (txs ts2) n2) :: M, V2, h16, tk17, rfl, S16, (le10.trans le14).trans le16, ts2, n2, rfl, ?_, lw, lt⟩
        have hll : ivs.length = (pluck k).length := by rw [ail.len, List.length_map]
        rw [hts2, hll, List.take_length, hnext _ hpk, List.map_map]; rfl
      · exact ⟨Le.refl _, ts, tn, rfl, by simp, by exact lw, by exact lt, by exact rfl, by exact rfl⟩
  · rintro F9' M9 V9 h10 tk12 ⟨le10, ts, tn, rfl, hts, lw, lt⟩ S10
    refine x_ret ?_
    refine r_name S10 lt ?_
    have SLe := S10.freeze
    have S11 := SLe.1
    have le11 := SLe.2
    clear SLe
    refine H _ _ _ _ ((leF.trans le7).trans (le10.trans le11)) S11.st ⟨tl, _, tn, rfl, ins_self _ _ _, ?_⟩
    have : (pluck f).map R = ts.map (·.1) := by rw [hts, List.take_of_length_le (by rw [pluckG_len]; exact Nat.le_refl _)]; rfl
    rw [this]
    exact txs_all ts
  · exact ⟨Le.refl _, [], 0, rfl, rfl, by exact rfl, by exact rfl⟩
end
end Mine
end
section
open PySem PySem.W PyProof.Rows PySem.Calls
set_option autoImplicit false
set_option maxRecDepth 100000
namespace Mine
theorem flat_one (c : Nat) : ∀ (n : Nat) (acc : Array Nat), (List.replicate n (T [c]).cps).foldl (· ++ ·) acc = acc ++ (List.replicate n c).toArray
  | 0, acc => by simp
  | n + 1, acc => by
    rw [List.replicate_succ, List.foldl_cons, flat_one c n, List.replicate_succ]
    show acc ++ [c].toArray ++ _ = acc ++ (c :: List.replicate n c).toArray
    rw [Array.append_assoc, show [c].toArray ++ (List.replicate n c).toArray = (c :: List.replicate n c).toArray from List.append_toArray ..]
section
variable {prog : Program} {w : World} {A : Around} {E : Value → Shared → Prop} {h : Heap} {F : Fz} {M : List (Addr × Obj)} {L a b l : Addr} {V : List (Str × Value)} {g : Array GenState} {d : Drawn} {tk : Nat} {os : OsState}
  {cn : Str} {cs : Scope} {cd : Value} {cl : List (Str × Addr)} {vs us : List Value} {n m : Nat}
theorem r_pow2 {k : Nat} {t u : Tok} {Q : Value → Shared → Prop} (hk : k ≤ 100) (H : ∀ t' tk', Q (.int (2 ^ k : Nat) t') ⟨h, g, d, tk', os⟩) : wpAny (model prog w) A (binaryOp .Pow (.int 2 t) (.int k u)) Q E ⟨h, g, d, tk, os⟩ := by
  by_cases q : k = 0
  · subst q
    exact AutoIntOps.pow_0 (by decide) (by decide) (H _ _)
  · refine AutoIntOps.pow_4 (by first | with_reducible assumption | decide | lia | omega) (by simpa using q) (by decide) (by decide) ?_ ?_
    · have : Builtin.Int.intBits 2 = 2 := by decide +kernel
      rw [this]
      unfold Builtin.Int.intTooBig
      rw [bitsLine_eq]
      simp
      first | with_reducible assumption | decide | lia | omega
    · have : (2 : Int) ^ ((k : Int).toNat) = ((2 ^ k : Nat) : Int) := by rw [Int.toNat_natCast]; norm_cast
      rw [this]
      exact H _ _
theorem r_mulS {c : Nat} {k : Nat} {t u : Tok} {Q : Value → Shared → Prop} (hk : k ≤ 10000) (H : ∀ t' tk', Q (.str (T (List.replicate k c)) t') ⟨h, g, d, tk', os⟩) : wpAny (model prog w) A (binaryOp .Mult (.str (T [c]) t) (.int k u)) Q E ⟨h, g, d, tk, os⟩ := by
  have hl : (T [c]).length = 1 := rfl
  refine PySem.P.mul_str ?_ (fun h1 _ => ?_) (fun h1 _ => ?_) ?_
  · rw [decide_eq_false (by first | with_reducible assumption | decide | lia | omega), decide_eq_false (by first | with_reducible assumption | decide | lia | omega)]; rfl
  · rw [hl]
    have : (2 ^ 63 - 1) / (k : Int) ≥ 1 := by
      refine (Int.le_ediv_iff_mul_le (by first | with_reducible assumption | decide | lia | omega)).mpr ?_
      first | with_reducible assumption | decide | lia | omega
    first | with_reducible assumption | decide | lia | omega
  · rw [hl]
    unfold Builtin.Str.tooLong
    rw [sizeLine_eq, Int.toNat_natCast]
    exact decide_eq_false (by first | with_reducible assumption | decide | lia | omega)
  · by_cases q : (k : Int) < 1
    · rw [if_pos q]
      have : k = 0 := by first | with_reducible assumption | decide | lia | omega
      subst this
      exact ⟨by decide, H _ _⟩
    · rw [if_neg q]
      by_cases q1 : ((k : Int) == 1 || (T [c]).length == 0) = true
      · rw [if_pos q1]
        have : k = 1 := by
          rw [hl] at q1
          simp at q1
          first | with_reducible assumption | decide | lia | omega
        subst this
        exact H _ _
      · rw [if_neg q1]
        have : (⟨(List.replicate (k : Int).toNat (T [c]).cps).foldl (· ++ ·) #[]⟩ : Str) = T (List.replicate k c) := by
          rw [Int.toNat_natCast, flat_one]; simp
        rw [this]
        exact ⟨by rw [T_len, List.length_replicate, sizeLine_eq]; first | with_reducible assumption | decide | lia | omega, H _ _⟩
/- an item of a tuple of two -/
theorem r_tup0 {u v : Value} {t : Tok} {Q : Value → Shared → Prop} (ho : h.get? a = some (tupObj [u, v])) (H : Q u ⟨h, g, d, tk, os⟩) : wpAny (model prog w) A (getItem (.ref a) (.int 0 t)) Q E ⟨h, g, d, tk, os⟩ := by
  refine getItem_tuple (j := 0) (items := #[u, v]) ⟨_, ho, rfl, _, rfl⟩ (by decide) (by decide) rfl rfl H
theorem r_tup1 {u v : Value} {t : Tok} {Q : Value → Shared → Prop} (ho : h.get? a = some (tupObj [u, v])) (H : Q v ⟨h, g, d, tk, os⟩) : wpAny (model prog w) A (getItem (.ref a) (.int 1 t)) Q E ⟨h, g, d, tk, os⟩ := by
  refine getItem_tuple (j := 1) (items := #[u, v]) ⟨_, ho, rfl, _, rfl⟩ (by decide) (by decide) rfl rfl H
end
/- a sign at a depth -/
noncomputable def signT (c d : Nat) : List Nat := if c = 34 then List.replicate (2 ^ d - 1) 92 ++ [34] else if c = 92 then List.replicate (2 ^ d) 92 else [c]
theorem eqT {a b : Nat} : ((T [a]).cps.toList == (T [b]).cps.toList) = (a == b) := by
  show ([a] == [b]) = _
  simp
section
variable {w : World} {F : Fz}
theorem sign_fn {c d : Nat} {t u : Tok} (hd : d ≤ 10) : Fn w (.ref 129) [.str (T [c]) t, .int d u] F 2 10 (fun _ v => textOf v (signT c d)) := by
  intro prog A M h g dr tk os Q E C S H
  refine enter (D := 1) (U := 7) (binds := [("sign", .str (T [c]) t), ("deep", .int d u)]) C S (by exact rfl) (by exact rfl) (by exact rfl) (by exact rfl) ?_
  intro h1 tk1 L E' S1 C1
  have hp : 2 ^ d ≤ 2 ^ 10 := Nat.pow_le_pow_right (by decide) hd
  have hp1 := Nat.two_pow_pos d
  refine x_if ?_
  refine wpAny_isTrue_Compare1 ?_
  refine r_name S1 (by exact rfl) ?_
  refine r_str ?_
  have e34 : Str.ofString "\"" = T [34] := rfl
  have e92 : Str.ofString "\\" = T [92] := rfl
  rw [e34]
  first | with_reducible refine PySem.P.eq_str ?_ | refine PySem.P.eq_str ?_
  rw [eqT]
  refine truthy_b ?_
  by_cases q : c = 34
  · subst q
    first | with_reducible refine on_t (by decide) ?_ | refine on_t (by decide) ?_ | rw [if_pos (by decide)]
    refine x_ret ?_
    refine wpAny_BinOp ?_
    refine wpAny_BinOp ?_
    refine r_str ?_
    refine wpAny_BinOp ?_
    refine wpAny_BinOp ?_
    refine r_int ?_
    refine r_name S1 (by exact rfl) ?_
    with_reducible refine r_pow2 ?_ fun t1 tk2 => ?_
    · first | with_reducible assumption | decide | lia | omega
    refine r_int ?_
    first | with_reducible refine PySem.P.sub_int ?_ | refine PySem.P.sub_int ?_
    have : ((2 ^ d : Nat) : Int) - 1 = ((2 ^ d - 1 : Nat) : Int) := by first | with_reducible assumption | decide | lia | omega
    rw [this, e92]
    with_reducible refine r_mulS ?_ fun t2 tk3 => ?_
    · first | with_reducible assumption | decide | lia | omega
    refine r_name S1 (by exact rfl) ?_
    with_reducible refine r_addS ?_ fun t3 tk4 => ?_
    · rw [List.length_replicate, sizeLine_eq, List.length_singleton]; first | with_reducible assumption | decide | lia | omega
    exact H F _ _ _ (Le.refl _) S1.st ⟨t3, rfl⟩
  · rw [if_neg (by simpa using q)]
    refine x_nil ?_
    refine x_if ?_
    refine wpAny_isTrue_Compare1 ?_
    refine r_name S1 (by exact rfl) ?_
    refine r_str ?_
    rw [e92]
    first | with_reducible refine PySem.P.eq_str ?_ | refine PySem.P.eq_str ?_
    rw [eqT]
    refine truthy_b ?_
    by_cases q2 : c = 92
    · subst q2
      first | with_reducible refine on_t (by decide) ?_ | refine on_t (by decide) ?_ | rw [if_pos (by decide)]
      refine x_ret ?_
      refine wpAny_BinOp ?_
      refine r_name S1 (by exact rfl) ?_
      refine wpAny_BinOp ?_
      refine r_int ?_
      refine r_name S1 (by exact rfl) ?_
      with_reducible refine r_pow2 ?_ fun t1 tk2 => ?_
      · first | with_reducible assumption | decide | lia | omega
      with_reducible refine r_mulS ?_ fun t2 tk3 => ?_
      · first | with_reducible assumption | decide | lia | omega
      exact H F _ _ _ (Le.refl _) S1.st ⟨t2, rfl⟩
    · rw [if_neg (by simpa using q2)]
      refine x_nil ?_
      refine x_ret ?_
      refine r_name S1 (by exact rfl) ?_
      refine H F _ _ _ (Le.refl _) S1.st ⟨t, ?_⟩
      rw [signT, if_neg q, if_neg q2]
end

/- rows: how deep a word lies, and its sign -/
noncomputable def RowAt (F : Fz) (v : Value) (r : Int × Nat) : Prop := ∃ a t u, v = .ref a ∧ F a = some (tupObj [.int r.1 t, .str (T [r.2]) u])
noncomputable def RowsAt (F : Fz) (v : Value) (rs : List (Int × Nat)) : Prop := ∃ a vs n, v = .ref a ∧ F a = some (lstObj vs n) ∧ All2 (RowAt F) vs rs
noncomputable def GapAt (F : Fz) (v : Value) (r : Nat × Int) : Prop := ∃ a t u, v = .ref a ∧ F a = some (tupObj [.int r.1 t, .int r.2 u])
noncomputable def GapsAt (F : Fz) (v : Value) (rs : List (Nat × Int)) : Prop := ∃ a vs n, v = .ref a ∧ F a = some (lstObj vs n) ∧ All2 (GapAt F) vs rs
theorem RowAt.up {F F' : Fz} {v : Value} {r : Int × Nat} (h : RowAt F v r) (l : Le F F') : RowAt F' v r := let ⟨a, t, u, e, f⟩ := h; ⟨a, t, u, e, l _ _ f⟩
theorem GapAt.up {F F' : Fz} {v : Value} {r : Nat × Int} (h : GapAt F v r) (l : Le F F') : GapAt F' v r := let ⟨a, t, u, e, f⟩ := h; ⟨a, t, u, e, l _ _ f⟩
theorem RowsAt.up {F F' : Fz} {v : Value} {rs : List (Int × Nat)} (h : RowsAt F v rs) (l : Le F F') : RowsAt F' v rs := let ⟨a, vs, n, e, f, q⟩ := h; ⟨a, vs, n, e, l _ _ f, q.up fun _ _ x => x.up l⟩
noncomputable def aheadOf (rs : List (Int × Nat)) (k : Nat) : Int := if k = 0 then -1 else match rs[k - 1]? with | some r => r.1 | none => 0
noncomputable def behindOf (rs : List (Int × Nat)) (k : Nat) : Int := match rs[k]? with | some r => r.1 | none => 0
noncomputable def gapsK (rs : List (Int × Nat)) (k : Nat) : List (Nat × Int) := (List.range (aheadOf rs k + 2 - behindOf rs k).toNat).map fun j => (k, behindOf rs k + (j : Nat))
noncomputable def gapsR (rs : List (Int × Nat)) : List (Nat × Int) := ((List.range (rs.length + 1)).map (gapsK rs)).flatten
end Mine
end
section
open PySem PySem.W PyProof.Rows PySem.Calls
set_option autoImplicit false
set_option maxRecDepth 100000
namespace Mine
section
variable {prog : Program} {w : World} {A : Around} {E : Value → Shared → Prop} {h : Heap} {F : Fz} {M : List (Addr × Obj)} {L a l : Addr} {V : List (Str × Value)} {g : Array GenState} {d : Drawn} {tk : Nat} {os : OsState}
  {cn : Str} {cs : Scope} {cd : Value} {cl : List (Str × Addr)} {vs : List Value} {n : Nat} {rs : List (Int × Nat)}
theorem r_row {x : Str} {e : Expr} {px p1 p2 p3 : Pos} {k2 : Nat} {c : Int} {Q : Value → Shared → Prop} (S : Sf w h F M L V) (hv : V.lookup x = some (.ref l)) (hl : F l = some (lstObj vs n)) (ha : All2 (RowAt F) vs rs) (hc : c = 0 ∨ c = 1) (hz : rs.length ≤ 1000)
    (H : wpAny (model prog w) A (eval e (envX cn cs L a cd cl)) (fun v s₁ => ∃ (k : Nat) (t : Tok) (tk1 : Nat) (r : Int × Nat), v = .int k t ∧ s₁ = ⟨h, g, d, tk1, os⟩ ∧ rs[k]? = some r ∧
      ∀ t' tk2, Q (if c = 0 then .int r.1 t' else .str (T [r.2]) t') ⟨h, g, d, tk2, os⟩) E ⟨h, g, d, tk, os⟩)
    (hk : cs.kind = .function := by rfl) (hln : (envX cn cs L a cd cl).kindOf x = some .local := by rfl) (hd : (x == ("__debug__" : Str)) = false := by decide) :
    wpAny (model prog w) A (eval (.Subscript (.Subscript (.Name x px) e p1) (.Constant (.int c) k2 p2) p3) (envX cn cs L a cd cl)) Q E ⟨h, g, d, tk, os⟩ := by
  refine r_sub ?_
  refine r_sub ?_
  refine r_name S hv ?_ hk hln hd
  refine wpAny_mono H (fun v s₁ h₁ => ?_) fun _ _ e => e
  obtain ⟨k, t, tk1, r, rfl, rfl, hr, q⟩ := h₁
  obtain ⟨v, hv', a', t1, t2, rfl, ho⟩ := ha.get' hr
  have hkl : k < rs.length := (List.getElem?_eq_some_iff.mp hr).1
  refine ⟨"list", _, ⟨_, S.f hl, rfl⟩, PySem.F.slot_list_getitem.lookup, ?_⟩
  refine wpAny_getItem_list (items := vs.toArray) ⟨_, S.f hl, rfl, n, rfl⟩ (by first | with_reducible assumption | decide | lia | omega) (by first | with_reducible assumption | decide | lia | omega) (x := .ref a') (by rw [Int.toNat_natCast]; simpa using hv') ?_
  refine r_int ?_
  refine ⟨"tuple", _, ⟨_, S.f ho, rfl⟩, PySem.F.slot_tuple_getitem.lookup, ?_⟩
  rcases hc with rfl | rfl
  · refine r_tup0 (S.f ho) ?_
    exact q t1 _
  · refine r_tup1 (S.f ho) ?_
    exact q t2 _
end
section
variable {w : World} {F : Fz}
/- what the loop keeps -/
inductive GapA (F7 : Fz) (tl l : Addr) (M : List (Addr × Obj)) (rs : List (Int × Nat)) (i : Nat) (F' : Fz) (M' : List (Addr × Obj)) (V' : List (Str × Value)) : Prop
  | mk (h1_ : Le F7 F') (gs : List Value) (n : Nat) (h2_ : M' = (tl, lstObj gs n) :: M) (h3_ : All2 (GapAt F') gs (((List.range i).map (gapsK rs)).flatten)) (h4_ : gs.length ≤ 100 * i) (h5_ : Has V' "rows" (.ref l)) (h6_ : Has V' "gaps" (.ref tl)) : GapA F7 tl l M rs i F' M' V'
/- what the loop keeps -/
inductive GapB (F14 : Fz) (tl l : Addr) (M N' : List (Addr × Obj)) (rs : List (Int × Nat)) (gs : List Value) (i : Nat) (ti2 : Tok) (j : Nat) (F2 : Fz) (M2 : List (Addr × Obj)) (V2 : List (Str × Value)) : Prop
  | mk (h1_ : Le F14 F2) (gs2 : List Value) (n2 : Nat) (h2_ : M2 = (tl, lstObj gs2 n2) :: (M ++ N')) (h3_ : All2 (GapAt F2) gs2 (((List.range i).map (gapsK rs)).flatten ++ (List.range j).map fun j => (i, behindOf rs i + (j : Nat)))) (h4_ : gs2.length = gs.length + j) (h5_ : Has V2 "k" (.int (i : Nat) ti2)) (h6_ : Has V2 "rows" (.ref l)) (h7_ : Has V2 "gaps" (.ref tl)) : GapB F14 tl l M N' rs gs i ti2 j F2 M2 V2
set_option maxHeartbeats 4000000 in
theorem gaps_fn {l : Addr} {vs : List Value} {n : Nat} {rs : List (Int × Nat)} (hl : F l = some (lstObj vs n)) (ha : All2 (RowAt F) vs rs) (hz : rs.length ≤ 5) (hd : ∀ r ∈ rs, 0 ≤ r.1 ∧ r.1 ≤ 5) :
    Fn w (.ref 122) [.ref l] F 2 10 (fun F' v => GapsAt F' v (gapsR rs)) := by
  intro prog A M h g dr tk os Q E C S H
  refine enter (D := 1) (U := 7) (binds := [("rows", .ref l)]) C S (by exact rfl) (by exact rfl) (by exact rfl) (by exact rfl) ?_
  intro h1 tk1 L E' S1 C1
  have hvl := ha.len
  refine x_assign ?_
  refine r_list0 ?_
  have S2 := S1.push (o := lstObj [] 0) rfl
  refine r_store S2 fun h3 tk3 S3 => ?_
  generalize h1.objs.size = tl at S3
  clear S1 S2
  refine xl_for ?_
  refine r_range S3 ?_
  refine wpAny_BinOp ?_
  refine r_len S3 (by exact rfl) (S3.f hl) (by first | with_reducible assumption | decide | lia | omega) fun t7 tk7 => ?_
  refine r_int ?_
  first | with_reducible refine PySem.P.add_int ?_ | refine PySem.P.add_int ?_
  refine ⟨_, _, _, rfl, rfl, fun F7 h7 rc tk8 q1 q2 q3 le7 S7 hrc => ?_⟩
  generalize A.deeper _ = A1 at C1 ⊢
  show wpAny _ _ _ _ _ ⟨_, g, dr, _, os⟩
  refine loop_range (n := rs.length + 1) (GapA F7 tl l M rs) C1.hd hrc (by decide) (by first | with_reducible assumption | decide | lia | omega) (by first | with_reducible assumption | decide | lia | omega) ?_ ?_ S7 ?_
  · rintro i F' M' V' N' h8 tk9 ti E8 P hP hi ⟨le8, gs, gn, rfl, hgs, hgl, lr, lg⟩ S8
    rw [Int.zero_add]
    refine wpAny_assign_Name (r_store S8 fun h9 tk10 S9 => ?_)
    refine x_assign ?_
    refine wpAny_UnaryOp ?_
    refine r_int ?_
    first | with_reducible refine PySem.P.neg_int ?_ | refine PySem.P.neg_int ?_
    refine r_store S9 fun h10 tk11 S10 => ?_
    refine x_assign ?_
    refine r_int ?_
    refine r_store S10 fun h11 tk12 S11 => ?_
    have leA := le7.trans le8
    have har := ha.up fun _ _ z => z.up leA
    refine x_ifJ (fun s => ∃ h6 tk6 V6 tb ti2 ta, s = ⟨h6, g, dr, tk6, os⟩ ∧ Sf w h6 F' ((tl, lstObj gs gn) :: (M ++ N')) L V6 ∧ Has V6 "ahead" (.int (aheadOf rs i) ta) ∧ Has V6 "behind" (.int 0 tb) ∧ Has V6 "k" (.int (i : Nat) ti2) ∧ Has V6 "rows" (.ref l) ∧ Has V6 "gaps" (.ref tl)) ?_ ?_
    · intro PJ hJ
      refine wpAny_isTrue_Compare1 ?_
      refine r_name S11 (by exact rfl) ?_
      refine r_int ?_
      first | with_reducible refine PySem.P.gt_int ?_ | refine PySem.P.gt_int ?_
      refine truthy_b ?_
      by_cases q : i = 0
      · subst q
        first | with_reducible refine on_f (by decide) ?_ | refine on_f (by decide) ?_ | rw [if_neg (by decide)]
        exact x_nil ⟨rfl, hJ ⟨h11, _, _, _, _, _, rfl, S11, by exact rfl, by exact rfl, by exact rfl, by exact lr, by exact lg⟩⟩
      · rw [if_pos (by simp; first | with_reducible assumption | decide | lia | omega)]
        obtain ⟨r, hr⟩ : ∃ r, rs[i - 1]? = some r := ⟨_, List.getElem?_eq_getElem (by first | with_reducible assumption | decide | lia | omega)⟩
        refine x_assign ?_
        refine r_row S11 (by exact lr) (leA _ _ hl) har (.inl rfl) (by first | with_reducible assumption | decide | lia | omega) ?_
        refine wpAny_BinOp ?_
        refine r_name S11 (by exact rfl) ?_
        refine r_int ?_
        first | with_reducible refine PySem.P.sub_int ?_ | refine PySem.P.sub_int ?_
        have e1 : ((i : Nat) : Int) - 1 = ((i - 1 : Nat) : Int) := by first | with_reducible assumption | decide | lia | omega
        rw [e1]
        refine ⟨i - 1, _, _, r, rfl, rfl, hr, fun t' tk2 => ?_⟩
        first | with_reducible refine on_t rfl ?_ | refine on_t rfl ?_ | rw [if_pos rfl]
        have e2 : aheadOf rs i = r.1 := by unfold aheadOf; rw [if_neg q, hr]
        rw [← e2]
        refine r_store S11 fun h12 tk13 S12 => ?_
        exact x_nil ⟨rfl, hJ ⟨h12, _, _, _, _, _, rfl, S12, by exact rfl, by exact rfl, by exact rfl, by exact lr, by exact lg⟩⟩
    · clear S8 S9 S10 S11 lr lg
      rintro s ⟨h12, tk13, V12, tb, ti2, ta, rfl, S12, la, lb, lk, lr, lg⟩
      refine x_ifJ (fun s => ∃ h6 tk6 V6 tb ti2 ta, s = ⟨h6, g, dr, tk6, os⟩ ∧ Sf w h6 F' ((tl, lstObj gs gn) :: (M ++ N')) L V6 ∧ Has V6 "ahead" (.int (aheadOf rs i) ta) ∧ Has V6 "behind" (.int (behindOf rs i) tb) ∧ Has V6 "k" (.int (i : Nat) ti2) ∧ Has V6 "rows" (.ref l) ∧ Has V6 "gaps" (.ref tl)) ?_ ?_
      · intro PJ hJ
        refine wpAny_isTrue_Compare1 ?_
        refine r_name S12 lk ?_
        refine r_len S12 lr (S12.f (leA _ _ hl)) (by first | with_reducible assumption | decide | lia | omega) fun t14 tk14 => ?_
        first | with_reducible refine PySem.P.lt_int ?_ | refine PySem.P.lt_int ?_
        refine truthy_b ?_
        by_cases q : i < rs.length
        · rw [if_pos (by simp; first | with_reducible assumption | decide | lia | omega)]
          obtain ⟨r, hr⟩ : ∃ r, rs[i]? = some r := ⟨_, List.getElem?_eq_getElem q⟩
          refine x_assign ?_
          refine r_row S12 lr (leA _ _ hl) har (.inl rfl) (by first | with_reducible assumption | decide | lia | omega) ?_
          refine r_name S12 lk ?_
          refine ⟨i, _, _, r, rfl, rfl, hr, fun t' tk2 => ?_⟩
          first | with_reducible refine on_t rfl ?_ | refine on_t rfl ?_ | rw [if_pos rfl]
          have e2 : behindOf rs i = r.1 := by unfold behindOf; rw [hr]
          rw [← e2]
          refine r_store S12 fun h13 tk15 S13 => ?_
          exact x_nil ⟨rfl, hJ ⟨h13, _, _, _, _, _, rfl, S13, by exact la, by exact rfl, by exact lk, by exact lr, by exact lg⟩⟩
        · rw [if_neg (by simp; first | with_reducible assumption | decide | lia | omega)]
          have e2 : behindOf rs i = 0 := by unfold behindOf; rw [List.getElem?_eq_none (by first | with_reducible assumption | decide | lia | omega)]
          have lb2 : Has V12 "behind" (.int (behindOf rs i) tb) := by rw [e2]; exact lb
          exact x_nil ⟨rfl, hJ ⟨h12, _, _, _, _, _, rfl, S12, la, lb2, lk, lr, lg⟩⟩
      · clear S12 la lb lk lr lg
        rintro s ⟨h13, tk15, V13, tb, ti2, ta, rfl, S13, la, lb, lk, lr, lg⟩
        have hah : -1 ≤ aheadOf rs i ∧ aheadOf rs i ≤ 5 := by
          unfold aheadOf
          split
          · decide
          · split
            · rename_i r hr
              have := hd r (List.mem_of_getElem? hr); first | with_reducible assumption | decide | lia | omega
            · decide
        have hbh : 0 ≤ behindOf rs i ∧ behindOf rs i ≤ 5 := by
          unfold behindOf
          split
          · rename_i r hr
            exact hd r (List.mem_of_getElem? hr)
          · decide
        refine xl_for ?_
        refine r_range2 S13 ?_
        refine r_name S13 lb ?_
        refine wpAny_BinOp ?_
        refine r_name S13 la ?_
        refine r_int ?_
        first | with_reducible refine PySem.P.add_int ?_ | refine PySem.P.add_int ?_
        refine ⟨_, _, _, _, _, rfl, rfl, rfl, fun F14 h14 rc2 tk16 q4 q5 q6 le14 S14 hrc2 => ?_⟩
        show wpAny _ _ _ _ _ ⟨_, g, dr, _, os⟩
        refine loop_range (n := (aheadOf rs i + 2 - behindOf rs i).toNat) (GapB F14 tl l M N' rs gs i ti2) C1.hd hrc2 (by first | with_reducible assumption | decide | lia | omega) (by first | with_reducible assumption | decide | lia | omega) (by first | with_reducible assumption | decide | lia | omega) ?_ ?_ S14 ?_
        · clear S13 S14 la lb lk lr lg
          rintro j F2 M2 V2 N2 h15 tk17 tj E9 P hP hj ⟨le15, gs2, n2, rfl, hgs2, hgl2, lk, lr, lg⟩ S15
          refine wpAny_assign_Name (r_store S15 fun h16 tk18 S16 => ?_)
          refine x_expr ?_
          refine r_meth (v := .ref tl) S16 (by exact lg) ⟨_, S16.m (.head _), rfl⟩ (fun b hb => by cases hb; exact ⟨_, S16.m (.head _), rfl⟩) PySem.F.plainAttrs_list PySem.F.slot_list_append PySem.F.type_list_append ?_
          refine r_cwB1 ?_
          refine r_tup2 ?_
          refine r_name S16 (by exact lk) ?_
          refine r_name S16 (by exact rfl) ?_
          have SLe := S16.pushF (o := tupObj [.int (i : Nat) ti2, .int (behindOf rs i + (j : Nat)) tj]) rfl
          have S17 := SLe.1
          have le17 := SLe.2
          clear SLe
          refine wp_append (M1 := []) S17 (by rw [sizeLine_eq]; first | with_reducible assumption | decide | lia | omega) fun h18 n18 S18 => ?_
          refine x_nil ?_
          refine hP ⟨_, (tl, lstObj (gs2 ++ [.ref h16.objs.size]) n18) :: (M ++ N'), _, h18, _, rfl, S18, le15.trans le17, _, n18, rfl, ?_, by rw [List.length_append, List.length_singleton, hgl2]; first | with_reducible assumption | decide | lia | omega, by exact lk, by exact lr, by exact lg⟩
          rw [List.range_succ, List.map_append, ← List.append_assoc]
          exact (hgs2.up fun _ _ z => z.up le17).snoc ⟨_, _, _, rfl, ins_self _ _ _⟩
        · rintro F2 M2 V2 h15 tk17 ⟨le15, gs2, n2, rfl, hgs2, hgl2, lk, lr, lg⟩ S15
          refine x_nil ?_
          refine hP ⟨F2, (tl, lstObj gs2 n2) :: M, V2, h15, tk17, rfl, S15, le8.trans (le14.trans le15), gs2, n2, rfl, ?_, by first | with_reducible assumption | decide | lia | omega, lr, lg⟩
          rw [List.range_succ, List.map_append, List.flatten_append]
          show All2 (GapAt F2) gs2 (_ ++ [gapsK rs i].flatten)
          rw [List.flatten_cons, List.flatten_nil, List.append_nil]
          exact hgs2
        · refine ⟨Le.refl _, gs, gn, rfl, ?_, rfl, lk, lr, lg⟩
          show All2 (GapAt F14) gs (_ ++ [])
          rw [List.append_nil]
          exact hgs.up fun _ _ z => z.up le14
  · rintro F8 M8 V8 h8 tk9 ⟨le8, gs, gn, rfl, hgs, hgl, lr, lg⟩ S8
    refine x_ret ?_
    refine r_name S8 lg ?_
    have SLe := S8.freeze
    have S9 := SLe.1
    have le9 := SLe.2
    clear SLe
    exact H _ _ _ _ (le7.trans (le8.trans le9)) S9.st ⟨tl, _, gn, rfl, ins_self _ _ _, hgs.up fun _ _ z => z.up le9⟩
  · exact ⟨Le.refl _, [], 0, rfl, .nil, by simp, by exact rfl, by exact rfl⟩
end
end Mine
end
section
open PySem PySem.W PyProof.Rows PySem.Calls
set_option autoImplicit false
set_option maxRecDepth 100000
namespace Mine
theorem esc_app : ∀ x y : List Nat, esc (x ++ y) = esc x ++ esc y
  | [], _ => rfl
  | c :: x, y => by
    show (if fJesc c then 92 :: c :: esc (x ++ y) else c :: esc (x ++ y)) = (if fJesc c then 92 :: c :: esc x else c :: esc x) ++ esc y
    rw [esc_app x y]
    split <;> rfl
/- escaped that often -/
noncomputable def escN : Nat → List Nat → List Nat
  | 0, x => x
  | d + 1, x => escN d (esc x)
theorem escN_app : ∀ (d : Nat) (x y : List Nat), escN d (x ++ y) = escN d x ++ escN d y
  | 0, _, _ => rfl
  | d + 1, x, y => by show escN d (esc (x ++ y)) = _; rw [esc_app, escN_app d]; rfl
theorem escN_nil : ∀ d : Nat, escN d [] = []
  | 0 => rfl
  | d + 1 => escN_nil d
theorem escN_len : ∀ (d : Nat) (x : List Nat), (escN d x).length ≤ 2 ^ d * x.length
  | 0, x => by show x.length ≤ _; first | with_reducible assumption | decide | lia | omega
  | d + 1, x => by
    have h1 := escN_len d (esc x)
    have h2 := (esc_len x).2
    show (escN d (esc x)).length ≤ _
    have h3 : 2 ^ d * (esc x).length ≤ 2 ^ d * (2 * x.length) := Nat.mul_le_mul_left _ h2
    rw [Nat.pow_succ, Nat.mul_assoc]; first | with_reducible assumption | decide | lia | omega
theorem escN_plain {c : Nat} (h : fJesc c = false) : ∀ d : Nat, escN d [c] = [c]
  | 0 => rfl
  | d + 1 => by
    show escN d (esc [c]) = _
    have : esc [c] = [c] := by show (if fJesc c then _ else _) = _; rw [h]; rfl
    rw [this, escN_plain h d]
theorem escN_bs : ∀ d n : Nat, escN d (List.replicate n 92) = List.replicate (2 ^ d * n) 92
  | 0, n => by show List.replicate n 92 = _; rw [Nat.pow_zero, Nat.one_mul]
  | d + 1, n => by
    show escN d (esc (List.replicate n 92)) = _
    have : ∀ n, esc (List.replicate n 92) = List.replicate (2 * n) 92 := by
      intro n
      induction n with
      | zero => rfl
      | succ n ih =>
        rw [List.replicate_succ, show 2 * (n + 1) = 2 * n + 1 + 1 by first | with_reducible assumption | decide | lia | omega, List.replicate_succ, List.replicate_succ, ← ih]; rfl
    rw [this, escN_bs d, Nat.pow_succ, Nat.mul_assoc]
theorem escN_mark : ∀ d : Nat, escN d [34] = List.replicate (2 ^ d - 1) 92 ++ [34]
  | 0 => rfl
  | d + 1 => by
    show escN d ([92] ++ [34]) = _
    rw [escN_app, escN_mark d]
    have := escN_bs d 1
    rw [show [92] = List.replicate 1 92 from rfl, this, ← List.append_assoc, List.replicate_append_replicate]
    have hp := Nat.two_pow_pos d
    rw [Nat.pow_succ, Nat.mul_one, show 2 ^ d + (2 ^ d - 1) = 2 ^ d * 2 - 1 by first | with_reducible assumption | decide | lia | omega]
theorem signT_eq (c d : Nat) : signT c d = escN d [c] := by
  unfold signT
  by_cases h : c = 34
  · subst h; rw [if_pos rfl, escN_mark]
  · rw [if_neg h]
    by_cases h2 : c = 92
    · subst h2; rw [if_pos rfl, show [92] = List.replicate 1 92 from rfl, escN_bs, Nat.mul_one]
    · rw [if_neg h2, escN_plain]
      unfold fJesc
      rw [beq_eq_false_iff_ne.mpr h, beq_eq_false_iff_ne.mpr h2]; rfl
/- the rows of words -/
noncomputable def rowsOf (b : Nat) : Fo Nat → List (Int × Nat)
  | .nil => []
  | .cons c k r => ((b : Int), c) :: (rowsOf (b + 1) k ++ rowsOf b r)
theorem rowsOf_len : ∀ (f : Fo Nat) (b : Nat), (rowsOf b f).length = f.nodes
  | .nil, _ => rfl
  | .cons c k r, b => by
    show (rowsOf (b + 1) k ++ rowsOf b r).length + 1 = _
    rw [List.length_append, rowsOf_len k, rowsOf_len r]; rfl
theorem rowsOf_deep : ∀ (f : Fo Nat) (b : Nat), ∀ r ∈ rowsOf b f, (b : Int) ≤ r.1
  | .nil, _, _, h => nomatch h
  | .cons c k r, b, x, h => by
    rcases List.mem_cons.mp h with rfl | h
    · exact Int.le_refl _
    · rcases List.mem_append.mp h with h | h
      · have := rowsOf_deep k (b + 1) x h; first | with_reducible assumption | decide | lia | omega
      · exact rowsOf_deep r b x h
/- the words' texts at a depth -/
noncomputable def partT (b c : Nat) (k : Fo Nat) : List Nat := escN b (c :: (if k.isNil then [] else 61 :: valT (R k)))
noncomputable def parts (b : Nat) : Fo Nat → List (List Nat)
  | .nil => []
  | .cons c k r => partT b c k :: parts b r
theorem parts_jn (b : Nat) : ∀ f : Fo Nat, jn [59, 32] (parts b f) = escN b (R f)
  | .nil => (escN_nil b).symm
  | .cons c k .nil => by
    show partT b c k = _
    unfold partT
    rw [R]
    congr 2
    exact (List.append_nil _).symm
  | .cons c k (.cons c2 k2 r2) => by
    have ih := parts_jn b (.cons c2 k2 r2)
    have e : jn [59, 32] (parts b (.cons c k (.cons c2 k2 r2))) = partT b c k ++ [59, 32] ++ jn [59, 32] (parts b (.cons c2 k2 r2)) := rfl
    rw [e, ih]
    have e2 : R (.cons c k (.cons c2 k2 r2)) = (c :: (if k.isNil then [] else 61 :: valT (R k))) ++ ([59] ++ ([32] ++ R (.cons c2 k2 r2))) := rfl
    rw [e2, escN_app, escN_app, escN_app, escN_plain (by decide), escN_plain (by decide)]
    unfold partT
    simp
/- a value stands without marks when it is one lone word of four signs -/
theorem valT_lone {k : Fo Nat} (hk : k.isNil = false) : (R k ≠ [] ∧ (R k).all fJtok = true) ↔ ∃ c, k = .cons c .nil .nil ∧ fJtok c = true := by
  cases k with
  | nil => cases hk
  | cons c k r =>
    constructor
    · rintro ⟨_, h⟩
      have h61 : fJtok 61 = false := by decide +kernel
      have h59 : fJtok 59 = false := by decide +kernel
      cases k with
      | cons a b d => simp [Rt_nil, Rt_cons, isNil_nil, isNil_cons, h61] at h
      | nil =>
        cases r with
        | cons a b d => simp [Rt_nil, Rt_cons, isNil_nil, isNil_cons, h59] at h
        | nil => exact ⟨c, rfl, by simpa [Rt_nil, Rt_cons, isNil_nil, isNil_cons] using h⟩
    · rintro ⟨c', e, h⟩
      cases e
      exact ⟨fun e => (nomatch e), by simpa [Rt_nil, Rt_cons, isNil_nil, isNil_cons] using h⟩
theorem partT_eq (b c : Nat) {k : Fo Nat} (hk : k.isNil = false) :
    ((∃ c', k = .cons c' .nil .nil ∧ fJtok c' = true) → partT b c k = signT c b ++ [61] ++ [] ++ escN (b + 1) (R k) ++ []) ∧
    ((¬ ∃ c', k = .cons c' .nil .nil ∧ fJtok c' = true) → partT b c k = signT c b ++ [61] ++ signT 34 b ++ escN (b + 1) (R k) ++ signT 34 b) := by
  have e0 : partT b c k = signT c b ++ [61] ++ escN b (valT (R k)) := by
    unfold partT
    rw [hk, if_neg Bool.false_ne_true, signT_eq, show c :: 61 :: valT (R k) = [c] ++ ([61] ++ valT (R k)) from rfl, escN_app, escN_app, escN_plain (c := 61) (by decide)]
    simp
  constructor
  · rintro ⟨c', rfl, h⟩
    have h1 : valT (R (.cons c' .nil .nil)) = R (.cons c' .nil .nil) := if_pos ((valT_lone hk).mpr ⟨c', rfl, h⟩)
    have h2 : R (.cons c' .nil .nil) = [c'] := rfl
    have h3 : fJesc c' = false := by
      unfold fJesc
      have := (jtok_val c' h).2
      have h92 : c' ≠ 92 := fun e => by rw [e] at h; exact absurd h (by decide +kernel)
      rw [beq_eq_false_iff_ne.mpr this, beq_eq_false_iff_ne.mpr h92]; rfl
    rw [e0, h1, h2, escN_plain h3, escN_plain h3]; simp
  · intro h
    have h1 : valT (R k) = 34 :: (esc (R k) ++ [34]) := if_neg fun q => h ((valT_lone hk).mp q)
    rw [e0, h1, show 34 :: (esc (R k) ++ [34]) = [34] ++ (esc (R k) ++ [34]) from rfl, escN_app, escN_app, signT_eq 34]
    show _ = _ ++ escN b (esc (R k)) ++ _
    simp
theorem in_four {c : Nat} (hc : okL c = true) : (!(Builtin.Str.occurrences (Str.ofString "aB~'") (T [c]) 0 (Str.ofString "aB~'").length 1).isEmpty) = fJtok c :=
  okL_all (P := fun c => (!(Builtin.Str.occurrences (Str.ofString "aB~'") (T [c]) 0 (Str.ofString "aB~'").length 1).isEmpty) = fJtok c) (by decide +kernel) hc
end Mine
end
section
open PySem PySem.W PyProof.Rows PySem.Calls
set_option autoImplicit false
set_option maxRecDepth 100000
namespace Mine
section
variable {prog : Program} {w : World} {A : Around} {E : Value → Shared → Prop} {h : Heap} {F : Fz} {M : List (Addr × Obj)} {L a l : Addr} {V : List (Str × Value)} {g : Array GenState} {d : Drawn} {tk : Nat} {os : OsState}
  {cn : Str} {cs : Scope} {cd : Value} {cl : List (Str × Addr)} {vs : List Value} {n : Nat}
theorem r_lmid {x : Str} {px p pos : Pos} {e1 e2 : Expr} {Q : Value → Shared → Prop} (S : Sf w h F M L V) (hv : V.lookup x = some (.ref l)) (hl : F l = some (lstObj vs n)) (hz : vs.length ≤ 2 ^ 20)
    (H : wpAny (model prog w) A (eval e1 (envX cn cs L a cd cl)) (fun v s₁ => wpAny (model prog w) A (eval e2 (envX cn cs L a cd cl)) (fun u s₂ => ∃ (i k : Nat) (t t' : Tok) (tk1 : Nat), v = .int i t ∧ u = .int k t' ∧ k ≤ vs.length ∧ s₂ = ⟨h, g, d, tk1, os⟩ ∧
      ∀ F' h' c, Le F F' → Sf w h' F' M L V → F' c = some (lstObj ((vs.drop i).take (k - i)) 0) → Q (.ref c) ⟨h', g, d, tk1, os⟩) E s₁) E ⟨h, g, d, tk, os⟩)
    (hk : cs.kind = .function := by rfl) (hln : (envX cn cs L a cd cl).kindOf x = some .local := by rfl) (hd : (x == ("__debug__" : Str)) = false := by decide) :
    wpAny (model prog w) A (eval (.Subscript (.Name x px) (.Slice (some e1) (some e2) none p) pos) (envX cn cs L a cd cl)) Q E ⟨h, g, d, tk, os⟩ := by
  refine r_sub ?_
  refine r_name S hv ?_ hk hln hd
  refine r_slice ?_
  refine wpAny_evalPart_some ?_
  refine wpAny_mono H (fun v s₁ h₁ => ?_) fun _ _ e => e
  refine wpAny_evalPart_some ?_
  refine wpAny_mono h₁ (fun u s₂ h₂ => ?_) fun _ _ e => e
  obtain ⟨i, k, t, t', tk1, rfl, rfl, hkl, rfl, q⟩ := h₂
  have S1 := S.push (o := { cls := .type "slice", data := .fields #[.int i t, .int k t', .none] }) rfl
  refine ⟨"list", _, ⟨_, S1.f hl, rfl⟩, PySem.F.slot_list_getitem.lookup, ?_⟩
  refine wpAny_getItem_list_slice (items := vs.toArray) (lo := some i) (hi := some k) (st := none) ⟨_, S1.f hl, rfl, n, rfl⟩ (Heap.IsSliceOf.new h _ _ _) (.int _ _) (.int _ _) .none (by decide) ?_ (by rw [List.size_toArray, sizeLine_eq]; first | with_reducible assumption | decide | lia | omega)
  have e : slicePick vs.toArray (some (i : Int)) (some (k : Int)) none = ((vs.drop i).take (k - i)).toArray := by
    rw [slicePick_plain]
    simp only [Option.elim, clipAt_nat, List.size_toArray]
    rw [Nat.min_eq_left hkl]
    rcases Nat.le_total i vs.length with hi | hi
    · rw [Nat.min_eq_left hi]
    · rw [Nat.min_eq_right hi, List.drop_of_length_le hi, List.drop_of_length_le (Nat.le_refl _)]; simp
  rw [e]
  have SLe := S1.pushF (o := lstObj ((vs.drop i).take (k - i)) 0) rfl
  have S2 := SLe.1
  have le := SLe.2
  clear SLe
  exact q _ _ _ le S2.tl (ins_self _ _ _)
theorem r_load {x : Str} {v : Value} {Q : Value → Shared → Prop} (S : Sf w h F M L V) (hv : V.lookup x = some v) (H : Q v ⟨h, g, d, tk, os⟩)
    (hk : cs.kind = .function := by rfl) (hl : (envX cn cs L a cd cl).kindOf x = some .local := by rfl) : wpAny (model prog w) A (loadName (envX cn cs L a cd cl) x) Q E ⟨h, g, d, tk, os⟩ :=
  let ⟨_, n, f⟩ := S.ns
  wpAny_loadName_local hk hl n (f _ _ hv) H
end
theorem xl_whileJ {M : Model} {A : Around} {E : Value → Shared → Prop} {s : Shared} {env : Env} {test : Expr} {body rest : List Stmt} {pos : Pos} {Q : Flow → Shared → Prop} (J : Shared → Prop)
    (H : codeAny M A (.whileLoop test body [] env) (fun r s' => match r with | .ok f => f = .next ∧ J s' | .error e => cameBackBy M A env E e s') s)
    (H2 : ∀ s, J s → wpAny M A (execs rest env) Q E s) : wpAny M A (execs (.While test body [] pos :: rest) env) Q E s := by
  refine xl_while (codeAny_mono H fun r s' h => ?_)
  cases r with
  | error e => exact h
  | ok f => obtain ⟨rfl, j⟩ := h; exact H2 s' j
section
variable {w : World}
theorem part_len (b c : Nat) (k : Fo Nat) (h : b ≤ 5) (hn : k.nodes ≤ 5) : (partT b c k).length ≤ 2 ^ 15 := by
  have h1 := escN_len b (c :: (if k.isNil then [] else 61 :: valT (R k)))
  have h2 := R_small (f := k) (by first | with_reducible assumption | decide | lia | omega)
  have h3 := valT_len (R k)
  have h4 : (c :: (if k.isNil then [] else 61 :: valT (R k))).length ≤ 2 ^ 10 := by
    split <;> simp only [List.length_cons, List.length_nil] <;> first | with_reducible assumption | decide | lia | omega
  have h5 : 2 ^ b ≤ 2 ^ 5 := Nat.pow_le_pow_right (by decide) h
  have h6 : 2 ^ b * (c :: (if k.isNil then [] else 61 :: valT (R k))).length ≤ 2 ^ 5 * 2 ^ 10 := Nat.mul_le_mul h5 h4
  unfold partT
  first | with_reducible assumption | decide | lia | omega
theorem parts_len (b : Nat) : ∀ f : Fo Nat, (parts b f).length = f.len
  | .nil => rfl
  | .cons c k r => by show (parts b r).length + 1 = _; rw [parts_len b r]; rfl
theorem parts_mem {b : Nat} (h : b ≤ 5) : ∀ {f : Fo Nat}, f.nodes ≤ 5 → ∀ t ∈ parts b f, t.length ≤ 2 ^ 15
  | .nil, _, t, ht => nomatch ht
  | .cons c k r, hn, t, ht => by
    simp only [nodes_nil, nodes_cons] at hn
    rcases List.mem_cons.mp ht with rfl | ht
    · exact part_len b c k h (by first | with_reducible assumption | decide | lia | omega)
    · exact parts_mem h (f := r) (by first | with_reducible assumption | decide | lia | omega) t ht
/- what the loop keeps -/
inductive WriO (F : Fz) (pl l : Addr) (M : List (Addr × Obj)) (f : Fo Nat) (b : Nat) (t : Tok) (m : Nat) (F' : Fz) (M' : List (Addr × Obj)) (V' : List (Str × Value)) : Prop
  | mk (h1_ : Le F F') (gg : Fo Nat) (pre : List (Int × Nat)) (ts : List (List Nat × Tok)) (n1 : Nat) (tk' : Tok) (h2_ : m = gg.nodes) (h3_ : gg.all okL = true) (h4_ : gg.len ≤ f.len) (h5_ : rowsOf b f = pre ++ rowsOf b gg) (h6_ : M' = (pl, lstObj (txs ts) n1) :: M) (h7_ : ts.map (·.1) ++ parts b gg = parts b f) (h8_ : Has V' "rows" (.ref l)) (h9_ : Has V' "deep" (.int b t)) (h10_ : Has V' "parts" (.ref pl)) (h11_ : Has V' "k" (.int (pre.length : Nat) tk')) : WriO F pl l M f b t m F' M' V'
/- what the loop keeps -/
inductive WriI (F' : Fz) (pl l : Addr) (ts : List (List Nat × Tok)) (n1 : Nat) (M : List (Addr × Obj)) (k : Fo Nat) (b : Nat) (t tkk : Tok) (pre : List (Int × Nat)) (m : Nat) (F2 : Fz) (M2 : List (Addr × Obj)) (V2 : List (Str × Value)) : Prop
  | mk (h1_ : F2 = F') (j : Nat) (tj : Tok) (h2_ : m + j = k.nodes) (h3_ : M2 = (pl, lstObj (txs ts) n1) :: M) (h4_ : Has V2 "rows" (.ref l)) (h5_ : Has V2 "deep" (.int b t)) (h6_ : Has V2 "parts" (.ref pl)) (h7_ : Has V2 "k" (.int (pre.length : Nat) tkk)) (h8_ : Has V2 "last" (.int ((pre.length + 1 + j : Nat) : Int) tj)) : WriI F' pl l ts n1 M k b t tkk pre m F2 M2 V2
set_option maxHeartbeats 4000000 in
theorem written_fn : ∀ (N : Nat) (f : Fo Nat) (b : Nat), f.nodes < N → b + N ≤ 6 → f.all okL = true → ∀ (F : Fz) (l : Addr) (vs : List Value) (n : Nat) (t : Tok), F l = some (lstObj vs n) → All2 (RowAt F) vs (rowsOf b f) →
    Fn w (.ref 136) [.ref l, .int b t] F (10 * N + 10) (60 * N + 60) (fun _ v => textOf v (escN b (R f))) := by
  intro N
  obtain ⟨o129, fd129, k129, f129⟩ : ∃ o fd, (KF w).lookup 129 = some o ∧ o.data = .func fd := ⟨_, _, by exact rfl, rfl⟩
  obtain ⟨o136, fd136, k136, f136⟩ : ∃ o fd, (KF w).lookup 136 = some o ∧ o.data = .func fd := ⟨_, _, by exact rfl, rfl⟩
  induction N with
  | zero => intro f b hn; exact absurd hn (Nat.not_lt_zero _)
  | succ N ih =>
  intro f b hn hb hok F l vs n t hl ha
  intro prog A M h g d tk os Q E C S H
  refine enter (D := 10 * N + 15) (U := 60 * N + 110) (binds := [("rows", .ref l), ("deep", .int b t)]) (C.mono) S (by exact rfl) (by exact rfl) (by exact rfl) (by exact rfl) ?_
  intro h1 tk1 L E' S1 C1
  have hvl : vs.length = f.nodes := by rw [ha.len, rowsOf_len]
  refine x_assign ?_
  refine r_list0 ?_
  have S2 := S1.push (o := lstObj [] 0) rfl
  refine r_store S2 fun h3 tk3 S3 => ?_
  generalize h1.objs.size = pl at S3
  clear S1 S2
  refine x_assign ?_
  refine r_int ?_
  refine r_store S3 fun h4 tk4 S4 => ?_
  clear S3
  refine xl_while ?_
  generalize A.deeper _ = A1 at C1 ⊢
  show codeAny _ _ _ _ ⟨_, g, d, _, os⟩
  refine loop_while (n := f.nodes) (WriO F pl l M f b t) ?_ S4 ⟨Le.refl _, f, [], [], 0, _, rfl, hok, Nat.le_refl _, rfl, rfl, rfl, by exact rfl, by exact rfl, by exact rfl, by exact rfl⟩
  clear S4
  rintro m F' M' V' h5 tk5 E5 P hP hB X hX ⟨le, gg, pre, ts, n1, tkk, rfl, gok, glen, hrows, rfl, hts, lr, ld, lp, lk⟩ S5
  have hrl := congrArg List.length hrows
  rw [List.length_append, rowsOf_len, rowsOf_len] at hrl
  have hfl := len_nodes f
  have htl : ts.length ≤ 5 := by
    have z := congrArg List.length hts
    rw [List.length_append, List.length_map, parts_len, parts_len] at z
    first | with_reducible assumption | decide | lia | omega
  refine wpAny_isTrue_Compare1 ?_
  refine r_name S5 lk ?_
  refine r_len S5 lr (S5.f (le _ _ hl)) (by first | with_reducible assumption | decide | lia | omega) fun t6 tk6 => ?_
  first | with_reducible refine PySem.P.lt_int ?_ | refine PySem.P.lt_int ?_
  refine truthy_b ?_
  cases gg with
  | nil =>
    refine on_f (by simp only [nodes_nil, nodes_cons] at hrl; simp; first | with_reducible assumption | decide | lia | omega) ?_
    refine hX ?_
    refine x_ret ?_
    with_reducible refine r_join (sp := [59, 32]) ?ja3 ?jH3 ?jb3 ?jc3 ?jd3 ?je3
    case ja3 | jb3 | jc3 | jd3 | je3 => rfl
    intro tk7
    refine r_name S5 lp ?_
    have hts : ts.map (·.1) = parts b f := by rw [← hts]; exact (List.append_nil _).symm
    have hsum := sum_len (2 ^ 15) (ts.map (·.1)) (by rw [hts]; exact parts_mem (by first | with_reducible assumption | decide | lia | omega) (by first | with_reducible assumption | decide | lia | omega))
    rw [List.map_map, List.length_map] at hsum
    refine wp_join (S5.m (.head _)) ?_ fun t' tk8 => ?_
    · have : ((ts.map (·.1.length)).sum) ≤ ts.length * 2 ^ 15 := hsum
      rw [sizeLine_eq]
      simp only [List.length_cons, List.length_nil]
      first | with_reducible assumption | decide | lia | omega
    rw [hts, parts_jn]
    exact H F' h5 _ _ le S5.st.tl ⟨t', rfl⟩
  | cons c k r =>
    simp only [nodes_nil, nodes_cons] at hrl
    first | refine on_t (by simp; first | with_reducible assumption | decide | lia | omega) ?_ | rw [if_pos (by simp; first | with_reducible assumption | decide | lia | omega)]
    have har := ha.up fun _ _ z => RowAt.up z le
    simp only [all_nil, all_cons, Bool.and_eq_true] at gok
    obtain ⟨⟨okc, okk⟩, okr⟩ := gok
    have row : ∀ j, (rowsOf b f)[pre.length + j]? = (rowsOf b (.cons c k r))[j]? := by
      intro j; rw [hrows, List.getElem?_append_right (by first | with_reducible assumption | decide | lia | omega), Nat.add_sub_cancel_left]
    have rowk : (rowsOf b f)[pre.length]? = some ((b : Int), c) := by have := row 0; rw [Nat.add_zero] at this; rw [this]; rfl
    have rowj : ∀ j, (rowsOf b f)[pre.length + (j + 1)]? = (rowsOf (b + 1) k ++ rowsOf b r)[j]? := by intro j; rw [row]; rfl
    refine x_assign ?_
    refine wpAny_BinOp ?_
    refine r_name S5 lk ?_
    refine r_int ?_
    first | with_reducible refine PySem.P.add_int ?_ | refine PySem.P.add_int ?_
    refine r_store S5 fun h6 tk7 S6 => ?_
    refine xl_whileJ (fun s => ∃ h7 tk8 V2 tj, s = ⟨h7, g, d, tk8, os⟩ ∧ Sf w h7 F' ((pl, lstObj (txs ts) n1) :: M) L V2 ∧ Has V2 "rows" (.ref l) ∧ Has V2 "deep" (.int b t) ∧ Has V2 "parts" (.ref pl) ∧ Has V2 "k" (.int (pre.length : Nat) tkk) ∧ Has V2 "last" (.int ((pre.length + 1 + k.nodes : Nat) : Int) tj)) ?_ ?_
    · show codeAny _ _ _ _ ⟨_, g, d, _, os⟩
      refine loop_while (n := k.nodes) (WriI F' pl l ts n1 M k b t tkk pre)
        ?_ S6 ⟨rfl, 0, _, rfl, rfl, by exact lr, by exact ld, by exact lp, by exact lk, by exact rfl⟩
      clear S5 S6 lr ld lp lk
      rintro m F2 M2 V2 h7 tk8 E7 P hP hB X hX ⟨rfl, j, tj, hmj, rfl, lr, ld, lp, lk, ll⟩ S7
      refine isTrue_and ?_
      refine wpAny_isTrue_Compare1 ?_
      refine r_name S7 ll ?_
      refine r_len S7 lr (S7.f (le _ _ hl)) (by first | with_reducible assumption | decide | lia | omega) fun t9 tk9 => ?_
      first | with_reducible refine PySem.P.lt_int ?_ | refine PySem.P.lt_int ?_
      refine truthy_b ?_
      by_cases hj : j < k.nodes
      · rw [if_pos (by simp; first | with_reducible assumption | decide | lia | omega)]
        obtain ⟨rw1, hrw⟩ : ∃ x, (rowsOf (b + 1) k)[j]? = some x := ⟨_, List.getElem?_eq_getElem (by rw [rowsOf_len]; exact hj)⟩
        have hdp := rowsOf_deep k (b + 1) rw1 (List.mem_of_getElem? hrw)
        refine isTrue_and ?_
        refine wpAny_isTrue_Compare1 ?_
        refine r_row S7 lr (le _ _ hl) har (.inl rfl) (by rw [rowsOf_len]; first | with_reducible assumption | decide | lia | omega) ?_
        refine r_name S7 ll ?_
        refine ⟨pre.length + 1 + j, _, _, rw1, rfl, rfl, ?_, fun t' tk2 => ?_⟩
        · rw [show pre.length + 1 + j = pre.length + (j + 1) by first | with_reducible assumption | decide | lia | omega, rowj, List.getElem?_append_left (by rw [rowsOf_len]; exact hj)]
          exact hrw
        first | with_reducible refine on_t rfl ?_ | refine on_t rfl ?_ | rw [if_pos rfl]
        refine r_name S7 ld ?_
        first | with_reducible refine PySem.P.gt_int ?_ | refine PySem.P.gt_int ?_
        refine truthy_b ?_
        first | refine on_t (by simp; first | with_reducible assumption | decide | lia | omega) ?_ | rw [if_pos (by simp; first | with_reducible assumption | decide | lia | omega)]
        refine isTrue_and_nil ?_
        first | with_reducible refine on_t rfl ?_ | refine on_t rfl ?_ | rw [if_pos rfl]
        refine x_aug ?_
        refine r_load S7 ll ?_
        refine r_int ?_
        first | with_reducible refine PySem.P.iadd_int ?_ | refine PySem.P.iadd_int ?_
        have e1 : ((pre.length + 1 + j : Nat) : Int) + 1 = ((pre.length + 1 + (j + 1) : Nat) : Int) := by first | with_reducible assumption | decide | lia | omega
        rw [e1]
        refine r_store S7 fun h8 tk10 S8 => ?_
        refine x_nil ?_
        exact hP ⟨m - 1, by first | with_reducible assumption | decide | lia | omega, .mk S8 ⟨rfl, j + 1, _, by first | with_reducible assumption | decide | lia | omega, rfl, by exact lr, by exact ld, by exact lp, by exact lk, by exact rfl⟩⟩
      · have hje : j = k.nodes := by first | with_reducible assumption | decide | lia | omega
        subst hje
        by_cases hr0 : r.nodes = 0
        · rw [if_neg (by simp; first | with_reducible assumption | decide | lia | omega), if_neg (by decide)]
          exact hX ⟨rfl, h7, _, V2, tj, rfl, S7, lr, ld, lp, lk, ll⟩
        · rw [if_pos (by simp; first | with_reducible assumption | decide | lia | omega)]
          obtain ⟨c2, k2, r2, rfl⟩ : ∃ c2 k2 r2, r = .cons c2 k2 r2 := by
            cases r with
            | nil => exact absurd rfl hr0
            | cons a b c => exact ⟨a, b, c, rfl⟩
          refine isTrue_and ?_
          refine wpAny_isTrue_Compare1 ?_
          refine r_row S7 lr (le _ _ hl) har (.inl rfl) (by rw [rowsOf_len]; first | with_reducible assumption | decide | lia | omega) ?_
          refine r_name S7 ll ?_
          refine ⟨pre.length + 1 + k.nodes, _, _, ((b : Int), c2), rfl, rfl, ?_, fun t' tk2 => ?_⟩
          · rw [show pre.length + 1 + k.nodes = pre.length + (k.nodes + 1) by first | with_reducible assumption | decide | lia | omega, rowj, List.getElem?_append_right (by rw [rowsOf_len]; exact Nat.le_refl _), rowsOf_len, Nat.sub_self]; rfl
          first | with_reducible refine on_t rfl ?_ | refine on_t rfl ?_ | rw [if_pos rfl]
          refine r_name S7 ld ?_
          first | with_reducible refine PySem.P.gt_int ?_ | refine PySem.P.gt_int ?_
          refine truthy_b ?_
          rw [if_neg (by simp), if_neg (by decide)]
          exact hX ⟨rfl, h7, _, V2, tj, rfl, S7, lr, ld, lp, lk, ll⟩
    · clear S5 S6 lr ld lp lk
      rintro s ⟨h7, tk8, V7, tj, rfl, S7, lr, ld, lp, lk, ll⟩
      refine x_assign ?_
      refine r_call ?_
      refine r_global S7 (by exact rfl) ?_
      refine r_cwF2 (o := o129) (fd := fd129) ?_
      refine r_row S7 lr (le _ _ hl) har (.inr rfl) (by rw [rowsOf_len]; first | with_reducible assumption | decide | lia | omega) ?_
      refine r_name S7 lk ?_
      refine ⟨pre.length, _, _, ((b : Int), c), rfl, rfl, rowk, fun t' tk2 => ?_⟩
      first | with_reducible refine on_f (by decide) ?_ | refine on_f (by decide) ?_ | rw [if_neg (by decide)]
      refine r_name S7 ld ?_
      refine ⟨⟨S7.f (S7.st.b.k _ _ k129), f129⟩, ?_⟩
      refine Fn.useT (sign_fn (by first | with_reducible assumption | decide | lia | omega)) C1.mono S7 ?_
      intro F8 h8 tk9 t8 le8 S8
      refine r_store S8 fun h9 tk10 S9 => ?_
      refine x_ifJ (fun s => ∃ F6 h6 tk6 V6 tp, s = ⟨h6, g, d, tk6, os⟩ ∧ Le F8 F6 ∧ Sf w h6 F6 ((pl, lstObj (txs ts) n1) :: M) L V6 ∧ Has V6 "part" (.str (T (partT b c k)) tp) ∧ Has V6 "rows" (.ref l) ∧ Has V6 "deep" (.int b t) ∧ Has V6 "parts" (.ref pl) ∧ Has V6 "last" (.int ((pre.length + 1 + k.nodes : Nat) : Int) tj)) ?_ ?_
      · intro PJ hJ
        refine wpAny_isTrue_Compare1 ?_
        refine r_name S9 (by exact ll) ?_
        refine wpAny_BinOp ?_
        refine r_name S9 (by exact lk) ?_
        refine r_int ?_
        first | with_reducible refine PySem.P.add_int ?_ | refine PySem.P.add_int ?_
        first | with_reducible refine PySem.P.gt_int ?_ | refine PySem.P.gt_int ?_
        refine truthy_b ?_
        by_cases hk0 : k.nodes = 0
        · have hkn : k = .nil := by
            cases k with
            | nil => rfl
            | cons a b c => simp [nodes_nil, nodes_cons] at hk0
          subst hkn
          first | refine on_f (by simp [nodes_nil, nodes_cons]) ?_ | rw [if_neg (by simp [nodes_nil, nodes_cons])]
          refine x_nil ⟨rfl, hJ ⟨F8, h9, _, _, t8, rfl, Le.refl _, S9, ?_, by exact lr, by exact ld, by exact lp, by exact ll⟩⟩
          have : partT b c .nil = signT c b := (signT_eq c b).symm
          rw [this]; exact rfl
        · rw [if_pos (by simp; first | with_reducible assumption | decide | lia | omega)]
          have hkz : k.isNil = false := by
            cases k with
            | nil => exact absurd rfl hk0
            | cons a b c => rfl
          refine x_assign ?_
          refine r_call ?_
          refine r_global S9 (by exact rfl) ?_
          refine r_cwF2 (o := o129) (fd := fd129) ?_
          refine r_str ?_
          refine r_name S9 (by exact ld) ?_
          refine ⟨⟨S9.f (S9.st.b.k _ _ k129), f129⟩, ?_⟩
          have e34 : Str.ofString "\"" = T [34] := rfl
          rw [e34]
          refine Fn.useT (sign_fn (by first | with_reducible assumption | decide | lia | omega)) C1.mono S9 ?_
          intro F10 h10 tk11 t10 le10 S10
          refine r_store S10 fun h11 tk12 S11 => ?_
          have SLe := partT_eq b c hkz
          have pe1 := SLe.1
          have pe2 := SLe.2
          clear SLe
          refine x_ifJ (fun s => ∃ h6 tk6 V6 tp mk tm, s = ⟨h6, g, d, tk6, os⟩ ∧ Sf w h6 F10 ((pl, lstObj (txs ts) n1) :: M) L V6 ∧ partT b c k = signT c b ++ [61] ++ mk ++ escN (b + 1) (R k) ++ mk ∧ Has V6 "mark" (.str (T mk) tm) ∧ Has V6 "part" (.str (T (signT c b)) tp) ∧ Has V6 "rows" (.ref l) ∧ Has V6 "deep" (.int b t) ∧ Has V6 "parts" (.ref pl) ∧ Has V6 "last" (.int ((pre.length + 1 + k.nodes : Nat) : Int) tj) ∧ Has V6 "k" (.int (pre.length : Nat) tkk)) ?_ ?_
          · intro PJ hJ
            refine isTrue_and ?_
            refine wpAny_isTrue_Compare1 ?_
            refine r_name S11 (by exact ll) ?_
            refine wpAny_BinOp ?_
            refine r_name S11 (by exact lk) ?_
            refine r_int ?_
            first | with_reducible refine PySem.P.add_int ?_ | refine PySem.P.add_int ?_
            first | with_reducible refine PySem.P.eq_int ?_ | refine PySem.P.eq_int ?_
            refine truthy_b ?_
            by_cases h1 : k.nodes = 1
            · obtain ⟨c', rfl⟩ : ∃ c', k = .cons c' .nil .nil := by
                cases k with
                | nil => cases h1
                | cons a k1 r1 =>
                  simp only [nodes_nil, nodes_cons] at h1
                  cases k1 with
                  | cons a b c => simp only [nodes_nil, nodes_cons] at h1; first | with_reducible assumption | decide | lia | omega
                  | nil =>
                    cases r1 with
                    | cons a b c => simp only [nodes_nil, nodes_cons] at h1; first | with_reducible assumption | decide | lia | omega
                    | nil => exact ⟨a, rfl⟩
              first | refine on_t (by simp [nodes_nil, nodes_cons]; first | with_reducible assumption | decide | lia | omega) ?_ | rw [if_pos (by simp [nodes_nil, nodes_cons]; first | with_reducible assumption | decide | lia | omega)]
              have okc' : okL c' = true := by simp only [all_nil, all_cons, Bool.and_eq_true] at okk; exact okk.1.1
              refine isTrue_and ?_
              refine wpAny_isTrue_Compare1 ?_
              refine r_row S11 (by exact lr) ((le.trans (le8.trans le10)) _ _ hl) (ha.up fun _ _ z => RowAt.up z (le.trans (le8.trans le10))) (.inr rfl) (by rw [rowsOf_len]; first | with_reducible assumption | decide | lia | omega) ?_
              refine wpAny_BinOp ?_
              refine r_name S11 (by exact lk) ?_
              refine r_int ?_
              first | with_reducible refine PySem.P.add_int ?_ | refine PySem.P.add_int ?_
              refine ⟨pre.length + 1, _, _, ((b : Int) + 1, c'), rfl, rfl, by have := rowj 0; rw [Nat.zero_add] at this; rw [this]; rfl, fun t' tk2 => ?_⟩
              first | with_reducible refine on_f (by decide) ?_ | refine on_f (by decide) ?_ | rw [if_neg (by decide)]
              refine r_str ?_
              first | with_reducible refine PySem.P.in_str ?_ | refine PySem.P.in_str ?_
              rw [in_four okc']
              refine truthy_b ?_
              by_cases hj : fJtok c' = true
              · rw [if_pos hj]
                refine isTrue_and_nil ?_
                first | with_reducible refine on_t rfl ?_ | refine on_t rfl ?_ | rw [if_pos rfl]
                refine x_assign ?_
                refine r_str ?_
                refine r_store S11 fun h12 tk13 S12 => ?_
                exact x_nil ⟨rfl, hJ ⟨h12, _, _, _, [], _, rfl, S12, pe1 ⟨c', rfl, hj⟩, by exact rfl, by exact rfl, by exact lr, by exact ld, by exact lp, by exact ll, by exact lk⟩⟩
              · rw [if_neg hj, if_neg (by decide)]
                refine x_nil ⟨rfl, hJ ⟨h11, _, _, _, signT 34 b, _, rfl, S11, pe2 ?_, by exact rfl, by exact rfl, by exact lr, by exact ld, by exact lp, by exact ll, by exact lk⟩⟩
                rintro ⟨c2, e, h⟩
                cases e
                exact hj h
            · rw [if_neg (by simp; first | with_reducible assumption | decide | lia | omega), if_neg (by decide)]
              refine x_nil ⟨rfl, hJ ⟨h11, _, _, _, signT 34 b, _, rfl, S11, pe2 ?_, by exact rfl, by exact rfl, by exact lr, by exact ld, by exact lp, by exact ll, by exact lk⟩⟩
              rintro ⟨c2, rfl, h⟩
              exact h1 rfl
          · clear S9 S10 S11 lr ld lp lk ll
            rintro s ⟨h11, tk13, V11, tp, mk, tm, rfl, S11, hpe, lm, lq, lr, ld, lp, ll, lk⟩
            have hpl := part_len b c k (by first | with_reducible assumption | decide | lia | omega) (by first | with_reducible assumption | decide | lia | omega)
            rw [hpe] at hpl
            simp only [List.length_append, List.length_singleton] at hpl
            have leA := le.trans (le8.trans le10)
            refine x_assign ?_
            refine wpAny_BinOp ?_
            refine wpAny_BinOp ?_
            refine wpAny_BinOp ?_
            refine wpAny_BinOp ?_
            refine r_name S11 lq ?_
            refine r_str ?_
            have e61 : Str.ofString "=" = T [61] := rfl
            rw [e61]
            with_reducible refine r_addS ?_ fun t12 tk14 => ?_
            · rw [sizeLine_eq, List.length_singleton]; first | with_reducible assumption | decide | lia | omega
            refine r_name S11 lm ?_
            with_reducible refine r_addS ?_ fun t13 tk15 => ?_
            · rw [sizeLine_eq, List.length_append, List.length_singleton]; first | with_reducible assumption | decide | lia | omega
            refine r_call ?_
            refine r_global S11 (by exact rfl) ?_
            refine r_cwF2 (o := o136) (fd := fd136) ?_
            refine r_lmid S11 lr (leA _ _ hl) (by first | with_reducible assumption | decide | lia | omega) ?_
            refine wpAny_BinOp ?_
            refine r_name S11 lk ?_
            refine r_int ?_
            first | with_reducible refine PySem.P.add_int ?_ | refine PySem.P.add_int ?_
            refine r_name S11 ll ?_
            refine ⟨pre.length + 1, pre.length + 1 + k.nodes, _, _, _, rfl, rfl, by first | with_reducible assumption | decide | lia | omega, rfl, fun F14 h14 c4 le14 S14 o4 => ?_⟩
            refine wpAny_BinOp ?_
            refine r_name S14 ld ?_
            refine r_int ?_
            first | with_reducible refine PySem.P.add_int ?_ | refine PySem.P.add_int ?_
            have e1 : (b : Int) + 1 = ((b + 1 : Nat) : Int) := by first | with_reducible assumption | decide | lia | omega
            rw [e1]
            refine ⟨⟨S14.f (S14.st.b.k _ _ k136), f136⟩, ?_⟩
            have hsl : All2 (RowAt F14) ((vs.drop (pre.length + 1)).take (pre.length + 1 + k.nodes - (pre.length + 1))) (rowsOf (b + 1) k) := by
              have z := ((ha.drop (pre.length + 1)).take (pre.length + 1 + k.nodes - (pre.length + 1))).up fun _ _ z => RowAt.up z (leA.trans le14)
              have e3 : ((rowsOf b f).drop (pre.length + 1)).take (pre.length + 1 + k.nodes - (pre.length + 1)) = rowsOf (b + 1) k := by
                rw [hrows, List.drop_append, List.drop_of_length_le (by first | with_reducible assumption | decide | lia | omega), Nat.add_sub_cancel_left, List.nil_append, Nat.add_sub_cancel_left]
                show (rowsOf (b + 1) k ++ rowsOf b r).take k.nodes = _
                rw [← rowsOf_len k (b + 1), List.take_left]
              rw [e3] at z
              exact z
            refine Fn.useT (ih k (b + 1) (by first | with_reducible assumption | decide | lia | omega) (by first | with_reducible assumption | decide | lia | omega) okk F14 c4 _ 0 _ o4 hsl) C1.mono S14 ?_
            intro F15 h15 tk16 t15 le15 S15
            with_reducible refine r_addS ?_ fun t16 tk17 => ?_
            · rw [sizeLine_eq]; simp only [List.length_append, List.length_singleton]; first | with_reducible assumption | decide | lia | omega
            refine r_name S15 lm ?_
            with_reducible refine r_addS ?_ fun t17 tk18 => ?_
            · rw [sizeLine_eq]; simp only [List.length_append, List.length_singleton]; first | with_reducible assumption | decide | lia | omega
            rw [← hpe]
            refine r_store S15 fun h16 tk19 S16 => ?_
            exact x_nil ⟨rfl, hJ ⟨F15, h16, _, _, t17, rfl, le10.trans (le14.trans le15), S16, by exact rfl, by exact lr, by exact ld, by exact lp, by exact ll⟩⟩
      · clear S7 S8 S9 lr ld lp lk ll
        rintro s ⟨F9, h9, tk11, V9, tp, rfl, le9, S9, lq, lr, ld, lp, ll⟩
        refine x_expr ?_
        refine r_meth (v := .ref pl) S9 (by exact lp) ⟨_, S9.m (.head _), rfl⟩ (fun b hb => by cases hb; exact ⟨_, S9.m (.head _), rfl⟩) PySem.F.plainAttrs_list PySem.F.slot_list_append PySem.F.type_list_append ?_
        refine r_cwB1 ?_
        refine r_name S9 lq ?_
        refine wp_append (M1 := []) S9 (by rw [List.length_map, sizeLine_eq]; first | with_reducible assumption | decide | lia | omega) fun h12 n12 S12 => ?_
        refine x_assign ?_
        refine r_name S12 ll ?_
        refine r_store S12 fun h13 tk13 S13 => ?_
        refine x_nil ?_
        refine hP ⟨r.nodes, by simp only [nodes_nil, nodes_cons]; first | with_reducible assumption | decide | lia | omega, .mk S13 ⟨le.trans (le8.trans le9), r, pre ++ ((b : Int), c) :: rowsOf (b + 1) k, ts ++ [(partT b c k, tp)], n12, tj, rfl, okr, ?_, ?_, ?_, ?_, by exact lr, by exact ld, by exact lp, ?_⟩⟩
        · have : (Fo.cons c k r).len = r.len + 1 := rfl
          first | with_reducible assumption | decide | lia | omega
        · rw [hrows, List.append_assoc]; rfl
        · rw [txs_snoc]; rfl
        · rw [List.map_append, ← hts, List.append_assoc]; rfl
        · have : (pre ++ ((b : Int), c) :: rowsOf (b + 1) k).length = pre.length + 1 + k.nodes := by
            rw [List.length_append, List.length_cons, rowsOf_len]; first | with_reducible assumption | decide | lia | omega
          rw [this]; exact rfl
end
end Mine
end
section
open PySem PySem.W PyProof.Rows PySem.Calls
set_option autoImplicit false
set_option maxRecDepth 100000
namespace Mine
section
variable {w : World} {h h' : Heap} {F : Fz} {M M' M1 M2 : List (Addr × Obj)} {a L K : Addr} {o oK : Obj} {V : List (Str × Value)}
theorem St.newN (S : St w h F M) (k : ∀ b o, h.get? b = some o → h'.get? b = some o) (hn : h.get? a = none) (ho : h'.get? a = some o) : St w h' F ((a, o) :: M) := by
  have n1 : F a = none := by
    cases q : F a with
    | none => rfl
    | some o => rw [S.f _ _ q] at hn; cases hn
  have n2 : ∀ p ∈ M, p.1 ≠ a := fun p hp e => by have := S.m p hp; rw [e, hn] at this; cases this
  have n3 : a ≠ 79 := by rintro rfl; obtain ⟨ps, e, _⟩ := S.t3.1; rw [hn] at e; cases e
  have n4 : a ≠ 96 := by rintro rfl; obtain ⟨ps, e, _⟩ := S.t3.2; rw [hn] at e; cases e
  have S' := S.ext k
  refine ⟨S'.b, S'.f, fun p hp => ?_, ?_, fun p hp => ?_, S'.t1, fun p hp => ?_, S'.t3⟩
  · rcases List.mem_cons.mp hp with rfl | hp
    · exact ho
    · exact S'.m p hp
  · rw [List.map_cons, List.nodup_cons]
    refine ⟨fun hm => ?_, S'.nd⟩
    obtain ⟨p, hp, e⟩ := List.mem_map.mp hm
    exact n2 p hp e
  · rcases List.mem_cons.mp hp with rfl | hp
    · exact n1
    · exact S'.fm p hp
  · rcases List.mem_cons.mp hp with rfl | hp
    · exact ⟨n3, n4⟩
    · exact S'.t2 p hp
theorem St.remap {l : List Addr} (S : St w h F M) (ea : M'.map (·.1) = M.map (·.1)) (hm : ∀ p ∈ M', h'.get? p.1 = some p.2) (hl : ∀ b ∈ l, b ∈ M.map (·.1)) (k : ∀ b o, b ∉ l → h.get? b = some o → h'.get? b = some o) : St w h' F M' := by
  have mem : ∀ {b}, b ∈ M.map (·.1) → F b = none ∧ b ≠ 79 ∧ b ≠ 96 := by
    intro b hb
    obtain ⟨p, hp, rfl⟩ := List.mem_map.mp hb
    exact ⟨S.fm p hp, S.t2 p hp⟩
  refine ⟨S.b, fun b o e => k b o (fun q => ?_) (S.f _ _ e), hm, by rw [ea]; exact S.nd, fun p hp => ?_, S.t1, fun p hp => ?_, ?_, ?_⟩
  · rw [(mem (hl b q)).1] at e; cases e
  · exact (mem (ea ▸ List.mem_map_of_mem hp)).1
  · exact (mem (ea ▸ List.mem_map_of_mem hp)).2
  · exact S.t3.1.up (fun o e => k _ _ (fun q => (mem (hl _ q)).2.1 rfl) e) (Le.refl _)
  · exact S.t3.2.up (fun o e => k _ _ (fun q => (mem (hl _ q)).2.2 rfl) e) (Le.refl _)
/- an exception new -/
noncomputable def Raised (w : World) (h : Heap) (F : Fz) (M : List (Addr × Obj)) (L : Addr) (V : List (Str × Value)) (e : Addr) (X : String) : Prop :=
  ∃ oe t, Sf w h F ((e, oe) :: M) L V ∧ oe.cls = .type X ∧ oe.data = .fields #[t, .none, .none, .none, .bool false, .none]
/- .. under way -/
noncomputable def Fly (w : World) (h : Heap) (F : Fz) (M : List (Addr × Obj)) (L : Addr) (V : List (Str × Value)) (e : Addr) (X : String) (fl : Value) : Prop :=
  ∃ T oe oT vs ts, Sf w h F ((e, oe) :: (T, oT) :: M) L V ∧ oe.cls = .type X ∧ oe.data = .fields vs ∧ vs[1]? = some (.ref T) ∧ oT.data = .fields ts ∧ ts[3]? = some fl
theorem raised_of {e : Addr} {X : String} (S : Sf w h F M L V) (N : Heap.NewExc h h' e X) : Raised w h' F M L V e X := by
  obtain ⟨oL, s, n⟩ := S
  obtain ⟨ob, t, h1, h2, h3⟩ := N.there
  exact ⟨ob, t, ⟨oL, (s.newN N.keeps N.new h1).perm (.swap _ _ _), n⟩, h2, h3⟩
theorem Fly.sf {e : Addr} {X : String} {fl : Value} (H : Fly w h F M L V e X fl) : Sf w h F M L V := by
  obtain ⟨_, _, _, _, _, S, _⟩ := H
  exact S.tl.tl
theorem empty_get (b : Addr) : (default : Heap).get? b = none := rfl
end
section
variable {N : Model} {w : World} {A : Around} {E : Value → Shared → Prop} {h : Heap} {F : Fz} {M M1 M2 : List (Addr × Obj)} {L K a e : Addr} {V : List (Str × Value)} {g : Array GenState} {d : Drawn} {tk : Nat} {os : OsState}
  {cn : Str} {cs : Scope} {cd : Value} {cl : List (Str × Addr)} {oK : Obj} {X : String} {envK : Env}
theorem note_new {Q : Unit → Shared → Prop} (hfr : A.frames = some [envX cn cs L a cd cl, envK]) (hk : cs.kind = .function) (hK : envK.frame = some K) (hkK : envK.scope.kind ≠ .module) (hdK : ∀ vs, oK.data ≠ .fields vs)
    (R : Raised w h F (M1 ++ (K, oK) :: M2) L V e X) (H : ∀ h' sl, Fly w h' F (M1 ++ (K, { oK with slots := sl }) :: M2) L V e X (rawInt L) → Q () ⟨h', g, d, tk, os⟩) :
    wpAny N A (noteFrame (.ref e) (envX cn cs L a cd cl)) Q E ⟨h, g, d, tk, os⟩ := by
  obtain ⟨oe, t, ⟨oL, S, n⟩, hc, hd⟩ := R
  have mL := S.m (L, oL) (.head _)
  have me := S.m (e, oe) (.tail _ (.head _))
  have mK := S.m (K, oK) (.tail _ (.tail _ (List.mem_append_right _ (.head _))))
  have nd := S.nd
  obtain ⟨es, ep, n1, n2, n3⟩ := n
  have hLe : L ≠ e := fun q => by
    rw [List.map_cons, List.nodup_cons] at nd
    exact nd.1 (q ▸ .head _)
  unfold noteFrame
  simp only [show (envX cn cs L a cd cl).frame = some L from rfl]
  refine wpAny_bind (wpAny_field me hd (x := .none) rfl ?_)
  rw [if_neg (by decide)]
  have hff : h.FunFrames (default : Heap) [envX cn cs L a cd cl, envK] := by
    refine ⟨by show cs.kind ≠ .module; rw [hk]; decide, ⟨L, oL, rfl, empty_get _, mL, fun vs q => by rw [n1] at q; cases q⟩, hkK, ⟨K, oK, hK, empty_get _, mK, hdK⟩, trivial⟩
  refine wpAny_bind (wpAny_frameOf_fun hfr hff rfl fun h₁ hs₁ => ?_)
  have hll : ([envX cn cs L a cd cl, envK].filterMap (·.frame)) = [L, K] := by
    rw [List.filterMap_cons, List.filterMap_cons, hK]; rfl
  rw [hll] at hs₁
  refine wpAny_bind (wpAny_entryPlaceOf fun pl hpl => ?_)
  unfold EntryCells.newEntry newFields
  refine wpAny_bind (wpAny_newObj_type ?_ (hpl.sizeOk5 _ _ _ _ _))
  obtain ⟨slL, hL1⟩ := hs₁.2.2 L oL mL
  obtain ⟨slK, hK1⟩ := hs₁.2.2 K oK mK
  have S1 : St w h₁ F ((L, { oL with slots := slL }) :: (e, oe) :: (M1 ++ (K, { oK with slots := slK }) :: M2)) := by
    have ndK : ∀ p ∈ (e, oe) :: (M1 ++ M2), p.1 ≠ L ∧ p.1 ≠ K := by
      intro p hp
      simp only [List.map_cons, List.map_append, List.nodup_cons, List.nodup_append, List.mem_append, List.mem_cons, List.mem_map] at nd
      obtain ⟨nd1, nd2, nd3, nd4, nd5⟩ := nd
      rcases List.mem_cons.mp hp with rfl | hp
      · exact ⟨fun q => hLe q.symm, fun q => nd2 (.inr (.inl q))⟩
      · rcases List.mem_append.mp hp with hp | hp
        · exact ⟨fun q => nd1 (.inr (.inl ⟨p, hp, q⟩)), fun q => nd5 p.1 ⟨p, hp, rfl⟩ K (.inl rfl) q⟩
        · exact ⟨fun q => nd1 (.inr (.inr (.inr ⟨p, hp, q⟩))), fun q => nd4.1 ⟨p, hp, q⟩⟩
    refine S.remap (l := [L, K]) (by simp) ?_ ?_ (fun b o hb ho => (hs₁.2.1 b hb).trans ho)
    · intro p hp
      have un : p ∈ (e, oe) :: (M1 ++ M2) → p ∈ (L, oL) :: (e, oe) :: (M1 ++ (K, oK) :: M2) → h₁.get? p.1 = some p.2 := fun hp hp' => by
        have := ndK p hp
        rw [hs₁.2.1 p.1 (by simp [this.1, this.2])]
        exact S.m p hp'
      rcases List.mem_cons.mp hp with rfl | hp
      · exact hL1
      · rcases List.mem_cons.mp hp with rfl | hp
        · exact un (.head _) (.tail _ (.head _))
        · rcases List.mem_append.mp hp with hp | hp
          · exact un (.tail _ (List.mem_append_left _ hp)) (.tail _ (.tail _ (List.mem_append_left _ hp)))
          · rcases List.mem_cons.mp hp with rfl | hp
            · exact hK1
            · exact un (.tail _ (List.mem_append_right _ hp)) (.tail _ (.tail _ (List.mem_append_right _ (.tail _ hp))))
    · intro b hb
      rcases List.mem_cons.mp hb with rfl | hb
      · simp
      · rw [List.mem_singleton] at hb; subst hb; simp
  have S2 := S1.push (o := { cls := .type "traceback", dict := none, data := .fields ([Value.none, .ref L, .none, rawInt L, .none] ++ (if pl.isEmpty then List.replicate 6 Value.none else pl)).toArray }) rfl
  have me2 := S2.m (e, oe) (.tail _ (.tail _ (.head _)))
  refine wpAny_setField me2 hd (by simp) ?_
  have hd3 := Obj.data_mapFields hd (·.setIfInBounds 1 (Value.ref h₁.objs.size))
  have S3 := St.upd (M1 := [_, _]) S2 (Heap.SameBut.update ..).extBut (Heap.get?_update_self (Obj.mapFields (·.setIfInBounds 1 (Value.ref h₁.objs.size))) me2 (Obj.isFreed_of_fields hd3))
  refine H _ slK ⟨h₁.objs.size, _, { cls := .type "traceback", dict := none, data := .fields ([Value.none, .ref L, .none, rawInt L, .none] ++ (if pl.isEmpty then List.replicate 6 Value.none else pl)).toArray }, _, ([Value.none, .ref L, .none, rawInt L, .none] ++ (if pl.isEmpty then List.replicate 6 Value.none else pl)).toArray, ⟨{ oL with slots := slL }, ?_, es, ep, n1, n2, n3⟩, (Obj.cls_mapFields ..).trans hc, hd3, by simp, rfl, by simp⟩
  refine S3.perm ?_
  refine (List.Perm.swap _ _ _).trans ?_
  exact (List.Perm.swap _ _ _).cons _
theorem Fly.fields {fl : Value} (H : Fly w h F M L V e X fl) : ∃ oe vs T oT ts, h.get? e = some oe ∧ oe.cls = .type X ∧ oe.data = .fields vs ∧ vs[1]? = some (.ref T) ∧ h.get? T = some oT ∧ oT.data = .fields ts ∧ ts[3]? = some fl := by
  obtain ⟨T, oe, oT, vs, ts, S, h1, h2, h3, h4, h5⟩ := H
  exact ⟨oe, vs, T, oT, ts, S.m (.head _), h1, h2, h3, S.m (.tail _ (.head _)), h4, h5⟩
theorem note_again {Q : Unit → Shared → Prop} (H : Fly w h F M L V e X (rawInt L)) (q : Q () ⟨h, g, d, tk, os⟩) : wpAny N A (noteFrame (.ref e) (envX cn cs L a cd cl)) Q E ⟨h, g, d, tk, os⟩ := by
  obtain ⟨oe, vs, T, oT, ts, h1, h2, h3, h4, h5, h6, h7⟩ := H.fields
  exact wpAny_noteFrame_inFlight (L := L) rfl h1 h3 h4 h5 h6 h7 q
theorem set_flight {fl : Value} {x : Option Addr} {Q : Unit → Shared → Prop} (H : Fly w h F M L V e X fl) (q : ∀ h', Fly w h' F M L V e X (x.elim .none fun f => rawInt f) → Q () ⟨h', g, d, tk, os⟩) : wpAny N A (setFlight (.ref e) x) Q E ⟨h, g, d, tk, os⟩ := by
  obtain ⟨T, oe, oT, vs, ts, S, h1, h2, h3, h4, h5⟩ := H
  have me := S.m (.head _)
  have mT := S.m (.tail _ (.head _))
  have hsz : 3 < ts.size := (Array.getElem?_eq_some_iff.mp h5).1
  unfold setFlight
  refine wpAny_bind (wpAny_field me h2 h3 ?_)
  rw [if_pos (show (Value.ref T != Value.none) = true from by simp)]
  refine wpAny_setField mT h4 hsz ?_
  have hd3 := Obj.data_mapFields h4 (·.setIfInBounds 3 (x.elim Value.none fun f => rawInt f))
  have S3 := Sf.upd (M1 := [(e, oe)]) S (Heap.SameBut.update ..).extBut (Heap.get?_update_self (Obj.mapFields (·.setIfInBounds 3 (x.elim Value.none fun f => rawInt f))) mT (Obj.isFreed_of_fields hd3))
  exact q _ ⟨T, _, _, vs, _, S3, h1, h2, h3, hd3, by simp [hsz]⟩
/- an exception that comes out of a loop -/
theorem came_back {Q : Value → Shared → Prop} {fl : Value} (H : Fly w h F M L V e X fl) (q : ∀ h', Fly w h' F M L V e X (rawInt L) → Q (.ref e) ⟨h', g, d, tk, os⟩) : cameBackBy N A (envX cn cs L a cd cl) Q (.ref e) ⟨h, g, d, tk, os⟩ := by
  obtain ⟨oe, vs, T, oT, ts, h1, h2, h3, h4, h5, h6, h7⟩ := H.fields
  unfold cameBackBy
  refine wpAny_bind (wpAny_field h1 h3 h4 ?_)
  refine wpAny_ite_false (by simp) ?_
  exact set_flight H fun h' H' => q h' H'
theorem pass_on {α : Type} {Q : α → Shared → Prop} {fl : Value} {wh : String} (H : Fly w h F M L V e X fl) (q : ∀ h', Fly w h' F M L V e X (rawInt L) → E (.ref e) ⟨h', g, d, tk, os⟩) : wpAny N A (PySem.passOn wh (.ref e) (envX cn cs L a cd cl)) Q E ⟨h, g, d, tk, os⟩ := by
  obtain ⟨oe, vs, T, oT, ts, h1, h2, h3, h4, h5, h6, h7⟩ := H.fields
  unfold PySem.passOn
  refine wpAny_bind (wpAny_field h1 h3 h4 ?_)
  refine wpAny_ite_false (by simp) ?_
  exact wpAny_bind (set_flight H fun h' H' => wpAny_throw (q h' H'))
end
section
variable {prog : Program} {w : World} {A : Around} {E : Value → Shared → Prop} {h : Heap} {F : Fz} {M : List (Addr × Obj)} {L a e : Addr} {V : List (Str × Value)} {g : Array GenState} {d : Drawn} {tk : Nat} {os : OsState}
  {cn : Str} {cs : Scope} {cd : Value} {cl : List (Str × Addr)} {X : String}
/- the handler that bears the exception's name -/
theorem handle {x : Str} {p pos : Pos} {b₀ : Stmt} {suite : List Stmt} {rest : List ExceptHandler} {fl : Value} {Q : Flow → Shared → Prop} (H : Fly w h F M L V e X fl)
    (he : nsIn (KF w) mainGlobals x = some none) (hv : bootBuiltins x = some (.type X)) (hn : x ≠ "__name__")
    (hexc : isSubtype (.type X) (.type "BaseException") = pure true) (hnt : isSubtype (.type ((Manifest.find? X).elim "type" fun x => x.metatype)) (.type "tuple") = pure false) (hsub : isSubtype (.type X) (.type X) = pure true)
    (q : ∀ h' E', Sf w h' F M L V → wpAny (model prog w) (A.mark (some (.ref e))) (execs (b₀ :: suite) (envX cn cs L a cd cl)) Q E' ⟨h', g, d, tk, os⟩)
    (hk : cs.kind = .function := by rfl) (hl : (envX cn cs L a cd cl).kindOf x = some .globalImplicit := by rfl) (hd : (x == ("__debug__" : Str)) = false := by decide) :
    wpAny (model prog w) A (handleBy (.ref e) (envX cn cs L a cd cl) (.ExceptHandler (some (.Name x p)) none (b₀ :: suite) pos :: rest)) Q E ⟨h, g, d, tk, os⟩ := by
  refine wpAny_handleBy_builtin (X := X) (T := X) (b := true) hexc hnt hsub ?_
  refine r_builtin H.sf he hv hn ?_ hk hl hd
  obtain ⟨oe, vs, T, oT, ts, h1, h2, h3, h4, h5, h6, h7⟩ := H.fields
  refine ⟨rfl, ⟨oe, h1, h2⟩, ?_⟩
  rw [if_pos rfl]
  exact set_flight H fun h' H' => q h' _ H'.sf
end
end Mine
end
section
open PySem PySem.W PyProof.Rows PySem.Calls
set_option autoImplicit false
set_option maxRecDepth 100000
namespace Mine
/- what is taken away one by one -/
inductive Uld : List (List Nat) → List (List Nat) → List (List Nat) → List (List Nat) → Prop
  | nil {ys : List (List Nat)} : Uld [] ys [] ys
  | hit {x : List Nat} {xs a b ms zs : List (List Nat)} : x ∉ a → Uld xs (a ++ b) ms zs → Uld (x :: xs) (a ++ x :: b) ms zs
  | miss {x : List Nat} {xs ys ms zs : List (List Nat)} : x ∉ ys → Uld xs ys ms zs → Uld (x :: xs) ys (x :: ms) zs
noncomputable def eqV (x : List Nat) : Value → Bool
  | .str s _ => s.cps.toList == x
  | _ => false
theorem map_seq (vs : List Value) (n : Nat) (f : List Value → List Value) (fa : Array Value → Array Value) (hf : fa vs.toArray = (f vs).toArray) : ∃ n', Obj.mapSeq fa (lstObj vs n) = lstObj (f vs) n' := by
  unfold Obj.mapSeq lstObj
  dsimp only
  rw [hf]
  exact ⟨_, rfl⟩
section
variable {prog : Program} {w : World} {A : Around} {E : Value → Shared → Prop} {h : Heap} {F : Fz} {M M1 M2 : List (Addr × Obj)} {L a l : Addr} {V : List (Str × Value)} {g : Array GenState} {d : Drawn} {tk : Nat} {os : OsState}
  {vs : List Value} {n : Nat}
theorem upd_seq (f : List Value → List Value) (fa : Array Value → Array Value) (hf : fa vs.toArray = (f vs).toArray) (S : Sf w h F (M1 ++ (l, lstObj vs n) :: M2) L V) :
    ∃ n', Sf w (h.update l (Obj.mapSeq fa)) F (M1 ++ (l, lstObj (f vs) n') :: M2) L V := by
  obtain ⟨n', e⟩ := map_seq vs n f fa hf
  have ho := S.m (List.mem_append_right _ (.head _))
  refine ⟨n', S.upd (Heap.SameBut.update ..).extBut ?_⟩
  rw [Heap.get?_update_self _ ho (by rw [e]; rfl), e]
theorem wp_pop {v : Value} {Q : Value → Shared → Prop} (S : Sf w h F (M1 ++ (l, lstObj (vs ++ [v]) n) :: M2) L V) (hz : vs.length ≤ 2 ^ 20) (H : ∀ h' n', Sf w h' F (M1 ++ (l, lstObj vs n') :: M2) L V → Q v ⟨h', g, d, tk, os⟩) :
    wpAny (model prog w) A (call (.builtin "list.pop") [.ref l]) Q E ⟨h, g, d, tk, os⟩ := by
  have ho := S.m (List.mem_append_right _ (.head _))
  refine wpAny_call_entry PySem.F.slot_list_pop (show (⟨h, g, d, tk, os⟩ : Shared).TypeIs (.ref l) "list" from ⟨_, ho, rfl⟩) PySem.F.entry_list_pop ?_ (PySem.F.args_list_pop_1 _)
  unfold Builtin.«list.pop»
  refine wpAny_bind (wpAny_of_eq (a := (Value.ref l, [])) rfl ?_)
  dsimp only
  refine wpAny_bind (wpAny_pure ?_)
  refine wpAny_ite_false (by decide) ?_
  have hsi : seqIndex? (-1) (vs ++ [v]).toArray.size = some vs.length := by
    unfold seqIndex?
    rw [List.size_toArray, List.length_append, List.length_singleton]
    simp
    first | with_reducible assumption | decide | lia | omega
  refine wpAny_bind ?_
  unfold Builtin.List.listItems
  refine wpAny_bind (wpAny_seqItems ho rfl (wpAny_pure ?_))
  refine wpAny_ite_false (by simp) ?_
  rw [hsi]
  have hg : (vs ++ [v]).toArray[vs.length]? = some v := by simp
  simp only [Option.bind_some, hg, Option.map_some]
  refine wpAny_bind ?_
  show wpAny _ _ (updateSeq l _) _ _ _
  have hfa : (vs ++ [v]).toArray.eraseIdxIfInBounds vs.length = vs.toArray := by
    simp [List.eraseIdx_append_of_length_le]
  obtain ⟨n', S'⟩ := upd_seq (fun _ => vs) (fun x => x.eraseIdxIfInBounds vs.length) hfa S
  refine wpAny_updateSeq ho rfl ?_ (by simp [sizeLine_eq]; first | with_reducible assumption | decide | lia | omega) (by rw [hfa, List.size_toArray, sizeLine_eq]; first | with_reducible assumption | decide | lia | omega)
  exact wpAny_pure ⟨v, rfl, H _ n' S'⟩
theorem eqv_gives (ts : List (List Nat × Tok)) (x : List Nat) (t : Tok) : ∀ y, y ∈ (txs ts).toArray → MeetsSeq.EqGives y (.str (T x) t) (eqV x y) := by
  intro y hy
  have hy : y ∈ txs ts := by simpa using hy
  obtain ⟨p, hp, rfl⟩ := List.mem_map.mp hy
  exact PySem.SeqRoads2.EqGives.str _ _ _ _
theorem eqv_at (ts : List (List Nat × Tok)) (x : List Nat) (i : Nat) (hi : i < (txs ts).toArray.size) : eqV x (txs ts).toArray[i] = ((ts.map (·.1)).getD i [] == x) := by
  have hi' : i < ts.length := by simpa using hi
  have e : (txs ts).toArray[i] = .str (T ts[i].1) ts[i].2 := by simp [txs]
  rw [e]
  have e2 : (ts.map (·.1)).getD i [] = ts[i].1 := by simp [List.getD_eq_getElem?_getD, hi']
  rw [e2]; rfl
end
section
variable {prog : Program} {w : World} {A : Around} {E : Value → Shared → Prop} {h : Heap} {F : Fz} {M1 M2 : List (Addr × Obj)} {L l : Addr} {V : List (Str × Value)} {g : Array GenState} {d : Drawn} {tk : Nat} {os : OsState}
theorem wp_remove {ya yb : List (List Nat × Tok)} {x : List Nat} {t u : Tok} {n : Nat} {Q : Value → Shared → Prop} (S : Sf w h F (M1 ++ (l, lstObj (txs (ya ++ (x, u) :: yb)) n) :: M2) L V) (hn : x ∉ ya.map (·.1)) (hz : (ya ++ (x, u) :: yb).length ≤ 2 ^ 20)
    (H : ∀ h' n', Sf w h' F (M1 ++ (l, lstObj (txs (ya ++ yb)) n') :: M2) L V → Q .none ⟨h', g, d, tk, os⟩) : wpAny (model prog w) A (call (.builtin "list.remove") [.ref l, .str (T x) t]) Q E ⟨h, g, d, tk, os⟩ := by
  have ho := S.m (List.mem_append_right _ (.head _))
  have hlen : (txs (ya ++ (x, u) :: yb)).toArray.size = (ya ++ (x, u) :: yb).length := by rw [List.size_toArray, List.length_map]
  have hj : ya.length < (txs (ya ++ (x, u) :: yb)).toArray.size := by rw [hlen, List.length_append, List.length_cons]; first | with_reducible assumption | decide | lia | omega
  refine call_meets PySem.F.slot_list_remove (show (⟨h, g, d, tk, os⟩ : Shared).TypeIs (.ref l) "list" from ⟨_, ho, rfl⟩) PySem.F.entry_list_remove (PySem.F.args_list_remove_2 _ _)
    (MeetsSeq.list_remove l _ n (.str (T x) t) (eqV x) (eqv_gives _ x t) ya.length hj ?_ ?_ (by rw [hlen, sizeLine_eq]; first | with_reducible assumption | decide | lia | omega)) ⟨ho, ?_⟩
  · rw [eqv_at]; simp [List.getD_eq_getElem?_getD]
  · intro m hm hml
    rw [eqv_at]
    have hm2 : m < ya.length := hml
    have : ((ya ++ (x, u) :: yb).map (·.1)).getD m [] = ya[m].1 := by
      rw [List.getD_eq_getElem?_getD, List.map_append, List.getElem?_append_left (by rw [List.length_map]; exact hm2), List.getElem?_map, List.getElem?_eq_getElem hm2]; rfl
    rw [this]
    refine beq_eq_false_iff_ne.mpr fun e => hn ?_
    rw [← e]
    exact List.mem_map_of_mem (List.getElem_mem hm2)
  · have hfa : (txs (ya ++ (x, u) :: yb)).toArray.eraseIdxIfInBounds ya.length = (txs (ya ++ yb)).toArray := by
      have : ya.length = (txs ya).length := by rw [List.length_map]
      have e1 : txs (ya ++ (x, u) :: yb) = txs ya ++ .str (T x) u :: txs yb := by rw [txs, List.map_append]; rfl
      have e2 : txs (ya ++ yb) = txs ya ++ txs yb := by rw [txs, List.map_append]
      rw [e1, e2, this]
      simp [List.eraseIdx_append_of_length_le]
    obtain ⟨n', S'⟩ := upd_seq (fun _ => txs (ya ++ yb)) (fun x => x.eraseIdxIfInBounds ya.length) hfa S
    exact H _ n' S'
theorem wp_remove_no {ys : List (List Nat × Tok)} {x : List Nat} {t : Tok} {n : Nat} {Q : Value → Shared → Prop} (hh : A.handled = none) (S : Sf w h F (M1 ++ (l, lstObj (txs ys) n) :: M2) L V) (hn : x ∉ ys.map (·.1))
    (H : ∀ h' tk' e, Raised w h' F (M1 ++ (l, lstObj (txs ys) n) :: M2) L V e "ValueError" → E (.ref e) ⟨h', g, d, tk', os⟩) : wpAny (model prog w) A (call (.builtin "list.remove") [.ref l, .str (T x) t]) Q E ⟨h, g, d, tk, os⟩ := by
  have ho := S.m (List.mem_append_right _ (.head _))
  refine call_meets PySem.F.slot_list_remove (show (⟨h, g, d, tk, os⟩ : Shared).TypeIs (.ref l) "list" from ⟨_, ho, rfl⟩) PySem.F.entry_list_remove (PySem.F.args_list_remove_2 _ _)
    (MeetsSeq.list_remove_none l _ n (.str (T x) t) (eqV x) (eqv_gives _ x t) ?_) ⟨ho, hh, fun h' tk' e N => H h' tk' e (raised_of S N)⟩
  intro m hm
  rw [eqv_at]
  have hm2 : m < ys.length := by simpa using hm
  have : (ys.map (·.1)).getD m [] = ys[m].1 := by simp [List.getD_eq_getElem?_getD, hm2]
  rw [this]
  refine beq_eq_false_iff_ne.mpr fun e => hn ?_
  rw [← e]
  exact List.mem_map_of_mem (List.getElem_mem hm2)
end
section
variable {w : World}
theorem exc_value : isSubtype (.type "ValueError") (.type "BaseException") = pure true ∧ isSubtype (.type ((Manifest.find? "ValueError").elim "type" fun x => x.metatype)) (.type "tuple") = pure false ∧ isSubtype (.type "ValueError") (.type "ValueError") = pure true :=
  ⟨by rw [isSubtype_type]; kernel_rfl, by rw [show ((Manifest.find? "ValueError").elim "type" fun x => x.metatype) = "type" by kernel_rfl, isSubtype_type]; kernel_rfl, by rw [isSubtype_type]; kernel_rfl⟩
theorem exc_index : isSubtype (.type "IndexError") (.type "BaseException") = pure true ∧ isSubtype (.type ((Manifest.find? "IndexError").elim "type" fun x => x.metatype)) (.type "tuple") = pure false ∧ isSubtype (.type "IndexError") (.type "IndexError") = pure true :=
  ⟨by rw [isSubtype_type]; kernel_rfl, by rw [show ((Manifest.find? "IndexError").elim "type" fun x => x.metatype) = "type" by kernel_rfl, isSubtype_type]; kernel_rfl, by rw [isSubtype_type]; kernel_rfl⟩
end
end Mine
end
section
open PySem PySem.W PyProof.Rows PySem.Calls
set_option autoImplicit false
set_option maxRecDepth 100000
namespace Mine
section
variable {w : World}
/- what the loop keeps -/
inductive UldI (F : Fz) (ml xl yl K : Addr) (oK : Obj) (M0 : List (Addr × Obj)) (ms zs : List (List Nat)) (n : Nat) (F' : Fz) (M' : List (Addr × Obj)) (V' : List (Str × Value)) : Prop
  | mk (h1_ : Le F F') (xs : List (List Nat × Tok)) (ys : List (List Nat × Tok)) (mt : List (List Nat × Tok)) (n1 : Nat) (n2 : Nat) (nm : Nat) (sl : Array (Option Value)) (ms' : List (List Nat)) (h2_ : n = xs.length) (h3_ : M' = (ml, lstObj (txs mt) nm) :: (xl, lstObj (txs xs) n1) :: (yl, lstObj (txs ys) n2) :: (K, { oK with slots := sl }) :: M0) (h4_ : Uld (xs.map (·.1)).reverse (ys.map (·.1)) ms' zs) (h5_ : mt.map (·.1) ++ ms' = ms) (h6_ : mt.length + xs.length ≤ 1000) (h7_ : ys.length ≤ 1000) (h8_ : Has V' "expected" (.ref xl)) (h9_ : Has V' "actual" (.ref yl)) (h10_ : Has V' "missing" (.ref ml)) : UldI F ml xl yl K oK M0 ms zs n F' M' V'
set_option maxHeartbeats 4000000 in
theorem uld_fn {prog : Program} {A : Around} {E : Value → Shared → Prop} {Q : Value → Shared → Prop} {h : Heap} {F : Fz} {M0 : List (Addr × Obj)} {K xl yl : Addr} {oK : Obj} {envK : Env} {g : Array GenState} {d : Drawn} {tk : Nat} {os : OsState}
    {xs ys : List (List Nat × Tok)} {n1 n2 : Nat} {ms zs : List (List Nat)} (hfr : A.frames = some [envK]) (hK : envK.frame = some K) (hkK : envK.scope.kind ≠ .module) (hdK : ∀ vs, oK.data ≠ .fields vs) (C : Cx A 3 20)
    (U : Uld (xs.map (·.1)).reverse (ys.map (·.1)) ms zs) (hz : xs.length ≤ 1000 ∧ ys.length ≤ 1000)
    (S : St w h F ((xl, lstObj (txs xs) n1) :: (yl, lstObj (txs ys) n2) :: (K, oK) :: M0))
    (H : ∀ F' h' tk' a ml mt nm n1' n2' sl zt, Le F F' → St w h' F' ((xl, lstObj [] n1') :: (yl, lstObj (txs zt) n2') :: (K, { oK with slots := sl }) :: M0) → F' a = some (tupObj [.ref ml, .ref yl]) → F' ml = some (lstObj (txs mt) nm) →
      mt.map (·.1) = ms → zt.map (·.1) = zs → Q (.ref a) ⟨h', g, d, tk', os⟩) : wpAny (model prog w) A (call (.ref 45) [.ref xl, .ref yl]) Q E ⟨h, g, d, tk, os⟩ := by
  refine enter (D := 2) (U := 17) (binds := [("expected", .ref xl), ("actual", .ref yl)]) C S (by exact rfl) (by exact rfl) (by exact rfl) (by exact rfl) ?_
  intro h1 tk1 L E' S1 C1
  refine x_assign ?_
  refine r_list0 ?_
  have S2 := S1.push (o := lstObj [] 0) rfl
  refine r_store S2 fun h3 tk3 S3 => ?_
  generalize h1.objs.size = ml at S3
  clear S1 S2
  refine xl_while ?_
  have hfrg : ∀ env : Env, (A.deeper env).frames = some [env, envK] := fun env => by show A.frames.map _ = _; rw [hfr]; rfl
  generalize hA : A.deeper _ = A1 at C1 ⊢
  have hfr1 := (congrArg Around.frames hA).symm.trans (hfrg _)
  clear hA
  show codeAny _ _ _ _ ⟨_, g, d, _, os⟩
  refine loop_while (n := xs.length) (UldI F ml xl yl K oK M0 ms zs) ?_ S3 ⟨Le.refl _, xs, ys, [], n1, n2, 0, oK.slots, ms, rfl, rfl, U, rfl, by simpa using hz.1, hz.2, by exact rfl, by exact rfl, by exact rfl⟩
  clear S3 U hz
  rintro n F' M' V' h4 tk4 E4 P hP hB X hX ⟨le, xs, ys, mt, n1, n2, nm, sl, ms', rfl, rfl, U, hms, hz1, hz2, lx, ly, lm⟩ S4
  refine isT ?_
  refine r_name S4 lx ?_
  refine truthy_lst (S4.m (.tail _ (.head _))) (by rw [List.length_map]; first | with_reducible assumption | decide | lia | omega) fun tk5 => ?_
  rcases List.eq_nil_or_concat xs with rfl | ⟨xs', p, rfl⟩
  · refine on_f (by decide) ?_
    refine hX ?_
    refine x_ret ?_
    refine r_tup2 ?_
    refine r_name S4 lm ?_
    refine r_name S4 ly ?_
    have SLe := S4.freeze
    have S5 := SLe.1
    have le5 := SLe.2
    clear SLe
    have SLe := S5.pushF (o := tupObj [.ref ml, .ref yl]) rfl
    have S6 := SLe.1
    have le6 := SLe.2
    clear SLe
    have hu : ms' = [] ∧ ys.map (·.1) = zs := by
      have U' : Uld [] (ys.map (·.1)) ms' zs := U
      cases U'; exact ⟨rfl, rfl⟩
    obtain ⟨rfl, hzs⟩ := hu
    refine H _ _ _ _ ml mt nm n1 n2 sl ys (le.trans (le5.trans le6)) S6.st (ins_self _ _ _) (le6 _ _ (ins_self _ _ _)) ?_ hzs
    rw [← hms, List.append_nil]
  · obtain ⟨x, u⟩ := p
    rw [List.concat_eq_append] at S4 U hz1 ⊢
    have htx : txs (xs' ++ [(x, u)]) = txs xs' ++ [.str (T x) u] := txs_snoc ..
    rw [htx] at S4 ⊢
    first | refine on_t (by simp) ?_ | rw [if_pos (by simp)]
    rw [List.length_append, List.length_singleton] at hz1
    have U' : Uld (x :: (xs'.map (·.1)).reverse) (ys.map (·.1)) ms' zs := by
      have e : ((xs' ++ [(x, u)]).map (·.1)).reverse = x :: (xs'.map (·.1)).reverse := by simp
      rw [e] at U; exact U
    refine x_assign ?_
    refine r_meth (v := .ref xl) S4 lx ⟨_, S4.m (.tail _ (.head _)), rfl⟩ (fun b hb => by cases hb; exact ⟨_, S4.m (.tail _ (.head _)), rfl⟩) PySem.F.plainAttrs_list PySem.F.slot_list_pop PySem.F.type_list_pop ?_
    refine r_cwB0 ?_
    refine wp_pop (M1 := [_]) S4 (by rw [List.length_map]; first | with_reducible assumption | decide | lia | omega) fun h5 n5 S5 => ?_
    refine r_store S5 fun h6 tk6 S6 => ?_
    refine wpAny_execs_cons ?_
    refine wpAny_Try_except ?_
    refine x_expr ?_
    refine r_meth (v := .ref yl) S6 (by exact ly) ⟨_, S6.m (.tail _ (.tail _ (.head _))), rfl⟩ (fun b hb => by cases hb; exact ⟨_, S6.m (.tail _ (.tail _ (.head _))), rfl⟩) PySem.F.plainAttrs_list PySem.F.slot_list_remove PySem.F.type_list_remove ?_
    refine r_cwB1 ?_
    refine r_name S6 (by exact rfl) ?_
    generalize hyy : ys.map (·.1) = yy at U'
    cases U' with
    | @hit _ _ a b _ _ hna U2 =>
      obtain ⟨ya, y2, rfl, rfl, h2⟩ := List.map_eq_append_iff.mp hyy
      obtain ⟨⟨x', u'⟩, yb, rfl, rfl, rfl⟩ := List.map_eq_cons_iff.mp h2
      refine wp_remove (M1 := [_, _]) S6 hna (Nat.le_trans hz2 (by decide)) fun h7 n7 S7 => ?_
      refine x_nil ?_
      refine x_nil ?_
      refine x_nil ?_
      refine hP ⟨xs'.length, by simp, .mk S7 ⟨le, xs', ya ++ yb, mt, n5, n7, nm, sl, ms', rfl, rfl, by rw [List.map_append]; exact U2, hms, by first | with_reducible assumption | decide | lia | omega, ?_, by exact lx, by exact ly, by exact lm⟩⟩
      rw [List.length_append, List.length_cons] at hz2
      rw [List.length_append]; first | with_reducible assumption | decide | lia | omega
    | @miss _ _ _ ms2 _ hna U2 =>
      subst hyy
      refine wp_remove_no (M1 := [_, _]) C1.hd S6 hna fun h7 tk7 e R7 => ?_
      refine note_new (M1 := [_, _, _]) (oK := { oK with slots := sl }) hfr1 rfl hK hkK hdK R7 fun h8 sl2 R8 => ?_
      refine set_flight (x := none) R8 fun h9 R9 => ?_
      refine handle R9 (by exact rfl) (by exact rfl) (by decide) exc_value.1 exc_value.2.1 exc_value.2.2 fun h10 E10 S10 => ?_
      refine x_expr ?_
      refine r_meth (v := .ref ml) S10 (by exact lm) ⟨_, S10.m (.head _), rfl⟩ (fun b hb => by cases hb; exact ⟨_, S10.m (.head _), rfl⟩) PySem.F.plainAttrs_list PySem.F.slot_list_append PySem.F.type_list_append ?_
      refine r_cwB1 ?_
      refine r_name S10 (by exact rfl) ?_
      refine wp_append (M1 := []) S10 (by rw [List.length_map, sizeLine_eq]; first | with_reducible assumption | decide | lia | omega) fun h11 n11 S11 => ?_
      refine x_nil ?_
      refine x_nil ?_
      refine hP ⟨xs'.length, by simp, .mk S11 ⟨le, xs', ys, mt ++ [(x, u)], n5, n2, n11, sl2, ms2, rfl, by rw [txs_snoc]; rfl, U2, ?_, ?_, hz2, by exact lx, by exact ly, by exact lm⟩⟩
      · rw [← hms, List.map_append, List.append_assoc]; rfl
      · rw [List.length_append, List.length_singleton]; first | with_reducible assumption | decide | lia | omega
end
end Mine
end
section
open PySem PySem.W PyProof.Rows PySem.Calls
set_option autoImplicit false
set_option maxRecDepth 100000
namespace Mine
/- what two sorted texts' lists differ by -/
inductive Sld : List (List Nat) → List (List Nat) → List (List Nat) → List (List Nat) → Prop
  | lt {e a : List Nat} {es as m u : List (List Nat)} : e < a → es.dropWhile (· == e) ≠ [] → Sld (es.dropWhile (· == e)) (a :: as) m u → Sld (e :: es) (a :: as) (e :: m) u
  | ltEnd {e a : List Nat} {es as : List (List Nat)} : e < a → es.dropWhile (· == e) = [] → Sld (e :: es) (a :: as) [e] (a :: as)
  | gt {e a : List Nat} {es as m u : List (List Nat)} : a < e → as.dropWhile (· == a) ≠ [] → Sld (e :: es) (as.dropWhile (· == a)) m u → Sld (e :: es) (a :: as) m (a :: u)
  | gtEnd {e a : List Nat} {es as : List (List Nat)} : a < e → as.dropWhile (· == a) = [] → Sld (e :: es) (a :: as) (e :: es) [a]
  | eq {e : List Nat} {es as m u : List (List Nat)} : es.dropWhile (· == e) ≠ [] → as.dropWhile (· == e) ≠ [] → Sld (es.dropWhile (· == e)) (as.dropWhile (· == e)) m u → Sld (e :: es) (e :: as) m u
  | eqEndA {e : List Nat} {es as : List (List Nat)} : es.dropWhile (· == e) ≠ [] → as.dropWhile (· == e) = [] → Sld (e :: es) (e :: as) (es.dropWhile (· == e)) []
  | eqEndE {e : List Nat} {es as : List (List Nat)} : es.dropWhile (· == e) = [] → as.dropWhile (· == e) ≠ [] → Sld (e :: es) (e :: as) [] (as.dropWhile (· == e))
section
variable {prog : Program} {w : World} {A : Around} {h : Heap} {F : Fz} {M1 M2 : List (Addr × Obj)} {L K a ll : Addr} {V : List (Str × Value)} {g : Array GenState} {d : Drawn} {tk : Nat} {os : OsState}
  {cn : Str} {cs : Scope} {cd : Value} {cl : List (Str × Addr)} {oK : Obj} {envK : Env} {R : Result → Shared → Prop}
/- what stays known while one name changes -/
noncomputable def Keep (ni : Str) (V V' : List (Str × Value)) : Prop := ∀ x v, x ≠ ni → V.lookup x = some v → V'.lookup x = some v
/- the loop that steps over what is equal -/
theorem skip_loop {nl ni ne : Str} {p1 p2 p3 p4 p5 p6 p7 p8 : Pos} {k1 : Nat} {ts : List (List Nat × Tok)} {n i : Nat} {t te : Tok} {e : List Nat} (S : Sf w h F (M1 ++ (K, oK) :: M2) L V) (hl : F ll = some (lstObj (txs ts) n)) (hz : ts.length ≤ 1000)
    (vl : Has V nl (.ref ll)) (vi : Has V ni (.int i t)) (ve : Has V ne (.str (T e) te)) (hi : i ≤ ts.length) (hnl : nl ≠ ni) (hne : ne ≠ ni)
    (hN : ∀ j h' tk' V' t', i ≤ j → j < ts.length → (ts.map (·.1)).drop j = ((ts.map (·.1)).drop i).dropWhile (· == e) → Sf w h' F (M1 ++ (K, oK) :: M2) L V' → Keep ni V V' → Has V' ni (.int (j : Nat) t') → R (.ok .next) ⟨h', g, d, tk', os⟩)
    (hR : ((ts.map (·.1)).drop i).dropWhile (· == e) = [] → A.handled = none ∧ A.frames = some [envX cn cs L a cd cl, envK] ∧ envK.frame = some K ∧ envK.scope.kind ≠ .module ∧ (∀ vs, oK.data ≠ .fields vs) ∧
      ∀ h' tk' V' t' x sl, Fly w h' F (M1 ++ (K, { oK with slots := sl }) :: M2) L V' x "IndexError" (rawInt L) → Keep ni V V' → Has V' ni (.int (ts.length : Nat) t') → R (.error (.ref x)) ⟨h', g, d, tk', os⟩)
    (hk : cs.kind = .function := by rfl) (hl1 : (envX cn cs L a cd cl).kindOf nl = some .local := by rfl) (hl2 : (envX cn cs L a cd cl).kindOf ni = some .local := by rfl) (hl3 : (envX cn cs L a cd cl).kindOf ne = some .local := by rfl)
    (hd1 : (nl == ("__debug__" : Str)) = false := by decide) (hd2 : (ni == ("__debug__" : Str)) = false := by decide) (hd3 : (ne == ("__debug__" : Str)) = false := by decide) :
    codeAny (model prog w) A (.whileLoop (.Compare (.Subscript (.Name nl p1) (.Name ni p2) p3) [.Eq] [.Name ne p4] p5) [.AugAssign (.Name ni p6) .Add (.Constant (.int 1) k1 p7) p8] [] (envX cn cs L a cd cl)) R ⟨h, g, d, tk, os⟩ := by
  refine codeAny_whileLoop (fun m s => ∃ j h' tk' V' t', m = ts.length - j ∧ s = ⟨h', g, d, tk', os⟩ ∧ i ≤ j ∧ j ≤ ts.length ∧ ((ts.map (·.1)).drop j).dropWhile (· == e) = ((ts.map (·.1)).drop i).dropWhile (· == e) ∧ Sf w h' F (M1 ++ (K, oK) :: M2) L V' ∧ Keep ni V V' ∧ Has V' ni (.int (j : Nat) t')) ?_ (ts.length - i)
    ⟨i, h, tk, V, t, rfl, rfl, Nat.le_refl _, hi, rfl, S, fun _ _ _ e => e, vi⟩
  rintro m s ⟨j, h', tk', V', t', rfl, rfl, hij, hjl, hdw, S', kp, vi'⟩
  have vl' := kp _ _ hnl vl
  have ve' := kp _ _ hne ve
  refine wpAny_isTrue_Compare1 ?_
  refine r_sub ?_
  refine r_name S' vl' ?_ hk hl1 hd1
  refine r_name S' vi' ?_ hk hl2 hd2
  refine ⟨"list", _, ⟨_, S'.f hl, rfl⟩, PySem.F.slot_list_getitem.lookup, ?_⟩
  by_cases hj : j = ts.length
  · subst hj
    have hnil : ((ts.map (·.1)).drop i).dropWhile (· == e) = [] := by
      rw [← hdw, List.drop_of_length_le (by rw [List.length_map]; exact Nat.le_refl _)]; rfl
    obtain ⟨hh, hfr, hK, hkK, hdK, hR⟩ := hR hnil
    refine wpAny_getItem_list_out (items := (txs ts).toArray) hh ⟨_, S'.f hl, rfl, n, rfl⟩ (.inr (by rw [List.size_toArray, List.length_map]; exact Int.le_refl _)) (by first | with_reducible assumption | decide | lia | omega) (by first | with_reducible assumption | decide | lia | omega) fun h2 tk2 x N => ?_
    refine note_new hfr hk hK hkK hdK (raised_of S' N) fun h3 sl R3 => ?_
    exact hR _ _ _ _ _ sl R3 kp vi'
  · have hjl' : j < ts.length := by first | with_reducible assumption | decide | lia | omega
    refine wpAny_getItem_list (items := (txs ts).toArray) ⟨_, S'.f hl, rfl, n, rfl⟩ (by first | with_reducible assumption | decide | lia | omega) (by first | with_reducible assumption | decide | lia | omega) (x := .str (T ts[j].1) ts[j].2) (by rw [Int.toNat_natCast]; simp [txs, hjl']) ?_
    refine r_name S' ve' ?_ hk hl3 hd3
    first | with_reducible refine PySem.P.eq_str ?_ | refine PySem.P.eq_str ?_
    refine truthy_b ?_
    have hdr : (ts.map (·.1)).drop j = ts[j].1 :: (ts.map (·.1)).drop (j + 1) := by
      rw [List.drop_eq_getElem_cons (by rw [List.length_map]; exact hjl')]; simp
    by_cases q : ts[j].1 = e
    · have : ((T ts[j].1).cps.toList == (T e).cps.toList) = true := by rw [q]; simp
      first | refine on_t this ?_ | rw [if_pos this]
      refine x_aug ?_
      refine r_load S' vi' ?_ hk hl2
      refine r_int ?_
      first | with_reducible refine PySem.P.iadd_int ?_ | refine PySem.P.iadd_int ?_
      have e1 : ((j : Nat) : Int) + 1 = ((j + 1 : Nat) : Int) := by first | with_reducible assumption | decide | lia | omega
      rw [e1]
      refine r_store S' (fun h2 tk2 S2 => ?_) hk hl2
      refine x_nil ?_
      refine ⟨ts.length - (j + 1), by first | with_reducible assumption | decide | lia | omega, j + 1, h2, tk2, _, tk' + 1, rfl, rfl, by first | with_reducible assumption | decide | lia | omega, by first | with_reducible assumption | decide | lia | omega, ?_, S2, ?_, ?_⟩
      · rw [← hdw, hdr, List.dropWhile_cons, if_pos (by rw [q]; simp)]
      · intro x v hx hv
        rw [List.lookup_cons, beq_eq_false_iff_ne.mpr hx]
        exact kp x v hx hv
      · show List.lookup ni _ = _
        rw [List.lookup_cons, beq_self_eq_true]
    · have : ((T ts[j].1).cps.toList == (T e).cps.toList) = false := by
        show (ts[j].1 == e) = false
        exact beq_eq_false_iff_ne.mpr q
      first | refine on_f (by rw [this]; decide) ?_ | rw [if_neg (by rw [this]; decide)]
      refine wpAny_execs_nil ?_
      refine hN j _ _ _ _ hij hjl' ?_ S' kp vi'
      rw [← hdw, hdr, List.dropWhile_cons, if_neg (by simpa using q)]
end
end Mine
end
section
open PySem PySem.W PyProof.Rows PySem.Calls
set_option autoImplicit false
set_option maxRecDepth 100000
namespace Mine
section
variable {prog : Program} {w : World} {A : Around} {E : Value → Shared → Prop} {h : Heap} {F : Fz} {M1 M2 : List (Addr × Obj)} {L l c : Addr} {V : List (Str × Value)} {g : Array GenState} {d : Drawn} {tk : Nat} {os : OsState} {vs us : List Value} {n m : Nat}
theorem wp_extend {Q : Value → Shared → Prop} (S : Sf w h F (M1 ++ (l, lstObj vs n) :: M2) L V) (hc : h.get? c = some (lstObj us m)) (hz : vs.length + us.length ≤ 2 ^ 20)
    (H : ∀ h' n', Sf w h' F (M1 ++ (l, lstObj (vs ++ us) n') :: M2) L V → Q .none ⟨h', g, d, tk, os⟩) : wpAny (model prog w) A (call (.builtin "list.extend") [.ref l, .ref c]) Q E ⟨h, g, d, tk, os⟩ := by
  have ho := S.m (List.mem_append_right _ (.head _))
  refine call_meets PySem.F.slot_list_extend (show (⟨h, g, d, tk, os⟩ : Shared).TypeIs (.ref l) "list" from ⟨_, ho, rfl⟩) PySem.F.entry_list_extend (PySem.F.args_list_extend_2 _ _)
    (AutoSeq1.list_extend_list_list_0 l vs.toArray n c us.toArray m ?_ (by rw [List.size_toArray, sizeLine_eq]; first | with_reducible assumption | decide | lia | omega) (by rw [List.size_toArray, List.size_toArray, sizeLine_eq]; first | with_reducible assumption | decide | lia | omega)) ⟨ho, hc, ?_⟩
  · unfold Builtin.List.listTooLong
    rw [List.size_toArray, List.size_toArray]
    have : decide (vs.length + us.length > sizeLine) = false := decide_eq_false (by rw [sizeLine_eq]; first | with_reducible assumption | decide | lia | omega)
    simp [this]
  · obtain ⟨n', S'⟩ := upd_seq (fun vs => vs ++ us) (fun x => x ++ us.toArray) (by simp) S
    exact H _ n' S'
end
theorem lex_not {a b : List Nat} (h : a < b) : ¬ b < a := fun h2 => List.lt_irrefl a (List.lt_trans h h2)
/- the ways in which two lists go on -/
inductive SldV (e a : List Nat) (es as m u : List (List Nat)) : Prop
  | lt (m2 : List (List Nat)) (h1_ : e < a) (h2_ : es.dropWhile (· == e) ≠ []) (h3_ : m = e :: m2) (h4_ : Sld (es.dropWhile (· == e)) (a :: as) m2 u) : SldV e a es as m u
  | ltEnd (h1_ : e < a) (h2_ : es.dropWhile (· == e) = []) (h3_ : m = [e]) (h4_ : u = a :: as) : SldV e a es as m u
  | gt (u2 : List (List Nat)) (h1_ : a < e) (h2_ : as.dropWhile (· == a) ≠ []) (h3_ : u = a :: u2) (h4_ : Sld (e :: es) (as.dropWhile (· == a)) m u2) : SldV e a es as m u
  | gtEnd (h1_ : a < e) (h2_ : as.dropWhile (· == a) = []) (h3_ : m = e :: es) (h4_ : u = [a]) : SldV e a es as m u
  | eq (h1_ : e = a) (h2_ : es.dropWhile (· == e) ≠ []) (h3_ : as.dropWhile (· == e) ≠ []) (h4_ : Sld (es.dropWhile (· == e)) (as.dropWhile (· == e)) m u) : SldV e a es as m u
  | eqEndA (h1_ : e = a) (h2_ : es.dropWhile (· == e) ≠ []) (h3_ : as.dropWhile (· == e) = []) (h4_ : m = es.dropWhile (· == e)) (h5_ : u = []) : SldV e a es as m u
  | eqEndE (h1_ : e = a) (h2_ : es.dropWhile (· == e) = []) (h3_ : as.dropWhile (· == e) ≠ []) (h4_ : m = []) (h5_ : u = as.dropWhile (· == e)) : SldV e a es as m u
theorem sld_inv {e a : List Nat} {es as m u : List (List Nat)} (U : Sld (e :: es) (a :: as) m u) : SldV e a es as m u := by
  cases U with
  | lt h1 h2 h3 => exact .lt _ h1 h2 rfl h3
  | ltEnd h1 h2 => exact .ltEnd h1 h2 rfl rfl
  | gt h1 h2 h3 => exact .gt _ h1 h2 rfl h3
  | gtEnd h1 h2 => exact .gtEnd h1 h2 rfl rfl
  | eq h1 h2 h3 => exact .eq rfl h1 h2 h3
  | eqEndA h1 h2 => exact .eqEndA rfl h1 h2 rfl rfl
  | eqEndE h1 h2 => exact .eqEndE rfl h1 h2 rfl rfl
section
variable {e a : List Nat} {es as m u : List (List Nat)}
theorem no_gt (h : e < a) (q : a < e) : False := lex_not h q
theorem inv_lt (U : Sld (e :: es) (a :: as) m u) (h : e < a) (hn : es.dropWhile (· == e) ≠ []) : ∃ m2, m = e :: m2 ∧ Sld (es.dropWhile (· == e)) (a :: as) m2 u :=
  match sld_inv U with
  | .lt m2 _ _ q1 q2 => ⟨m2, q1, q2⟩
  | .ltEnd _ q _ _ => absurd q hn
  | .gt _ q _ _ _ => (no_gt h q).elim
  | .gtEnd q _ _ _ => (no_gt h q).elim
  | .eq q _ _ _ => (List.lt_irrefl _ (q ▸ h)).elim
  | .eqEndA q _ _ _ _ => (List.lt_irrefl _ (q ▸ h)).elim
  | .eqEndE q _ _ _ _ => (List.lt_irrefl _ (q ▸ h)).elim
theorem inv_ltEnd (U : Sld (e :: es) (a :: as) m u) (h : e < a) (hn : es.dropWhile (· == e) = []) : m = [e] ∧ u = a :: as :=
  match sld_inv U with
  | .lt _ _ q _ _ => absurd hn q
  | .ltEnd _ _ q1 q2 => ⟨q1, q2⟩
  | .gt _ q _ _ _ => (no_gt h q).elim
  | .gtEnd q _ _ _ => (no_gt h q).elim
  | .eq q _ _ _ => (List.lt_irrefl _ (q ▸ h)).elim
  | .eqEndA q _ _ _ _ => (List.lt_irrefl _ (q ▸ h)).elim
  | .eqEndE q _ _ _ _ => (List.lt_irrefl _ (q ▸ h)).elim
theorem inv_gt (U : Sld (e :: es) (a :: as) m u) (h : a < e) (hn : as.dropWhile (· == a) ≠ []) : ∃ u2, u = a :: u2 ∧ Sld (e :: es) (as.dropWhile (· == a)) m u2 :=
  match sld_inv U with
  | .gt u2 _ _ q1 q2 => ⟨u2, q1, q2⟩
  | .gtEnd _ q _ _ => absurd q hn
  | .lt _ q _ _ _ => (no_gt h q).elim
  | .ltEnd q _ _ _ => (no_gt h q).elim
  | .eq q _ _ _ => (List.lt_irrefl _ (q ▸ h)).elim
  | .eqEndA q _ _ _ _ => (List.lt_irrefl _ (q ▸ h)).elim
  | .eqEndE q _ _ _ _ => (List.lt_irrefl _ (q ▸ h)).elim
theorem inv_gtEnd (U : Sld (e :: es) (a :: as) m u) (h : a < e) (hn : as.dropWhile (· == a) = []) : m = e :: es ∧ u = [a] :=
  match sld_inv U with
  | .gt _ _ q _ _ => absurd hn q
  | .gtEnd _ _ q1 q2 => ⟨q1, q2⟩
  | .lt _ q _ _ _ => (no_gt h q).elim
  | .ltEnd q _ _ _ => (no_gt h q).elim
  | .eq q _ _ _ => (List.lt_irrefl _ (q ▸ h)).elim
  | .eqEndA q _ _ _ _ => (List.lt_irrefl _ (q ▸ h)).elim
  | .eqEndE q _ _ _ _ => (List.lt_irrefl _ (q ▸ h)).elim
theorem inv_eq (U : Sld (e :: es) (e :: as) m u) (h1 : es.dropWhile (· == e) ≠ []) (h2 : as.dropWhile (· == e) ≠ []) : Sld (es.dropWhile (· == e)) (as.dropWhile (· == e)) m u :=
  match sld_inv U with
  | .eq _ _ _ q => q
  | .eqEndA _ _ q _ _ => absurd q h2
  | .eqEndE _ q _ _ _ => absurd q h1
  | .lt _ q _ _ _ => (List.lt_irrefl _ q).elim
  | .ltEnd q _ _ _ => (List.lt_irrefl _ q).elim
  | .gt _ q _ _ _ => (List.lt_irrefl _ q).elim
  | .gtEnd q _ _ _ => (List.lt_irrefl _ q).elim
theorem inv_eqEndA (U : Sld (e :: es) (e :: as) m u) (h1 : es.dropWhile (· == e) ≠ []) (h2 : as.dropWhile (· == e) = []) : m = es.dropWhile (· == e) ∧ u = [] :=
  match sld_inv U with
  | .eq _ _ q _ => absurd h2 q
  | .eqEndA _ _ _ q1 q2 => ⟨q1, q2⟩
  | .eqEndE _ q _ _ _ => absurd q h1
  | .lt _ q _ _ _ => (List.lt_irrefl _ q).elim
  | .ltEnd q _ _ _ => (List.lt_irrefl _ q).elim
  | .gt _ q _ _ _ => (List.lt_irrefl _ q).elim
  | .gtEnd q _ _ _ => (List.lt_irrefl _ q).elim
theorem inv_eqEndE (U : Sld (e :: es) (e :: as) m u) (h1 : es.dropWhile (· == e) = []) : as.dropWhile (· == e) ≠ [] ∧ m = [] ∧ u = as.dropWhile (· == e) :=
  match sld_inv U with
  | .eq _ q _ _ => absurd h1 q
  | .eqEndA _ q _ _ _ => absurd h1 q
  | .eqEndE _ _ q0 q1 q2 => ⟨q0, q1, q2⟩
  | .lt _ q _ _ _ => (List.lt_irrefl _ q).elim
  | .ltEnd q _ _ _ => (List.lt_irrefl _ q).elim
  | .gt _ q _ _ _ => (List.lt_irrefl _ q).elim
  | .gtEnd q _ _ _ => (List.lt_irrefl _ q).elim
end
theorem drop_ne {ts : List (List Nat × Tok)} {j : Nat} (h : j < ts.length) : (ts.map (·.1)).drop j ≠ [] := fun q => by
  have := congrArg List.length q
  rw [List.length_drop, List.length_map, List.length_nil] at this
  first | with_reducible assumption | decide | lia | omega
theorem snoc_cat {ts : List (List Nat × Tok)} {e : List Nat} {t : Tok} {m r : List (List Nat)} (h : ts.map (·.1) ++ e :: m = r) : (ts ++ [(e, t)]).map (·.1) ++ m = r := by
  rw [← h, List.map_append, List.append_assoc]; rfl
noncomputable abbrev fs (ts : List (List Nat × Tok)) : List (List Nat) := ts.map (·.1)
section
variable {w : World}
/- what the handler finds -/
inductive SldE (w : World) (g : Array GenState) (d : Drawn) (os : OsState) (F' : Fz) (ul ml xl yl K L : Addr) (oK : Obj) (M0 : List (Addr × Obj)) (xs ys : List (List Nat × Tok)) (m u : List (List Nat)) (v : Value) (s : Shared) : Prop
  | mk (x : Addr) (h' : Heap) (tk' : Nat) (V' : List (Str × Value)) (sl : Array (Option Value)) (ti : Tok) (tj : Tok) (i' : Nat) (j' : Nat) (mt : List (List Nat × Tok)) (ut : List (List Nat × Tok)) (nm : Nat) (nu : Nat) (h1_ : v = .ref x) (h2_ : s = ⟨h', g, d, tk', os⟩) (h3_ : Fly w h' F' ((ul, lstObj (txs ut) nu) :: (ml, lstObj (txs mt) nm) :: (K, { oK with slots := sl }) :: M0) L V' x "IndexError" (rawInt L)) (h4_ : fs mt ++ (fs xs).drop i' = m) (h5_ : fs ut ++ (fs ys).drop j' = u) (h6_ : mt.length ≤ 2000) (h7_ : ut.length ≤ 2000) (h8_ : i' ≤ xs.length) (h9_ : j' ≤ ys.length) (h10_ : Has V' "expected" (.ref xl)) (h11_ : Has V' "actual" (.ref yl)) (h12_ : Has V' "missing" (.ref ml)) (h13_ : Has V' "unexpected" (.ref ul)) (h14_ : Has V' "i" (.int (i' : Nat) ti)) (h15_ : Has V' "j" (.int (j' : Nat) tj)) : SldE w g d os F' ul ml xl yl K L oK M0 xs ys m u v s
/- what the loop keeps -/
inductive SldI (F : Fz) (ul ml xl yl K : Addr) (oK : Obj) (M0 : List (Addr × Obj)) (xs ys : List (List Nat × Tok)) (m u : List (List Nat)) (n : Nat) (F' : Fz) (M' : List (Addr × Obj)) (V' : List (Str × Value)) : Prop
  | mk (h1_ : F' = F) (i : Nat) (j : Nat) (ti : Tok) (tj : Tok) (mt : List (List Nat × Tok)) (ut : List (List Nat × Tok)) (nm : Nat) (nu : Nat) (sl : Array (Option Value)) (m' : List (List Nat)) (u' : List (List Nat)) (h2_ : n + i + j = xs.length + ys.length) (h3_ : M' = (ul, lstObj (txs ut) nu) :: (ml, lstObj (txs mt) nm) :: (K, { oK with slots := sl }) :: M0) (h4_ : Sld ((fs xs).drop i) ((fs ys).drop j) m' u') (h5_ : fs mt ++ m' = m) (h6_ : fs ut ++ u' = u) (h7_ : mt.length ≤ i) (h8_ : ut.length ≤ j) (h9_ : i ≤ xs.length) (h10_ : j ≤ ys.length) (h11_ : Has V' "expected" (.ref xl)) (h12_ : Has V' "actual" (.ref yl)) (h13_ : Has V' "missing" (.ref ml)) (h14_ : Has V' "unexpected" (.ref ul)) (h15_ : Has V' "i" (.int (i : Nat) ti)) (h16_ : Has V' "j" (.int (j : Nat) tj)) : SldI F ul ml xl yl K oK M0 xs ys m u n F' M' V'
set_option maxHeartbeats 8000000 in
theorem sld_fn {prog : Program} {A : Around} {E : Value → Shared → Prop} {Q : Value → Shared → Prop} {h : Heap} {F : Fz} {M0 : List (Addr × Obj)} {K xl yl : Addr} {oK : Obj} {envK : Env} {g : Array GenState} {d : Drawn} {tk : Nat} {os : OsState}
    {xs ys : List (List Nat × Tok)} {n1 n2 : Nat} {m u : List (List Nat)} (hfr : A.frames = some [envK]) (hK : envK.frame = some K) (hkK : envK.scope.kind ≠ .module) (hdK : ∀ vs, oK.data ≠ .fields vs) (C : Cx A 3 20)
    (hx : F xl = some (lstObj (txs xs) n1)) (hy : F yl = some (lstObj (txs ys) n2)) (U : Sld (xs.map (·.1)) (ys.map (·.1)) m u) (hz : xs.length ≤ 1000 ∧ ys.length ≤ 1000)
    (S : St w h F ((K, oK) :: M0))
    (H : ∀ F' h' tk' a ml ul mt ut nm nu sl, Le F F' → St w h' F' ((K, { oK with slots := sl }) :: M0) → F' a = some (tupObj [.ref ml, .ref ul]) → F' ml = some (lstObj (txs mt) nm) → F' ul = some (lstObj (txs ut) nu) →
      mt.map (·.1) = m → ut.map (·.1) = u → Q (.ref a) ⟨h', g, d, tk', os⟩) : wpAny (model prog w) A (call (.ref 38) [.ref xl, .ref yl]) Q E ⟨h, g, d, tk, os⟩ := by
  refine enter (D := 2) (U := 17) (binds := [("expected", .ref xl), ("actual", .ref yl)]) C S (by exact rfl) (by exact rfl) (by exact rfl) (by exact rfl) ?_
  intro h1 tk1 L E' S1 C1
  refine x_assign2 ?_
  refine r_int ?_
  refine r_store S1 fun h2 tk2 S2 => ?_
  refine r_store S2 fun h3 tk3 S3 => ?_
  refine x_assign ?_
  refine r_list0 ?_
  have S4 := S3.push (o := lstObj [] 0) rfl
  refine r_store S4 fun h5 tk5 S5 => ?_
  generalize h3.objs.size = ml at S5
  refine x_assign ?_
  refine r_list0 ?_
  have S6 := S5.push (o := lstObj [] 0) rfl
  refine r_store S6 fun h7 tk7 S7 => ?_
  generalize h5.objs.size = ul at S7
  clear S1 S2 S3 S4 S5 S6
  refine xl_while ?_
  have hfrg : ∀ env : Env, (A.deeper env).frames = some [env, envK] := fun env => by show A.frames.map _ = _; rw [hfr]; rfl
  generalize hA : A.deeper _ = A1 at C1 ⊢
  have hfr1 := (congrArg Around.frames hA).symm.trans (hfrg _)
  clear hA
  show codeAny _ _ _ _ ⟨_, g, d, _, os⟩
  refine loop_while (n := xs.length + ys.length) (SldI F ul ml xl yl K oK M0 xs ys m u) ?_ S7
    ⟨rfl, 0, 0, _, _, [], [], 0, 0, oK.slots, m, u, by first | with_reducible assumption | decide | lia | omega, rfl, U, rfl, rfl, Nat.le_refl _, Nat.le_refl _, Nat.zero_le _, Nat.zero_le _, by exact rfl, by exact rfl, by exact rfl, by exact rfl, by exact rfl, by exact rfl⟩
  clear S7 U
  rintro n F' M' V' h4 tk4 E4 P hP hB X hX ⟨rfl, i, j, ti, tj, mt, ut, nm, nu, sl, m', u', hn, rfl, U, hm, hu, hmi, huj, hix, hjy, lx, ly, lm, lu, li, lj⟩ S4
  refine isT ?_
  refine wpAny_Constant_bool ?_
  refine truthy_b ?_
  first | with_reducible refine on_t rfl ?_ | refine on_t rfl ?_ | rw [if_pos rfl]
  refine wpAny_execs_cons ?_
  refine wpAny_Try_except ?_
  refine wpAny_mono (E := SldE w g d os F' ul ml xl yl K L oK M0 xs ys m u) ?_ (fun _ _ x => x) ?_
  · have hcons : ∃ e es a as, (fs xs).drop i = e :: es ∧ (fs ys).drop j = a :: as := by
      generalize (fs xs).drop i = X at U
      generalize (fs ys).drop j = Y at U
      cases U <;> exact ⟨_, _, _, _, rfl, rfl⟩
    obtain ⟨e, es, a, as, hxe, hya⟩ := hcons
    rw [hxe, hya] at U
    have hil : i < xs.length := by
      have z := congrArg List.length hxe
      rw [List.length_drop, List.length_map, List.length_cons] at z; first | with_reducible assumption | decide | lia | omega
    have hjl : j < ys.length := by
      have z := congrArg List.length hya
      rw [List.length_drop, List.length_map, List.length_cons] at z; first | with_reducible assumption | decide | lia | omega
    have hx1 : xs[i].1 = e ∧ (fs xs).drop (i + 1) = es := by
      rw [List.drop_eq_getElem_cons (by rw [List.length_map]; exact hil)] at hxe
      obtain ⟨z1, z2⟩ := List.cons.inj hxe
      exact ⟨by simpa using z1, z2⟩
    have hy1 : ys[j].1 = a ∧ (fs ys).drop (j + 1) = as := by
      rw [List.drop_eq_getElem_cons (by rw [List.length_map]; exact hjl)] at hya
      obtain ⟨z1, z2⟩ := List.cons.inj hya
      exact ⟨by simpa using z1, z2⟩
    refine x_assign ?_
    refine r_sub ?_
    refine r_name S4 lx ?_
    refine r_name S4 li ?_
    refine ⟨"list", _, ⟨_, S4.f hx, rfl⟩, PySem.F.slot_list_getitem.lookup, ?_⟩
    refine wpAny_getItem_list (items := (txs xs).toArray) ⟨_, S4.f hx, rfl, n1, rfl⟩ (by first | with_reducible assumption | decide | lia | omega) (by first | with_reducible assumption | decide | lia | omega) (x := .str (T xs[i].1) xs[i].2) (by rw [Int.toNat_natCast]; simp [txs, hil]) ?_
    rw [hx1.1]
    refine r_store S4 fun h5 tk5 S5 => ?_
    refine x_assign ?_
    refine r_sub ?_
    refine r_name S5 (by exact ly) ?_
    refine r_name S5 (by exact lj) ?_
    refine ⟨"list", _, ⟨_, S5.f hy, rfl⟩, PySem.F.slot_list_getitem.lookup, ?_⟩
    refine wpAny_getItem_list (items := (txs ys).toArray) ⟨_, S5.f hy, rfl, n2, rfl⟩ (by first | with_reducible assumption | decide | lia | omega) (by first | with_reducible assumption | decide | lia | omega) (x := .str (T ys[j].1) ys[j].2) (by rw [Int.toNat_natCast]; simp [txs, hjl]) ?_
    rw [hy1.1]
    refine r_store S5 fun h6 tk6 S6 => ?_
    refine x_if ?_
    refine wpAny_isTrue_Compare1 ?_
    refine r_name S6 (by exact rfl) ?_
    refine r_name S6 (by exact rfl) ?_
    first | with_reducible refine PySem.P.lt_str ?_ | refine PySem.P.lt_str ?_
    refine truthy_b ?_
    clear S4 S5
    have e1 : ((i : Nat) : Int) + 1 = ((i + 1 : Nat) : Int) := by first | with_reducible assumption | decide | lia | omega
    have e2 : ((j : Nat) : Int) + 1 = ((j + 1 : Nat) : Int) := by first | with_reducible assumption | decide | lia | omega
    have zx : (fs xs).drop xs.length = [] := List.drop_of_length_le (by rw [List.length_map]; exact Nat.le_refl _)
    have zy : (fs ys).drop ys.length = [] := List.drop_of_length_le (by rw [List.length_map]; exact Nat.le_refl _)
    by_cases hlt : e < a
    · rw [if_pos (decide_eq_true hlt)]
      refine x_expr ?_
      refine r_meth (v := .ref ml) S6 (by exact lm) ⟨_, S6.m (.tail _ (.head _)), rfl⟩ (fun b hb => by cases hb; exact ⟨_, S6.m (.tail _ (.head _)), rfl⟩) PySem.F.plainAttrs_list PySem.F.slot_list_append PySem.F.type_list_append ?_
      refine r_cwB1 ?_
      refine r_name S6 (by exact rfl) ?_
      refine wp_append (M1 := [_]) S6 (by rw [List.length_map, sizeLine_eq]; first | with_reducible assumption | decide | lia | omega) fun h7 n7 S7 => ?_
      refine x_aug ?_
      refine r_load S7 (by exact li) ?_
      refine r_int ?_
      first | with_reducible refine PySem.P.iadd_int ?_ | refine PySem.P.iadd_int ?_
      rw [e1]
      refine r_store S7 fun h8 tk8 S8 => ?_
      refine xl_while ?_
      refine skip_loop (M1 := [_, _]) (oK := { oK with slots := sl }) (envK := envK) (K := K) S8 hx hz.1 (by exact lx) (by exact rfl) (by exact rfl) hil (by decide) (by decide) ?_ ?_
      · intro j2 h9 tk9 V9 t9 hj1 hj2 hdr S9 kp vi
        refine x_nil ?_
        refine x_nil ?_
        refine x_nil ?_
        refine x_nil ?_
        have hdr2 : (fs xs).drop j2 = es.dropWhile (· == e) := by rw [← hx1.2]; exact hdr
        obtain ⟨m2, q1, q2⟩ := inv_lt U hlt (fun q => drop_ne hj2 (hdr2.trans q))
        exact hP ⟨n - (j2 - i), by first | with_reducible assumption | decide | lia | omega, .mk S9 ⟨rfl, j2, j, t9, tj, mt ++ [(e, xs[i].2)], ut, n7, nu, sl, m2, u', by first | with_reducible assumption | decide | lia | omega, by rw [txs_snoc]; rfl, by rw [hdr2, hya]; exact q2, snoc_cat (by rw [← q1]; exact hm), hu, by rw [List.length_append, List.length_singleton]; first | with_reducible assumption | decide | lia | omega, huj, by first | with_reducible assumption | decide | lia | omega, hjy, kp _ _ (by decide) (by exact lx), kp _ _ (by decide) (by exact ly), kp _ _ (by decide) (by exact lm), kp _ _ (by decide) (by exact lu), vi, kp _ _ (by decide) (by exact lj)⟩⟩
      · intro hnil
        rw [show (fs xs).drop (i + 1) = es from hx1.2] at hnil
        have SLe := inv_ltEnd U hlt hnil
        have q1 := SLe.1
        have q2 := SLe.2
        clear SLe
        refine ⟨C1.hd, hfr1, hK, hkK, hdK, fun h9 tk9 V9 t9 x sl9 R9 kp vi => ?_⟩
        refine came_back R9 fun h10 R10 => ?_
        exact ⟨x, h10, tk9, V9, sl9, t9, tj, xs.length, j, mt ++ [(e, xs[i].2)], ut, n7, nu, rfl, rfl, by rw [txs_snoc]; exact R10, by rw [zx]; exact snoc_cat (by rw [← q1]; exact hm), by rw [hya, ← q2]; exact hu, by rw [List.length_append, List.length_singleton]; first | with_reducible assumption | decide | lia | omega, by first | with_reducible assumption | decide | lia | omega, Nat.le_refl _, hjy, kp _ _ (by decide) (by exact lx), kp _ _ (by decide) (by exact ly), kp _ _ (by decide) (by exact lm), kp _ _ (by decide) (by exact lu), vi, kp _ _ (by decide) (by exact lj)⟩
    first | refine on_f (fun q => hlt (of_decide_eq_true q)) ?_ | rw [if_neg (fun q => hlt (of_decide_eq_true q))]
    refine x_if ?_
    refine wpAny_isTrue_Compare1 ?_
    refine r_name S6 (by exact rfl) ?_
    refine r_name S6 (by exact rfl) ?_
    first | with_reducible refine PySem.P.gt_str ?_ | refine PySem.P.gt_str ?_
    refine truthy_b ?_
    by_cases hgt : a < e
    · rw [if_pos (decide_eq_true hgt)]
      refine x_expr ?_
      refine r_meth (v := .ref ul) S6 (by exact lu) ⟨_, S6.m (.head _), rfl⟩ (fun b hb => by cases hb; exact ⟨_, S6.m (.head _), rfl⟩) PySem.F.plainAttrs_list PySem.F.slot_list_append PySem.F.type_list_append ?_
      refine r_cwB1 ?_
      refine r_name S6 (by exact rfl) ?_
      refine wp_append (M1 := []) S6 (by rw [List.length_map, sizeLine_eq]; first | with_reducible assumption | decide | lia | omega) fun h7 n7 S7 => ?_
      refine x_aug ?_
      refine r_load S7 (by exact lj) ?_
      refine r_int ?_
      first | with_reducible refine PySem.P.iadd_int ?_ | refine PySem.P.iadd_int ?_
      rw [e2]
      refine r_store S7 fun h8 tk8 S8 => ?_
      refine xl_while ?_
      refine skip_loop (M1 := [_, _]) (oK := { oK with slots := sl }) (envK := envK) (K := K) S8 hy hz.2 (by exact ly) (by exact rfl) (by exact rfl) hjl (by decide) (by decide) ?_ ?_
      · intro j2 h9 tk9 V9 t9 hj1 hj2 hdr S9 kp vi
        refine x_nil ?_
        refine x_nil ?_
        refine x_nil ?_
        refine x_nil ?_
        refine x_nil ?_
        have hdr2 : (fs ys).drop j2 = as.dropWhile (· == a) := by rw [← hy1.2]; exact hdr
        obtain ⟨u2, q1, q2⟩ := inv_gt U hgt (fun q => drop_ne hj2 (hdr2.trans q))
        exact hP ⟨n - (j2 - j), by first | with_reducible assumption | decide | lia | omega, .mk S9 ⟨rfl, i, j2, ti, t9, mt, ut ++ [(a, ys[j].2)], nm, n7, sl, m', u2, by first | with_reducible assumption | decide | lia | omega, by rw [txs_snoc]; rfl, by rw [hdr2, hxe]; exact q2, hm, snoc_cat (by rw [← q1]; exact hu), hmi, by rw [List.length_append, List.length_singleton]; first | with_reducible assumption | decide | lia | omega, hix, by first | with_reducible assumption | decide | lia | omega, kp _ _ (by decide) (by exact lx), kp _ _ (by decide) (by exact ly), kp _ _ (by decide) (by exact lm), kp _ _ (by decide) (by exact lu), kp _ _ (by decide) (by exact li), vi⟩⟩
      · intro hnil
        rw [show (fs ys).drop (j + 1) = as from hy1.2] at hnil
        have SLe := inv_gtEnd U hgt hnil
        have q1 := SLe.1
        have q2 := SLe.2
        clear SLe
        refine ⟨C1.hd, hfr1, hK, hkK, hdK, fun h9 tk9 V9 t9 x sl9 R9 kp vi => ?_⟩
        refine came_back R9 fun h10 R10 => ?_
        exact ⟨x, h10, tk9, V9, sl9, ti, t9, i, ys.length, mt, ut ++ [(a, ys[j].2)], nm, n7, rfl, rfl, by rw [txs_snoc]; exact R10, by rw [hxe, ← q1]; exact hm, by rw [zy]; exact snoc_cat (by rw [← q2]; exact hu), by first | with_reducible assumption | decide | lia | omega, by rw [List.length_append, List.length_singleton]; first | with_reducible assumption | decide | lia | omega, hix, Nat.le_refl _, kp _ _ (by decide) (by exact lx), kp _ _ (by decide) (by exact ly), kp _ _ (by decide) (by exact lm), kp _ _ (by decide) (by exact lu), kp _ _ (by decide) (by exact li), vi⟩
    first | refine on_f (fun q => hgt (of_decide_eq_true q)) ?_ | rw [if_neg (fun q => hgt (of_decide_eq_true q))]
    have hea : e = a := List.le_antisymm hgt hlt
    subst hea
    refine x_aug ?_
    refine r_load S6 (by exact li) ?_
    refine r_int ?_
    first | with_reducible refine PySem.P.iadd_int ?_ | refine PySem.P.iadd_int ?_
    rw [e1]
    refine r_store S6 fun h8 tk8 S8 => ?_
    refine wpAny_execs_cons ?_
    refine wpAny_Try_finally ?_
    refine xl_while ?_
    refine skip_loop (M1 := [_, _]) (oK := { oK with slots := sl }) (envK := envK) (K := K) S8 hx hz.1 (by exact lx) (by exact rfl) (by exact rfl) hil (by decide) (by decide) ?_ ?_
    · intro j2 h9 tk9 V9 t9 hj1 hj2 hdr S9 kp vi
      refine x_nil ?_
      refine x_nil ?_
      have hdr2 : (fs xs).drop j2 = es.dropWhile (· == e) := by rw [← hx1.2]; exact hdr
      have hne : es.dropWhile (· == e) ≠ [] := fun q => drop_ne hj2 (hdr2.trans q)
      have lx2 := kp _ _ (by decide) (show Has _ "expected" (.ref xl) from lx)
      have ly2 := kp _ _ (by decide) (show Has _ "actual" (.ref yl) from ly)
      have lm2 := kp _ _ (by decide) (show Has _ "missing" (.ref ml) from lm)
      have lu2 := kp _ _ (by decide) (show Has _ "unexpected" (.ref ul) from lu)
      have lj2 := kp _ _ (by decide) (show Has _ "j" (.int (j : Nat) tj) from lj)
      have la2 := kp "a" (.str (T e) _) (by decide) rfl
      refine x_aug ?_
      refine r_load S9 lj2 ?_
      refine r_int ?_
      first | with_reducible refine PySem.P.iadd_int ?_ | refine PySem.P.iadd_int ?_
      rw [e2]
      refine r_store S9 fun h10 tk10 S10 => ?_
      refine xl_while ?_
      refine skip_loop (M1 := [_, _]) (oK := { oK with slots := sl }) (envK := envK) (K := K) S10 hy hz.2 (by exact ly2) (by exact rfl) (by exact la2) hjl (by decide) (by decide) ?_ ?_
      · intro j3 h11 tk11 V11 t11 hj3 hj4 hdr3 S11 kp3 vi3
        refine x_nil ?_
        have hdr4 : (fs ys).drop j3 = as.dropWhile (· == e) := by rw [← hy1.2]; exact hdr3
        have U2 := inv_eq U hne (fun q => drop_ne hj4 (hdr4.trans q))
        refine x_nil ?_
        refine x_nil ?_
        refine x_nil ?_
        refine x_nil ?_
        refine x_nil ?_
        exact hP ⟨n - ((j2 - i) + (j3 - j)), by first | with_reducible assumption | decide | lia | omega, .mk S11 ⟨rfl, j2, j3, t9, t11, mt, ut, nm, nu, sl, m', u', by first | with_reducible assumption | decide | lia | omega, rfl, by rw [hdr2, hdr4]; exact U2, hm, hu, by first | with_reducible assumption | decide | lia | omega, by first | with_reducible assumption | decide | lia | omega, by first | with_reducible assumption | decide | lia | omega, by first | with_reducible assumption | decide | lia | omega, kp3 _ _ (by decide) (by exact lx2), kp3 _ _ (by decide) (by exact ly2), kp3 _ _ (by decide) (by exact lm2), kp3 _ _ (by decide) (by exact lu2), kp3 _ _ (by decide) (by exact vi), vi3⟩⟩
      · intro hnil
        rw [show (fs ys).drop (j + 1) = as from hy1.2] at hnil
        have SLe := inv_eqEndA U hne hnil
        have q1 := SLe.1
        have q2 := SLe.2
        clear SLe
        refine ⟨C1.hd, hfr1, hK, hkK, hdK, fun h11 tk11 V11 t11 x sl11 R11 kp3 vi3 => ?_⟩
        refine came_back R11 fun h12 R12 => ?_
        refine note_again R12 ?_
        refine came_back R12 fun h13 R13 => ?_
        exact ⟨x, h13, tk11, V11, sl11, t9, t11, j2, ys.length, mt, ut, nm, nu, rfl, rfl, R13, by rw [hdr2, ← q1]; exact hm, by rw [zy, ← q2]; exact hu, by first | with_reducible assumption | decide | lia | omega, by first | with_reducible assumption | decide | lia | omega, by first | with_reducible assumption | decide | lia | omega, Nat.le_refl _, kp3 _ _ (by decide) (by exact lx2), kp3 _ _ (by decide) (by exact ly2), kp3 _ _ (by decide) (by exact lm2), kp3 _ _ (by decide) (by exact lu2), kp3 _ _ (by decide) (by exact vi), vi3⟩
    · intro hnil
      rw [show (fs xs).drop (i + 1) = es from hx1.2] at hnil
      refine ⟨C1.hd, hfr1, hK, hkK, hdK, fun h9 tk9 V9 t9 x sl9 R9 kp vi => ?_⟩
      refine came_back R9 fun hb Rb => ?_
      refine note_again Rb ⟨ref_ne_byPass _, note_again Rb (set_flight (x := none) Rb fun hc Rc => ?_)⟩
      obtain ⟨Tt, oe, oT, vs, ts, S9, f1, f2, f3, f4, f5⟩ := Rc
      have lx2 := kp _ _ (by decide) (show Has _ "expected" (.ref xl) from lx)
      have ly2 := kp _ _ (by decide) (show Has _ "actual" (.ref yl) from ly)
      have lm2 := kp _ _ (by decide) (show Has _ "missing" (.ref ml) from lm)
      have lu2 := kp _ _ (by decide) (show Has _ "unexpected" (.ref ul) from lu)
      have lj2 := kp _ _ (by decide) (show Has _ "j" (.int (j : Nat) tj) from lj)
      have la2 := kp "a" (.str (T e) _) (by decide) rfl
      refine x_aug ?_
      refine r_load S9 lj2 ?_
      refine r_int ?_
      first | with_reducible refine PySem.P.iadd_int ?_ | refine PySem.P.iadd_int ?_
      rw [e2]
      refine r_store S9 fun h10 tk10 S10 => ?_
      refine xl_while ?_
      refine skip_loop (M1 := [_, _, _, _]) (oK := { oK with slots := sl9 }) (envK := envK) (K := K) S10 hy hz.2 (by exact ly2) (by exact rfl) (by exact la2) hjl (by decide) (by decide) ?_ ?_
      · intro j3 h11 tk11 V11 t11 hj3 hj4 hdr3 S11 kp3 vi3
        refine x_nil ?_
        have hdr4 : (fs ys).drop j3 = as.dropWhile (· == e) := by rw [← hy1.2]; exact hdr3
        have SLe := (inv_eqEndE U hnil).2
        have q1 := SLe.1
        have q2 := SLe.2
        clear SLe
        refine pass_on (X := "IndexError") (M := (ul, lstObj (txs ut) nu) :: (ml, lstObj (txs mt) nm) :: (K, { oK with slots := sl9 }) :: M0) ⟨Tt, oe, oT, vs, ts, S11, f1, f2, f3, f4, f5⟩ fun h13 R13 => ?_
        exact ⟨x, h13, tk11, V11, sl9, t9, t11, xs.length, j3, mt, ut, nm, nu, rfl, rfl, R13, by rw [zx, ← q1]; exact hm, by rw [hdr4, ← q2]; exact hu, by first | with_reducible assumption | decide | lia | omega, by first | with_reducible assumption | decide | lia | omega, Nat.le_refl _, by first | with_reducible assumption | decide | lia | omega, kp3 _ _ (by decide) (by exact lx2), kp3 _ _ (by decide) (by exact ly2), kp3 _ _ (by decide) (by exact lm2), kp3 _ _ (by decide) (by exact lu2), kp3 _ _ (by decide) (by exact vi), vi3⟩
      · intro hnil2
        rw [show (fs ys).drop (j + 1) = as from hy1.2] at hnil2
        exact absurd hnil2 (inv_eqEndE U hnil).1
  · rintro v s ⟨x, h5, tk5, V5, sl5, ti5, tj5, i5, j5, mt5, ut5, nm5, nu5, rfl, rfl, R5, hm5, hu5, hz5, hz6, hi5, hj5, lx, ly, lm, lu, li, lj⟩
    refine note_again R5 ?_
    refine set_flight (x := none) R5 fun h6 R6 => ?_
    refine handle R6 (by exact rfl) (by exact rfl) (by decide) exc_index.1 exc_index.2.1 exc_index.2.2 fun h7 E7 S7 => ?_
    refine x_expr ?_
    refine r_meth (v := .ref ml) S7 lm ⟨_, S7.m (.tail _ (.head _)), rfl⟩ (fun b hb => by cases hb; exact ⟨_, S7.m (.tail _ (.head _)), rfl⟩) PySem.F.plainAttrs_list PySem.F.slot_list_extend PySem.F.type_list_extend ?_
    refine r_cwB1 ?_
    refine r_lfrom S7 lx hx (by rw [List.length_map]; first | with_reducible assumption | decide | lia | omega) ?_
    refine r_name S7 li ?_
    refine ⟨i5, _, _, rfl, rfl, fun F8 h8 c1 le8 S8 o1 => ?_⟩
    refine wp_extend (M1 := [_]) S8 (S8.f o1) (by rw [List.length_drop, List.length_map, List.length_map]; first | with_reducible assumption | decide | lia | omega) fun h9 n9 S9 => ?_
    refine x_expr ?_
    refine r_meth (v := .ref ul) S9 lu ⟨_, S9.m (.head _), rfl⟩ (fun b hb => by cases hb; exact ⟨_, S9.m (.head _), rfl⟩) PySem.F.plainAttrs_list PySem.F.slot_list_extend PySem.F.type_list_extend ?_
    refine r_cwB1 ?_
    refine r_lfrom S9 ly (le8 _ _ hy) (by rw [List.length_map]; first | with_reducible assumption | decide | lia | omega) ?_
    refine r_name S9 lj ?_
    refine ⟨j5, _, _, rfl, rfl, fun F10 h10 c2 le10 S10 o2 => ?_⟩
    refine wp_extend (M1 := []) S10 (S10.f o2) (by rw [List.length_drop, List.length_map, List.length_map]; first | with_reducible assumption | decide | lia | omega) fun h11 n11 S11 => ?_
    refine x_brk ?_
    refine hB ?_
    refine x_ret ?_
    refine r_tup2 ?_
    refine r_name S11 lm ?_
    refine r_name S11 lu ?_
    have SLe := Sf.freeze (S11 : Sf _ _ _ (_ :: _) _ _)
    have S12 := SLe.1
    have le12 := SLe.2
    clear SLe
    have SLe := Sf.freeze (S12 : Sf _ _ _ (_ :: _) _ _)
    have S13 := SLe.1
    have le13 := SLe.2
    clear SLe
    have SLe := S13.pushF (o := tupObj [.ref ml, .ref ul]) rfl
    have S14 := SLe.1
    have le14 := SLe.2
    clear SLe
    have e1 : txs mt5 ++ (txs xs).drop i5 = txs (mt5 ++ xs.drop i5) := by rw [txs, txs, txs, List.map_append, List.map_drop]
    have e2 : txs ut5 ++ (txs ys).drop j5 = txs (ut5 ++ ys.drop j5) := by rw [txs, txs, txs, List.map_append, List.map_drop]
    refine H _ _ _ _ ml ul (mt5 ++ xs.drop i5) (ut5 ++ ys.drop j5) n9 n11 sl5 (le8.trans (le10.trans (le12.trans (le13.trans le14)))) S14.st (ins_self _ _ _) ?_ ?_ ?_ ?_
    · rw [← e1]; exact le14 _ _ (ins_self _ _ _)
    · rw [← e2]; exact le14 _ _ (le13 _ _ (ins_self _ _ _))
    · rw [List.map_append, List.map_drop]; exact hm5
    · rw [List.map_append, List.map_drop]; exact hu5
end
end Mine
end
section
open PySem PySem.W PyProof.Rows PySem.Calls
set_option autoImplicit false
set_option maxRecDepth 100000
namespace Mine
section
variable {prog : Program} {w : World} {A : Around} {E : Value → Shared → Prop} {h : Heap} {F : Fz} {M : List (Addr × Obj)} {V : List (Str × Value)} {g : Array GenState} {d : Drawn} {tk : Nat} {os : OsState} {env : Env}
theorem g_name {x : Str} {pos : Pos} {v : Value} {Q : Value → Shared → Prop} (S : Sf w h F M env.locals V) (hv : V.lookup x = some v) (H : Q v ⟨h, g, d, tk, os⟩)
    (hk : env.scope.kind = .function := by rfl) (hl : env.kindOf x = some .local := by rfl) (hd : (x == ("__debug__" : Str)) = false := by decide) :
    wpAny (model prog w) A (eval (.Name x pos) env) Q E ⟨h, g, d, tk, os⟩ :=
  let ⟨_, n, f⟩ := S.ns
  wpAny_Name (wpAny_loadName_local hk hl n (f _ _ hv) H) hd
theorem g_cell {x : Str} {pos : Pos} {v : Value} {c : Addr} {Q : Value → Shared → Prop} (hc : env.cells.lookup x = some c) (hv : h.IsCell c (some v)) (H : Q v ⟨h, g, d, tk, os⟩)
    (hk : env.scope.kind = .function := by rfl) (hl : env.kindOf x = some .cell := by rfl) (hd : (x == ("__debug__" : Str)) = false := by decide) :
    wpAny (model prog w) A (eval (.Name x pos) env) Q E ⟨h, g, d, tk, os⟩ := wpAny_Name (wpAny_loadName_cell hk hl hc hv H) hd
theorem g_store {x : Str} {v : Value} {Q : Unit → Shared → Prop} (S : Sf w h F M env.locals V) (H : ∀ h' tk', Sf w h' F M env.locals ((x, v) :: V) → Q () ⟨h', g, d, tk', os⟩)
    (hk : env.scope.kind = .function := by rfl) (hl : env.kindOf x = some .local := by rfl) :
    wpAny (model prog w) A (storeName env x v) Q E ⟨h, g, d, tk, os⟩ :=
  let ⟨_, n, _⟩ := S.ns
  wpAny_storeName_local hl n (fun h' hn hs => H h' _ (S.sto n hn hs)) (by show (env.scope.kind == .class || (env.scope.kind == .module && env.locals != env.globals)) = false; rw [hk]; rfl)
theorem g_builtin {x : Str} {pos : Pos} {v : Value} {L : Addr} {Q : Value → Shared → Prop} (S : Sf w h F M L V) (hg : env.globals = mainGlobals) (hb : env.builtins = builtinsNs) (e : nsIn (KF w) mainGlobals x = some none) (hv : bootBuiltins x = some v) (hn : x ≠ "__name__") (H : Q v ⟨h, g, d, tk, os⟩)
    (hk : env.scope.kind = .function := by rfl) (hl : env.kindOf x = some .globalImplicit := by rfl) (hd : (x == ("__debug__" : Str)) = false := by decide) :
    wpAny (model prog w) A (eval (.Name x pos) env) Q E ⟨h, g, d, tk, os⟩ := by
  obtain ⟨mg, mb, h1, h2, _⟩ := S.st.b.glob
  have n := h1 h fun a o e => S.f e
  have X : (KF w).In h := fun a o e => S.f (S.st.b.k _ _ e)
  refine Name_function_global hk hl (loadGlobal_builtin (mg := mg) (mb := mb) ?_ (mg_none_of X n.1 e) ?_ ((h2 x hn).trans hv) H) hd
  · show h.Ns env.globals mg
    rw [hg]; exact n.1
  · show h.Ns env.builtins mb
    rw [hb]; exact n.2.1
/- a list comprehension of one clause, turn by turn -/
theorem comp_turns {elt target iter : Expr} {scope : Scope} {pos : Pos} {it acc : Value} {R : Result → Shared → Prop} {s : Shared} (I : Nat → Shared → Prop)
    (turn : ∀ n s (E' : Value → Shared → Prop) (P X : Shared → Prop), (∀ {s}, (∃ m, m < n ∧ I m s) → P s) → (∀ {s}, R (.ok .next) s → X s) → I n s → wpAny (model prog w) A (pyNext it) (fun r s₁ => match r with
      | none => X s₁
      | some v => wpAny (model prog w) A (letOwnedTupleGo target it v) (fun _ s₀ => wpAny (model prog w) A (assign target env v) (fun _ s₂ => wpAny (model prog w) A (eval elt env) (fun x s₃ =>
          wpAny (model prog w) A (call (.builtin "list.append") [acc, x]) (fun _ s₄ => P s₄) E' s₃) E' s₂) E' s₀) E' s₁) E' s)
    (n : Nat) (h : I n s) : codeAny (model prog w) A (.compLoop (.ListComp elt [⟨target, iter, [], 0⟩] scope pos) 0 it acc env) R s := by
  refine codeAny_loop rfl I (fun n s hI => ?_) n h
  show wpAny _ _ ((compTurn (.ListComp elt [⟨target, iter, [], 0⟩] scope pos) 0 it acc env).onRaise (fun x => do noteFrame x env; theTreesLotGoes x)) _ _ s
  refine wpAny_noted ?_
  rw [compTurn_list1]
  refine wpAny_bind (wpAny_standAt (wpAny_bind (wpAny_mono (turn n s _ (fun s => ∃ m, m < n ∧ I m s) (R (.ok .next)) (fun q => q) (fun q => q) hI) (fun r s₁ h₁ => ?_) fun _ _ h' => h')))
  cases r with
  | none => exact wpAny_pure h₁
  | some v =>
    refine wpAny_bind (wpAny_mono h₁ (fun _ s₀ h₀ => ?_) fun _ _ h' => h')
    exact wpAny_bind (wpAny_mono h₀ (fun _ s₂ h₂ => wpAny_bind (wpAny_bind (wpAny_mono h₂ (fun x s₃ h₃ => wpAny_bind (wpAny_mono h₃
      (fun _ s₄ h₄ => wpAny_pure (wpAny_pure ⟨rfl, h₄⟩)) fun _ _ h' => h')) fun _ _ h' => h'))) fun _ _ h' => h')
end
theorem slice_ints {vs : Array Value} (H : AllInts vs) (lo hi st : Option Int) : AllInts (slicePick vs lo hi st) := by
  intro v hv
  unfold slicePick at hv
  rw [List.mem_toArray, List.mem_filterMap] at hv
  obtain ⟨i, _, e⟩ := hv
  exact H v (Array.mem_of_getElem? e)
theorem St.add {w : World} {h : Heap} {F : Fz} {M : List (Addr × Obj)} {a : Addr} {o : Obj} (S : St w h F M) (ho : h.get? a = some o) (hf : F a = none) (hm : ∀ p ∈ M, p.1 ≠ a) (h1 : a ≠ 79) (h2 : a ≠ 96) : St w h F ((a, o) :: M) := by
  refine ⟨S.b, S.f, fun p hp => ?_, ?_, fun p hp => ?_, S.t1, fun p hp => ?_, S.t3⟩
  · rcases List.mem_cons.mp hp with rfl | hp
    · exact ho
    · exact S.m p hp
  · rw [List.map_cons, List.nodup_cons]
    refine ⟨fun hq => ?_, S.nd⟩
    obtain ⟨p, hp, e⟩ := List.mem_map.mp hq
    exact hm p hp e
  · rcases List.mem_cons.mp hp with rfl | hp
    · exact hf
    · exact S.fm p hp
  · rcases List.mem_cons.mp hp with rfl | hp
    · exact ⟨h1, h2⟩
    · exact S.t2 p hp
section
variable {prog : Program} {w : World} {A : Around} {E : Value → Shared → Prop} {h : Heap} {F : Fz} {M : List (Addr × Obj)} {L a c sl : Addr} {V : List (Str × Value)} {g : Array GenState} {d : Drawn} {tk : Nat} {os : OsState}
  {cn : Str} {cs : Scope} {cd : Value} {cl : List (Str × Addr)} {env : Env}
theorem comp_enter {e : Expr} {elt target iter : Expr} {scope : Scope} {pos : Pos} {it : Addr} {RR : Value → Addr → Result → Shared → Prop} (S : St w h F M) (he : e = .ListComp elt [⟨target, iter, [], 0⟩] scope pos)
    (hcell : ∀ y ∈ scope.names, y.2 ≠ .cell) (hkind : scope.kind = .function)
    (hself : ∀ (h' : Heap) tk' (E' : Value → Shared → Prop) (Q' : Value → Shared → Prop), (∀ b o, h.get? b = some o → h'.get? b = some o) → Q' (.ref it) ⟨h', g, d, tk', os⟩ → wpAny (model prog w) A (pyIter (.ref it)) Q' E' ⟨h', g, d, tk', os⟩)
    (H : ∀ h' tk' acc C, (∀ b o, h.get? b = some o → h'.get? b = some o) → Sf w h' F ((acc, lstObj [] 0) :: M) C [] → codeAny (model prog w) A (.compLoop e 0 (.ref it) (.ref acc) (compEnvC scope cl C env)) (RR (.ref acc) C) ⟨h', g, d, tk', os⟩) :
    wpAny (model prog w) A (newList []) (fun acc s₃ => wpAny (model prog w) A (newFunctionEnv scope env.globals cl [] env.qual none .none (some env)) (fun cenv s₄ =>
      codeAny (model prog w) A (.compStart e 0 (.ref it) acc { cenv with scope := relabel scope env }) (RR acc cenv.locals) s₄) E s₃) E ⟨h, g, d, tk, os⟩ := by
  subst he
  refine wpAny_newObj_type (wpAny_newFunctionEnv hcell (by intro y hy; simp at hy) (fun h₁ hns hsb => ?_) hkind)
  have S1 := S.push (o := lstObj [] 0) rfl
  dsimp only at hns hsb ⊢
  have k0 : ∀ b o, h.get? b = some o → h₁.get? b = some o := fun b o e => hsb.extBut b o (Nat.ne_of_lt (Nat.lt_trans (Heap.lt_size e) (by rw [Heap.size_push]; exact Nat.lt_succ_self _))) (Heap.get?_push_of_some _ (Heap.get?_push_of_some _ e))
  obtain ⟨o2, es2, ep2, e2, d2, kk2, f2⟩ := hns
  have S2 : Sf w h₁ F ((h.objs.size, lstObj [] 0) :: M) (h.push (lstObj [] 0)).objs.size [] :=
    ⟨o2, S1.newAt (fun b o e => hsb.extBut b o (Nat.ne_of_lt (Heap.lt_size e)) (Heap.get?_push_of_some _ e)) (Nat.le_refl _) e2, es2, ep2, d2, kk2, fun x v hx => by cases hx⟩
  have go := H h₁ (tk + ([] : List (Str × Value)).length) _ _ k0 S2
  exact codeAny_compStart_list go (hself _ _ _ _ k0 go)
theorem g_unpack2 {x y : Str} {p1 p2 p : Pos} {k : Nat} {t : Addr} {u v : Value} {n : Nat} {Q : Unit → Shared → Prop} (hh : A.handled = none) (S : Sf w h F M env.locals V) (ht : h.get? t = some { cls := .type "tuple", data := .seq #[u, v] n })
    (H : ∀ h' tk', (∀ b o, F b = some o → h'.get? b = some o) → Sf w h' F M env.locals ((y, v) :: (x, u) :: V) → Q () ⟨h', g, d, tk', os⟩)
    (hk : env.scope.kind = .function := by rfl) (hl1 : env.kindOf x = some .local := by rfl) (hl2 : env.kindOf y = some .local := by rfl) :
    wpAny (model prog w) A (assign (.Tuple [.Name x p1, .Name y p2] k p) env (.ref t)) Q E ⟨h, g, d, tk, os⟩ := by
  refine wpAny_assign_Tuple (items := #[u, v]) hh ⟨_, ht, rfl, n, rfl⟩ rfl rfl fun h' hx => ?_
  have k' : ∀ b o, h.get? b = some o → h'.get? b = some o := fun b o e => hx b o (Nat.ne_of_lt (Heap.lt_size e)) e
  show wpAny _ _ (do holding [v] (assign (.Name x p1) env u); (do holding [] (assign (.Name y p2) env v); pure ())) _ _ _
  refine wpAny_bind (wpAny_holding (wpAny_assign_Name (g_store (S.ext k') (fun h1 t1 S1 => wpAny_bind (wpAny_holding (wpAny_assign_Name (g_store S1 (fun h2 t2 S2 => wpAny_pure (H h2 t2 (fun _ _ e => S2.f e) S2)) hk hl2)))) hk hl1)))
/- the enumerate object of a comprehension, step by step -/
structure EnumO (o : Obj) (it : Addr) (i : Int) : Prop where
  eq : ∃ old, o = { cls := .type "enumerate", dict := none, data := .fields #[.none, .bool false, .ref it, rawInt i, .none, old], slots := #[] }
noncomputable abbrev figScope : Scope := { kind := .function, names := [(".0", .local), ("k", .local), ("start", .local), ("sum", .globalImplicit), ("script", .free)], isGenerator := false, isCoroutine := false, more := [] }
noncomputable abbrev figElt (q1 q2 q3 q4 q5 q6 q7 q8 q9 : Pos) (k1 : Nat) : Expr := .BinOp (.Name "start" q1) .Add (.Call (.Name "sum" q2) [.Subscript (.Name "script" q3) (.Slice (some (.Name "k" q4)) none (some (.Constant (.int 3) k1 q5)) q6) q7] [] q8) q9
/- one figure -/
theorem fig_elt {q1 q2 q3 q4 q5 q6 q7 q8 q9 : Pos} {k1 : Nat} {oc osl : Obj} {items : Array Value} {nn : Nat} {i st : Int} {t1 t2 : Tok} {Q : Value → Shared → Prop}
    (hh : A.handled = none) (S : Sf w h F M env.locals V) (vk : Has V "k" (.int i t1)) (vs : Has V "start" (.int st t2)) (hg : env.globals = mainGlobals) (hb : env.builtins = builtinsNs) (hce : env.cells.lookup ("script" : Str) = some c)
    (hc : h.get? c = some oc) (hoc : oc.data = .cell (some (.ref sl))) (hsl : F sl = some osl) (hs1 : osl.cls = .type "list") (hs2 : osl.data = .seq items nn) (hI : AllInts items) (hz : items.size ≤ 2 ^ 20)
    (H : ∀ h' tk' z t, Sf w h' F M env.locals V → Q (.int z t) ⟨h', g, d, tk', os⟩)
    (hk : env.scope.kind = .function) (l1 : env.kindOf "start" = some .local) (l2 : env.kindOf "sum" = some .globalImplicit) (l3 : env.kindOf "script" = some .cell) (l4 : env.kindOf "k" = some .local)
    (hst : starEach [.Subscript (.Name "script" q3) (.Slice (some (.Name "k" q4)) none (some (.Constant (.int 3) k1 q5)) q6) q7] env = [(false, eval (.Subscript (.Name "script" q3) (.Slice (some (.Name "k" q4)) none (some (.Constant (.int 3) k1 q5)) q6) q7) env)] := by rfl) :
    wpAny (model prog w) A (eval (figElt q1 q2 q3 q4 q5 q6 q7 q8 q9 k1) env) Q E ⟨h, g, d, tk, os⟩ := by
  refine wpAny_BinOp ?_
  refine g_name S vs ?_ hk l1
  refine r_call ?_
  refine g_builtin S hg hb (by exact rfl) (v := .builtin "sum") (by exact rfl) (by decide) ?_ hk l2
  refine r_cwB1 ?_ hst
  refine r_sub ?_
  refine g_cell hce ⟨oc, hc, hoc⟩ ?_ hk l3
  refine wpAny_Slice ?_
  refine wpAny_evalPart_some ?_
  refine g_name S vk ?_ hk l4
  refine wpAny_evalPart_none ?_
  refine wpAny_evalPart_some ?_
  refine r_int ?_
  have S1 := S.ext (h' := h.push { cls := .type "slice", data := .fields #[.int i t1, .none, .int 3 tk] }) (fun _ _ e => Heap.get?_push_of_some _ e)
  refine ⟨"list", _, ⟨osl, S1.f hsl, hs1⟩, PySem.F.slot_list_getitem.lookup, ?_⟩
  refine wpAny_getItem_list_slice (items := items) (lo := some i) (hi := none) (st := some 3) ⟨_, S1.f hsl, hs1, nn, hs2⟩ (Heap.IsSliceOf.new h _ _ _) (.int _ _) .none (.int _ _) (by decide) ?_ (by rw [sizeLine_eq]; first | with_reducible assumption | decide | lia | omega)
  obtain ⟨xs, hxs⟩ := (slice_ints hI (some i) none (some 3)).items
  rw [hxs]
  generalize hh2 : (h.push { cls := .type "slice", data := .fields #[.int i t1, .none, .int 3 tk] }) = h2 at S1 ⊢
  have S2 := S1.ext (h' := h2.push { cls := .type "list", data := .seq (intItems xs) }) (fun _ _ e => Heap.get?_push_of_some _ e)
  refine sum_intListG hh ⟨_, Heap.get?_push_size _ rfl, rfl, _, rfl⟩ fun h3 tk3 t3 k3 => ?_
  first | with_reducible refine PySem.P.add_int ?_ | refine PySem.P.add_int ?_
  exact H _ _ _ _ (S2.ext k3)
theorem r_cwT1 {pos p : Pos} {Ty : String} {e1 : Expr} {s : Shared} {Q : Value → Shared → Prop} (H : wpAny (model prog w) A (eval e1 env) (fun v s₁ => wpAny (model prog w) A (call (.type Ty) [v]) Q E s₁) E s)
    (hst : starEach [e1] env = [(false, eval e1 env)] := by rfl) : wpAny (model prog w) A (callWith pos (.type Ty) [] (backTo p (starEach [e1] env)) []) Q E s := by
  rw [hst]
  exact PyProof.Rows.callWith_type rfl (evalArgs_plain (spliced_cons (wpAny_mono H (fun _ _ z => spliced_nil z) fun _ _ e => e)))
theorem r_list3 {e1 e2 e3 : Expr} {pos : Pos} {Q : Value → Shared → Prop} {s : Shared}
    (H : wpAny (model prog w) A (eval e1 env) (fun v s₁ => wpAny (model prog w) A (eval e2 env) (fun u s₂ => wpAny (model prog w) A (eval e3 env) (fun x s₃ => Q (.ref s₃.heap.objs.size) { s₃ with heap := s₃.heap.push (lstObj [v, u, x] 0) }) E s₂) E s₁) E s)
    (hst : starEach [e1, e2, e3] env = [(false, eval e1 env), (false, eval e2 env), (false, eval e3 env)] := by rfl) : wpAny (model prog w) A (eval (.List [e1, e2, e3] pos) env) Q E s := by
  refine wpAny_List_spliced ?_
  rw [hst]
  exact spliced_cons (wpAny_mono H (fun _ _ z => spliced_cons (wpAny_mono z (fun _ _ y => spliced_cons (wpAny_mono y (fun _ _ x => spliced_nil ⟨by show (3 : Nat) ≤ _; rw [sizeLine_eq]; first | with_reducible assumption | decide | lia | omega, x⟩) fun _ _ e => e)) fun _ _ e => e)) fun _ _ e => e)
theorem St.remap2 {h' : Heap} {X1 X2 : List (Addr × Obj)} {e it : Addr} {oe oi oe' oi' : Obj} (S : St w h F (X1 ++ (e, oe) :: (it, oi) :: X2)) (h1 : h'.get? e = some oe') (h2 : h'.get? it = some oi')
    (k : ∀ b o, b ≠ e → b ≠ it → h.get? b = some o → h'.get? b = some o) : St w h' F (X1 ++ (e, oe') :: (it, oi') :: X2) := by
  have nd := S.nd
  rw [List.map_append, List.map_cons, List.map_cons, List.nodup_append] at nd
  obtain ⟨n1, n2, n3⟩ := nd
  rw [List.nodup_cons, List.nodup_cons] at n2
  obtain ⟨n4, n5, n6⟩ := n2
  refine S.remap (l := [e, it]) (by simp) ?_ (by simp) (fun b o hb ho => k b o (fun q => hb (by simp [q])) (fun q => hb (by simp [q])) ho)
  intro p hp
  rcases List.mem_append.mp hp with hp | hp
  · have m1 : p.1 ∈ X1.map (·.1) := List.mem_map.mpr ⟨p, hp, rfl⟩
    exact k _ _ (n3 _ m1 _ (.head _)) (n3 _ m1 _ (.tail _ (.head _))) (S.m p (List.mem_append_left _ hp))
  · rcases List.mem_cons.mp hp with rfl | hp
    · exact h1
    · rcases List.mem_cons.mp hp with rfl | hp
      · exact h2
      · have m1 : p.1 ∈ X2.map (·.1) := List.mem_map.mpr ⟨p, hp, rfl⟩
        exact k _ _ (fun q => n4 (by rw [← q]; exact .tail _ m1)) (fun q => n5 (by rw [← q]; exact m1)) (S.m p (List.mem_append_right _ (.tail _ (.tail _ hp))))
theorem three_ints {ys : List Value} (h : ys.length = 3) (hi : ∀ v ∈ ys, ∃ z t, v = .int z t) : ∃ f0 f1 f2 t0 t1 t2, ys = [.int f0 t0, .int f1 t1, .int f2 t2] := by
  cases ys with
  | nil => cases h
  | cons x ys => cases ys with
    | nil => cases h
    | cons y ys => cases ys with
      | nil => cases h
      | cons z ys => cases ys with
        | nil =>
          obtain ⟨f0, t0, rfl⟩ := hi x (by simp)
          obtain ⟨f1, t1, rfl⟩ := hi y (by simp)
          obtain ⟨f2, t2, rfl⟩ := hi z (by simp)
          exact ⟨_, _, _, _, _, _, rfl⟩
        | cons u ys => simp at h
/- what the comprehension's turns keep -/
inductive FigI (w : World) (F1 : Fz) (acc e it l L c C : Addr) (oL oc : Obj) (M : List (Addr × Obj)) (g : Array GenState) (d : Drawn) (os : OsState) (n : Nat) (s : Shared) : Prop
  | mk (i : Nat) (h : Heap) (tk : Nat) (ys : List Value) (m : Nat) (oe oi : Obj) (V' : List (Str × Value)) (h1_ : n = 3 - i) (h2_ : i ≤ 3) (h3_ : s = ⟨h, g, d, tk, os⟩) (h4_ : EnumO oe it i) (h5_ : IterO oi l i)
    (h6_ : Sf w h F1 ((acc, lstObj ys m) :: (e, oe) :: (it, oi) :: (L, oL) :: (c, oc) :: M) C V') (h7_ : ys.length = i) (h8_ : ∀ v ∈ ys, ∃ z t, v = .int z t) : FigI w F1 acc e it l L c C oL oc M g d os n s
/- the three figures -/
theorem figs {qa qb q1 q2 q3 q4 q5 q6 q7 q8 q9 q10 q11 q12 q13 q14 q15 q16 q17 q18 q19 : Pos} {k1 k2 k3 k4 k5 : Nat} {rest : List Stmt} {oc osl : Obj} {items : Array Value} {nn : Nat} {Q : Flow → Shared → Prop}
    (C0 : Cx A 0 0) (S : Sf w h F ((c, oc) :: M) L V) (hoc : oc.data = .cell (some (.ref sl))) (hsl : F sl = some osl) (hs1 : osl.cls = .type "list") (hs2 : osl.data = .seq items nn) (hI : AllInts items) (hz : items.size ≤ 2 ^ 20)
    (H : ∀ F' h' tk' D f0 f1 f2 t0 t1 t2 n, Le F F' → Sf w h' F' ((c, oc) :: M) L (("figures", .ref D) :: V) → F' D = some (lstObj [.int f0 t0, .int f1 t1, .int f2 t2] n) → wpAny (model prog w) A (execs rest (envX cn cs L a cd cl)) Q E ⟨h', g, d, tk', os⟩)
    (hsw : swapsWith (.ListComp (figElt q1 q2 q3 q4 q5 q6 q7 q8 q9 k1) [⟨.Tuple [.Name "k" q10, .Name "start" q11] k2 q12, .Call (.Name "enumerate" q13) [.List [.Constant (.int 224) k3 q14, .Constant (.int 35) k4 q15, .Constant (.int 9) k5 q16] q17] [] q18, [], 0⟩] figScope q19) (some (.Name "figures" qa)) qb.line (envX cn cs L a cd cl) = pure true)
    (hclos : closureFor figScope (envX cn cs L a cd cl) = pure cl)
    (hk : cs.kind = .function := by rfl) (hl : (envX cn cs L a cd cl).kindOf "figures" = some .local := by rfl) (hcl : cl = [(("script" : Str), c)] := by rfl) (hsc : (envX cn cs L a cd cl).kindOf "script" = some .cell := by rfl) (hle : (envX cn cs L a cd cl).kindOf "enumerate" = some .globalImplicit := by rfl) :
    wpAny (model prog w) A (execs (.Assign [.Name "figures" qa] (.ListComp (figElt q1 q2 q3 q4 q5 q6 q7 q8 q9 k1) [⟨.Tuple [.Name "k" q10, .Name "start" q11] k2 q12, .Call (.Name "enumerate" q13) [.List [.Constant (.int 224) k3 q14, .Constant (.int 35) k4 q15, .Constant (.int 9) k5 q16] q17] [] q18, [], 0⟩] figScope q19) qb :: rest) (envX cn cs L a cd cl)) Q E ⟨h, g, d, tk, os⟩ := by
  refine wpAny_execs_cons ?_
  rw [exec_Assign_Name_used _ _ _ _ hsw]
  refine wpAny_bind (wpAny_standAt (wpAny_bind ?_))
  show wpAny _ A (do let _ ← comprehension (.ListComp (figElt q1 q2 q3 q4 q5 q6 q7 q8 q9 k1) [⟨.Tuple [.Name "k" q10, .Name "start" q11] k2 q12, .Call (.Name "enumerate" q13) [.List [.Constant (.int 224) k3 q14, .Constant (.int 35) k4 q15, .Constant (.int 9) k5 q16] q17] [] q18, [], 0⟩] figScope q19) figScope (envX cn cs L a cd cl) _ (newList []) false (eval (.Call (.Name "enumerate" q13) [.List [.Constant (.int 224) k3 q14, .Constant (.int 35) k4 q15, .Constant (.int 9) k5 q16] q17] [] q18) (envX cn cs L a cd cl)) (some (assign (.Name "figures" qa) (envX cn cs L a cd cl)))) _ _ _
  refine wpAny_bind (wpAny_mono (wpAny_comprehension_free (use := some (assign (.Name "figures" qa) (envX cn cs L a cd cl))) (Q := fun _ s' => wpAny (model prog w) A (execs rest (envX cn cs L a cd cl)) Q E s') rfl (fun _ => rfl) hclos rfl (by decide) ?_) (fun _ s' hq => wpAny_pure (wpAny_pure hq)) fun _ _ e => e)
  refine r_call ?_
  refine r_builtin S (by exact rfl) (v := .type "enumerate") (by exact rfl) (by decide) ?_ hk hle
  refine r_cwT1 ?_
  refine r_list3 ?_
  refine r_int ?_
  refine r_int ?_
  refine r_int ?_
  have SLe := S.pushF (o := lstObj [.int 224 tk, .int 35 (tk + 1), .int 9 (tk + 1 + 1)] 0) rfl
  have S1 := SLe.1
  have le1 := SLe.2
  clear SLe
  have hl1 := ins_self F h.objs.size (lstObj [.int 224 tk, .int 35 (tk + 1), .int 9 (tk + 1 + 1)] 0)
  dsimp only
  generalize h.push (lstObj [.int 224 tk, .int 35 (tk + 1), .int 9 (tk + 1 + 1)] 0) = h1 at S1 ⊢
  generalize h.objs.size = l at S1 le1 hl1 ⊢
  generalize ins F l (lstObj [.int 224 tk, .int 35 (tk + 1), .int 9 (tk + 1 + 1)] 0) = F1 at S1 le1 hl1
  refine call_enumerate_list (items := #[.int 224 tk, .int 35 (tk + 1), .int 9 (tk + 1 + 1)]) ⟨_, S1.f hl1, rfl, 0, rfl⟩ fun h2 hE hit hz2 hk2 => ?_
  refine wpAny_pyIter_enum hE ?_
  obtain ⟨oL, S1s, n1⟩ := S1
  have fr1 := S1s.none_of_size (a := h1.objs.size) (Nat.le_refl _)
  have fr2 := S1s.none_of_size (a := h1.objs.size + 1) (Nat.le_succ _)
  have hei : h1.objs.size + 1 ≠ h1.objs.size := Nat.succ_ne_self _
  obtain ⟨oi, ei, ci, di⟩ := hit
  have S2 := ((S1s.ext hk2).add ei fr1.1 fr1.2.1 fr1.2.2.1 fr1.2.2.2).add hE fr2.1 (fun p hp => by
    rcases List.mem_cons.mp hp with rfl | hp
    · exact Ne.symm hei
    · exact fr2.2.1 p hp) fr2.2.2.1 fr2.2.2.2
  clear fr1 fr2
  dsimp only at S2 ⊢
  generalize h1.objs.size + 1 = e at hE hei S2 ⊢
  generalize h1.objs.size = it at hE hei ei S2 ⊢
  refine comp_enter (RR := fun acc C => compPost (model prog w) A E (some (assign (.Name "figures" qa) (envX cn cs L a cd cl))) (fun _ s' => wpAny (model prog w) A (execs rest (envX cn cs L a cd cl)) Q E s') acc C) S2 rfl (by decide) rfl (fun h' tk' E' Q' k' q => wpAny_pyIter_enum (k' _ _ hE) q) fun h3 tk3 acc C k3 S3 => ?_
  refine comp_turns (FigI w F1 acc e it l L c C oL oc M g d os) ?_ (3 - 0)
    ⟨0, h3, tk3, [], 0, _, oi, [], rfl, by first | with_reducible assumption | decide | lia | omega, rfl, ⟨_, rfl⟩, ⟨ci, di⟩, S3, rfl, fun v hv => by cases hv⟩
  clear S3 S2 hE ei k3 h3 tk3 S1s
  rintro n s E' P X hP hX ⟨i, h4, tk4, ys, m, oe, oi4, V4, rfl, hi3, rfl, ⟨old, rfl⟩, io, S4, hys, hyi⟩
  have me : h4.get? e = _ := S4.m (.tail _ (.head _))
  have mi := S4.m (.tail _ (.tail _ (.head _)))
  have hit4 : h4.IsListIter it l i := ⟨oi4, mi, io.cls, io.data⟩
  have hl4 : h4.IsList l #[.int 224 tk, .int 35 (tk + 1), .int 9 (tk + 1 + 1)] := ⟨_, S4.f hl1, rfl, 0, rfl⟩
  by_cases hi : i = 3
  · subst hi
    refine wpAny_pyNext_enum_end C0.hd me hit4 hl4 rfl fun h5 k5 => hX ?_
    have S5 := Sf.drop (M1 := [_, _]) S4 k5
    obtain ⟨oC, S5s, nC⟩ := S5
    have S6 : Sf w h5 F1 ((C, oC) :: (acc, lstObj ys m) :: (e, _) :: (c, oc) :: M) L V := ⟨oL, S5s.perm (List.perm_middle (l₁ := [_, _, _])), n1⟩
    show wpAny _ A (assign (.Name "figures" qa) (envX cn cs L a cd cl) (.ref acc)) _ _ _
    refine wpAny_assign_Name (r_store S6 (fun h6 tk6 S7 => ?_) hk hl)
    obtain ⟨es, ep, nd, ks, _⟩ := nC
    refine ⟨fun x => nsFind es x, ⟨oC, es, ep, S7.m (.head _), nd, ks, fun _ => rfl⟩, fun h7 sb7 => ?_⟩
    have S8 := Sf.drop (M1 := []) S7 sb7.extBut
    have SLe := Sf.freeze S8
    have S9 := SLe.1
    have le9 := SLe.2
    clear SLe
    have hy3 := three_ints hys hyi
    obtain ⟨f0, f1, f2, t0, t1, t2, rfl⟩ := hy3
    exact H _ _ _ acc f0 f1 f2 t0 t1 t2 m (le1.trans le9) S9.tl (ins_self _ _ _)
  · have hx : ∃ z t, (#[.int 224 tk, .int 35 (tk + 1), .int 9 (tk + 1 + 1)] : Array Value)[i]? = some (.int z t) := by
      have : i = 0 ∨ i = 1 ∨ i = 2 := by first | with_reducible assumption | decide | lia | omega
      rcases this with rfl | rfl | rfl <;> exact ⟨_, _, rfl⟩
    obtain ⟨z, t, hx⟩ := hx
    have hTe : h4.objs.size ≠ e := Ne.symm (Nat.ne_of_lt (Heap.lt_size me))
    refine wpAny_pyNext_enum_item me hit4 hl4 hx hei fun h5 hE5 hit5 hT5 hz5 hk5 => ?_
    obtain ⟨oi5, ei5, ci5, di5⟩ := hit5
    obtain ⟨oC, S4s, nC⟩ := S4
    have S5 := St.remap2 (X1 := [_, _]) S4s hE5 ei5 hk5
    dsimp only
    refine wpAny_letOwnedTupleGo_enum hE5 fun h6 hE6 sb6 => ?_
    have S6 := St.upd (M1 := [_, _]) S5 sb6.extBut hE6
    have S6' : Sf w h6 F1 ((acc, lstObj ys m) :: (e, _) :: (it, oi5) :: (L, oL) :: (c, oc) :: M) C V4 := ⟨oC, S6, nC⟩
    refine g_unpack2 (env := compEnvC figScope cl C (envX cn cs L a cd cl)) C0.hd S6' (sb6.extBut _ _ hTe hT5) (fun h7 tk7 _ S7 => ?_) rfl (lookup_relabel_local rfl) (lookup_relabel_local rfl)
    have hkb : ((envX cn cs L a cd cl).scope.kind == ScopeKind.function) = true := by show (cs.kind == _) = true; rw [hk]; rfl
    refine fig_elt (env := compEnvC figScope cl C (envX cn cs L a cd cl)) (c := c) C0.hd S7 (by exact rfl) (by exact rfl) rfl rfl (by show List.lookup _ cl = _; rw [hcl]; rfl) (S7.m (.tail _ (.tail _ (.tail _ (.tail _ (.head _)))))) hoc (le1 _ _ hsl) hs1 hs2 hI hz (fun h8 tk8 z8 t8 S8 => ?_) rfl (lookup_relabel_local rfl) ?_ ?_ (lookup_relabel_local rfl)
    · refine wp_append (M1 := []) S8 (by rw [hys, sizeLine_eq]; first | with_reducible assumption | decide | lia | omega) fun h9 n9 S9 => ?_
      refine hP ⟨3 - (i + 1), by first | with_reducible assumption | decide | lia | omega, i + 1, h9, tk8, _, n9, _, oi5, _, rfl, by first | with_reducible assumption | decide | lia | omega, rfl, ⟨_, rfl⟩, ⟨ci5, di5⟩, S9, by rw [List.length_append, List.length_singleton, hys], ?_⟩
      intro v hv
      rcases List.mem_append.mp hv with hv | hv
      · exact hyi v hv
      · rw [List.mem_singleton] at hv; exact ⟨z8, t8, hv⟩
    · show List.lookup _ (List.map _ _) = _
      simp [List.lookup_cons, hkb, hsc]
      rfl
    · show List.lookup _ (List.map _ _) = _
      simp [List.lookup_cons, hkb, hsc]
      rfl
end
end Mine
end
section
open PySem PySem.W PyProof.Rows PySem.Calls
set_option autoImplicit false
set_option maxRecDepth 100000
namespace Mine
/- the state at the law's first statement -/
theorem start_sf {w : World} {gh h1 : Heap} {L c : Addr} {oc : Obj} {m : Str → Option Value} {mean : ExcName → Option Value} {mg mb : Str → Option Value} {p : Program} {loose : List Str}
    (X : (KF w).In gh) (T : Top p loose mean mg mb gh) (c1 : CodeHd gh 100 96) (c2 : CodeHd gh 83 79) (Fr1 : Fr gh L h1 m) (N : News gh L h1 [(c, oc), (96, tabObj #[]), (79, tabObj #[])]) (hc1 : c ≠ 96 ∧ c ≠ 79) (hL : L ≠ 96 ∧ L ≠ 79) :
    Sf w h1 (fun a => gh.get? a) [(c, oc)] L [] := by
  have k96 := N (96, tabObj #[]) (by simp)
  have k79 := N (79, tabObj #[]) (by simp)
  have kc := N (c, oc) (by simp)
  obtain ⟨oL, es, ep, e1, e2, e3, e4⟩ := Fr1.ns
  have gL : gh.get? L = none := Heap.get?_none_of_le Fr1.above
  refine ⟨oL, ⟨⟨fun a o e => X a o e, mg, mb, fun h hh => ⟨T.g.keeps hh, T.b.keeps hh, T.nolimit.keeps hh, c2.keeps hh, c1.keeps hh⟩, T.builtins, T.bmain⟩, Fr1.keep, ?_, ?_, ?_, ⟨k79.2.2, k96.2.2⟩, ?_, ⟨#[], k79.1, .inl rfl⟩, ⟨#[], k96.1, .inl rfl⟩⟩, es, ep, e2, e3, fun x v hx => by cases hx⟩
  · intro p hp
    rcases List.mem_cons.mp hp with rfl | hp
    · exact e1
    · rw [List.mem_singleton] at hp; subst hp; exact kc.1
  · simpa using Ne.symm kc.2.1
  · intro p hp
    rcases List.mem_cons.mp hp with rfl | hp
    · exact gL
    · rw [List.mem_singleton] at hp; subst hp; exact kc.2.2
  · intro p hp
    rcases List.mem_cons.mp hp with rfl | hp
    · exact ⟨hL.2, hL.1⟩
    · rw [List.mem_singleton] at hp; subst hp; exact ⟨hc1.2, hc1.1⟩
theorem end_tabs {w : World} {h : Heap} {F : Fz} {M : List (Addr × Obj)} (S : St w h F M) : GrownAll [(100, 96), (83, 79)] h :=
  ⟨let ⟨ps, e, _⟩ := S.t3.2; ⟨ps, e⟩, let ⟨ps, e, _⟩ := S.t3.1; ⟨ps, e⟩, trivial⟩
theorem law_cx0 : Cx callerA 101 1003 := ⟨rfl, by decide +kernel, by decide +kernel⟩
theorem law_cx (env : Env) : Cx (callerA.deeper env) 100 1000 := law_cx0.deeper
end Mine
end
section
open PySem PySem.W PyProof.Rows PySem.Calls
set_option autoImplicit false
set_option maxRecDepth 100000
namespace Mine
/- rows that are a forest's -/
noncomputable def Rws (n : Nat) (rs : List (Int × Nat)) : Prop := ∃ f : Fo Nat, f.nodes = n ∧ f.all okL = true ∧ rs = rowsOf 0 f
theorem fo0 {f : Fo Nat} (h : f.nodes = 0) : f = .nil := by
  cases f with
  | nil => rfl
  | cons c k r => simp only [nodes_nil, nodes_cons] at h; first | with_reducible assumption | decide | lia | omega
theorem fo1 {f : Fo Nat} (h : f.nodes = 1) : ∃ a, f = .cons a .nil .nil := by
  cases f with
  | nil => cases h
  | cons c k r =>
    simp only [nodes_nil, nodes_cons] at h
    exact ⟨c, by rw [fo0 (f := k) (by first | with_reducible assumption | decide | lia | omega), fo0 (f := r) (by first | with_reducible assumption | decide | lia | omega)]⟩
theorem fo2 {f : Fo Nat} (h : f.nodes = 2) : ∃ a b, f = .cons a .nil (.cons b .nil .nil) ∨ f = .cons a (.cons b .nil .nil) .nil := by
  cases f with
  | nil => cases h
  | cons c k r =>
    simp only [nodes_nil, nodes_cons] at h
    have : k.nodes = 0 ∨ k.nodes = 1 := by first | with_reducible assumption | decide | lia | omega
    rcases this with q | q
    · obtain ⟨b, e⟩ := fo1 (f := r) (by first | with_reducible assumption | decide | lia | omega)
      exact ⟨c, b, .inl (by rw [e, fo0 q])⟩
    · obtain ⟨b, e⟩ := fo1 (f := k) q
      exact ⟨c, b, .inr (by rw [e, fo0 (f := r) (by first | with_reducible assumption | decide | lia | omega)])⟩
theorem fo3 {f : Fo Nat} (h : f.nodes = 3) : ∃ a b c, f = .cons a .nil (.cons b .nil (.cons c .nil .nil)) ∨ f = .cons a .nil (.cons b (.cons c .nil .nil) .nil) ∨ f = .cons a (.cons b .nil .nil) (.cons c .nil .nil) ∨
    f = .cons a (.cons b .nil (.cons c .nil .nil)) .nil ∨ f = .cons a (.cons b (.cons c .nil .nil) .nil) .nil := by
  cases f with
  | nil => cases h
  | cons a k r =>
    simp only [nodes_nil, nodes_cons] at h
    have : k.nodes = 0 ∨ k.nodes = 1 ∨ k.nodes = 2 := by first | with_reducible assumption | decide | lia | omega
    rcases this with q | q | q
    · obtain ⟨b, c, e | e⟩ := fo2 (f := r) (by first | with_reducible assumption | decide | lia | omega)
      · exact ⟨a, b, c, .inl (by rw [e, fo0 q])⟩
      · exact ⟨a, b, c, .inr (.inl (by rw [e, fo0 q]))⟩
    · obtain ⟨b, e⟩ := fo1 q
      obtain ⟨c, e2⟩ := fo1 (f := r) (by first | with_reducible assumption | decide | lia | omega)
      exact ⟨a, b, c, .inr (.inr (.inl (by rw [e, e2])))⟩
    · obtain ⟨b, c, e | e⟩ := fo2 q
      · exact ⟨a, b, c, .inr (.inr (.inr (.inl (by rw [e, fo0 (f := r) (by first | with_reducible assumption | decide | lia | omega)]))))⟩
      · exact ⟨a, b, c, .inr (.inr (.inr (.inr (by rw [e, fo0 (f := r) (by first | with_reducible assumption | decide | lia | omega)]))))⟩
noncomputable abbrev lone (c : Nat) : Fo Nat := .cons c .nil .nil
/- a row laid into a gap -/
theorem rows_step {n : Nat} {rs : List (Int × Nat)} (H : Rws n rs) (hn : n < 3) {k : Nat} (hk : k < 2 * n + 1) :
    ∃ (p : Nat) (d : Int), (gapsR rs)[k]? = some (p, d) ∧ ∀ c, okL c = true → Rws (n + 1) (rs.take p ++ [(d, c)] ++ rs.drop p) := by
  obtain ⟨f, h1, h2, rfl⟩ := H
  have : n = 0 ∨ n = 1 ∨ n = 2 := by first | with_reducible assumption | decide | lia | omega
  rcases this with rfl | rfl | rfl
  · rw [fo0 h1]
    have : k = 0 := by first | with_reducible assumption | decide | lia | omega
    subst this
    exact ⟨0, 0, rfl, fun c hc => ⟨lone c, rfl, by simp [all_nil, all_cons, hc], rfl⟩⟩
  · obtain ⟨a, rfl⟩ := fo1 h1
    have ha : okL a = true := by simpa [all_nil, all_cons] using h2
    have : k = 0 ∨ k = 1 ∨ k = 2 := by first | with_reducible assumption | decide | lia | omega
    rcases this with rfl | rfl | rfl
    · exact ⟨0, 0, rfl, fun c hc => ⟨.cons c .nil (lone a), rfl, by simp [all_nil, all_cons, hc, ha], rfl⟩⟩
    · exact ⟨1, 0, rfl, fun c hc => ⟨.cons a .nil (lone c), rfl, by simp [all_nil, all_cons, hc, ha], rfl⟩⟩
    · exact ⟨1, 1, rfl, fun c hc => ⟨.cons a (lone c) .nil, rfl, by simp [all_nil, all_cons, hc, ha], rfl⟩⟩
  · obtain ⟨a, b, rfl | rfl⟩ := fo2 h1
    · have hab : okL a = true ∧ okL b = true := by simpa [all_nil, all_cons] using h2
      obtain ⟨ha, hb⟩ := hab
      have : k = 0 ∨ k = 1 ∨ k = 2 ∨ k = 3 ∨ k = 4 := by first | with_reducible assumption | decide | lia | omega
      rcases this with rfl | rfl | rfl | rfl | rfl
      · exact ⟨0, 0, rfl, fun c hc => ⟨.cons c .nil (.cons a .nil (lone b)), rfl, by simp [all_nil, all_cons, hc, ha, hb], rfl⟩⟩
      · exact ⟨1, 0, rfl, fun c hc => ⟨.cons a .nil (.cons c .nil (lone b)), rfl, by simp [all_nil, all_cons, hc, ha, hb], rfl⟩⟩
      · exact ⟨1, 1, rfl, fun c hc => ⟨.cons a (lone c) (lone b), rfl, by simp [all_nil, all_cons, hc, ha, hb], rfl⟩⟩
      · exact ⟨2, 0, rfl, fun c hc => ⟨.cons a .nil (.cons b .nil (lone c)), rfl, by simp [all_nil, all_cons, hc, ha, hb], rfl⟩⟩
      · exact ⟨2, 1, rfl, fun c hc => ⟨.cons a .nil (.cons b (lone c) .nil), rfl, by simp [all_nil, all_cons, hc, ha, hb], rfl⟩⟩
    · have hab : okL a = true ∧ okL b = true := by simpa [all_nil, all_cons] using h2
      obtain ⟨ha, hb⟩ := hab
      have : k = 0 ∨ k = 1 ∨ k = 2 ∨ k = 3 ∨ k = 4 := by first | with_reducible assumption | decide | lia | omega
      rcases this with rfl | rfl | rfl | rfl | rfl
      · exact ⟨0, 0, rfl, fun c hc => ⟨.cons c .nil (.cons a (lone b) .nil), rfl, by simp [all_nil, all_cons, hc, ha, hb], rfl⟩⟩
      · exact ⟨1, 1, rfl, fun c hc => ⟨.cons a (.cons c .nil (lone b)) .nil, rfl, by simp [all_nil, all_cons, hc, ha, hb], rfl⟩⟩
      · exact ⟨2, 0, rfl, fun c hc => ⟨.cons a (lone b) (lone c), rfl, by simp [all_nil, all_cons, hc, ha, hb], rfl⟩⟩
      · exact ⟨2, 1, rfl, fun c hc => ⟨.cons a (.cons b .nil (lone c)) .nil, rfl, by simp [all_nil, all_cons, hc, ha, hb], rfl⟩⟩
      · exact ⟨2, 2, rfl, fun c hc => ⟨.cons a (.cons b (lone c) .nil) .nil, rfl, by simp [all_nil, all_cons, hc, ha, hb], rfl⟩⟩
theorem Rws.len {n : Nat} {rs : List (Int × Nat)} (H : Rws n rs) : rs.length = n := by
  obtain ⟨f, h1, _, rfl⟩ := H
  rw [rowsOf_len, h1]
theorem rowsOf_le : ∀ (f : Fo Nat) (b : Nat), ∀ r ∈ rowsOf b f, r.1 ≤ (b : Int) + f.nodes
  | .nil, _, _, h => nomatch h
  | .cons c k r, b, x, h => by
    rcases List.mem_cons.mp h with rfl | h
    · show (b : Int) ≤ _
      first | with_reducible assumption | decide | lia | omega
    · simp only [nodes_nil, nodes_cons]
      rcases List.mem_append.mp h with h | h
      · have := rowsOf_le k (b + 1) x h; first | with_reducible assumption | decide | lia | omega
      · have := rowsOf_le r b x h; first | with_reducible assumption | decide | lia | omega
theorem Rws.deep {n : Nat} {rs : List (Int × Nat)} (H : Rws n rs) : ∀ r ∈ rs, 0 ≤ r.1 ∧ r.1 ≤ n := by
  obtain ⟨f, h1, _, rfl⟩ := H
  intro r hr
  have a := rowsOf_deep f 0 r hr
  have b := rowsOf_le f 0 r hr
  first | with_reducible assumption | decide | lia | omega
/- one word's sign changed -/
noncomputable def rel (x : Nat) : Fo Nat → Nat → Fo Nat
  | .nil, _ => .nil
  | .cons _ k r, 0 => .cons x k r
  | .cons c k r, i + 1 => if i < k.nodes then .cons c (rel x k i) r else .cons c k (rel x r (i - k.nodes))
theorem rel_0 {x c : Nat} {k r : Fo Nat} : rel x (.cons c k r) 0 = .cons x k r := rfl
theorem rel_s {x c i : Nat} {k r : Fo Nat} : rel x (.cons c k r) (i + 1) = if i < k.nodes then .cons c (rel x k i) r else .cons c k (rel x r (i - k.nodes)) := rfl
/- a row's word is a lone one -/
noncomputable def leafR (rs : List (Int × Nat)) (k : Nat) : Bool := k == 2 || decide ((rs.getD (k + 1) (0, 0)).1 ≤ (rs.getD k (0, 0)).1)
theorem rel_rows {f : Fo Nat} (h : f.nodes = 3) (x : Nat) {k : Nat} (hk : k < 3) :
    rowsOf 0 (rel x f k) = (rowsOf 0 f).take k ++ [(((rowsOf 0 f).getD k (0, 0)).1, x)] ++ (rowsOf 0 f).drop (k + 1) ∧ (rel x f k).nodes = 3 ∧ (f.all okL = true → okL x = true → (rel x f k).all okL = true) := by
  obtain ⟨a, b, c, h⟩ := fo3 h
  have : k = 0 ∨ k = 1 ∨ k = 2 := by first | with_reducible assumption | decide | lia | omega
  rcases this with rfl | rfl | rfl <;> rcases h with rfl | rfl | rfl | rfl | rfl <;> exact ⟨rfl, rfl, fun h1 h2 => by simp [all_nil, all_cons, rel_0, rel_s, nodes_nil, nodes_cons] at h1 ⊢; simp [h1, h2]⟩
end Mine
end
section
open PySem PySem.W PyProof.Rows PySem.Calls
set_option autoImplicit false
set_option maxRecDepth 100000
namespace Mine
/- the law's statements and names, read off the program -/
noncomputable def lawAll : List Stmt × Scope := match PySem.Challenge.pw_tv0037_01.main.body.getLast? with
  | some (.FunctionDef _ _ body _ _ _ scope _ _ _) => (body, scope)
  | _ => ([], default)
noncomputable abbrev lawB : List Stmt := lawAll.1
noncomputable abbrev lawS : Scope := lawAll.2
noncomputable def signsL : List Nat := [97, 66, 126, 39, 34, 92, 47, 91]
theorem sign_at {i : Int} (h0 : 0 ≤ i) (h8 : i < 8) : ∃ c, okL c = true ∧ (seqIndex? i (T signsL).length).bind ((T signsL).cps[·]?) = some c := by
  have : i = 0 ∨ i = 1 ∨ i = 2 ∨ i = 3 ∨ i = 4 ∨ i = 5 ∨ i = 6 ∨ i = 7 := by first | with_reducible assumption | decide | lia | omega
  rcases this with rfl | rfl | rfl | rfl | rfl | rfl | rfl | rfl <;> exact ⟨_, by decide, rfl⟩
/- what the law knows once the header is written -/
structure Facts (F : Fz) (V : List (Str × Value)) (f : Fo Nat) (x : Nat) : Prop where
  n3 : f.nodes = 3
  ok : f.all okL = true
  okx : okL x = true
  rows : ∃ l vs n, Has V "rows" (.ref l) ∧ F l = some (lstObj vs n) ∧ All2 (RowAt F) vs (rowsOf 0 f)
  name : ∃ t, Has V "name" (.str (T [x]) t)
  begun : ∃ t, Has V "begun" (.str (T (R f)) t)
  signs : ∃ t, Has V "signs" (.str (T signsL) t)
theorem Facts.up {F F' : Fz} {V : List (Str × Value)} {f : Fo Nat} {x : Nat} (H : Facts F V f x) (l : Le F F') : Facts F' V f x :=
  ⟨H.n3, H.ok, H.okx, let ⟨a, vs, n, h1, h2, h3⟩ := H.rows; ⟨a, vs, n, h1, l _ _ h2, h3.up fun _ _ z => z.up l⟩, H.name, H.begun, H.signs⟩
theorem has_sto {V : List (Str × Value)} {x y : Str} {u v : Value} (h : Has V x u) (hn : x ≠ y) : Has ((y, v) :: V) x u := by
  show List.lookup x _ = _
  rw [List.lookup_cons, beq_eq_false_iff_ne.mpr hn]; exact h
theorem Facts.sto {F : Fz} {V : List (Str × Value)} {f : Fo Nat} {x : Nat} {y : Str} {v : Value} (H : Facts F V f x) (h1 : ("rows" : Str) ≠ y := by decide) (h2 : ("name" : Str) ≠ y := by decide) (h3 : ("begun" : Str) ≠ y := by decide) (h4 : ("signs" : Str) ≠ y := by decide) : Facts F ((y, v) :: V) f x :=
  ⟨H.n3, H.ok, H.okx, let ⟨a, vs, n, q1, q2, q3⟩ := H.rows; ⟨a, vs, n, has_sto q1 h1, q2, q3⟩, let ⟨t, e⟩ := H.name; ⟨t, has_sto e h2⟩, let ⟨t, e⟩ := H.begun; ⟨t, has_sto e h3⟩, let ⟨t, e⟩ := H.signs; ⟨t, has_sto e h4⟩⟩
section
variable {prog : Program} {w : World} {A : Around} {E : Value → Shared → Prop} {h : Heap} {F : Fz} {M : List (Addr × Obj)} {L a : Addr} {V : List (Str × Value)} {g : Array GenState} {d : Drawn} {tk : Nat} {os : OsState}
  {cd : Value} {cl : List (Str × Addr)}
/- what the loop keeps -/
inductive RowI (F : Fz) (M : List (Addr × Obj)) (D : Addr) (i : Nat) (F' : Fz) (M' : List (Addr × Obj)) (V' : List (Str × Value)) : Prop
  | mk (h1_ : Le F F') (h2_ : M' = M) (rs : List (Int × Nat)) (l : Addr) (vs : List Value) (n : Nat) (t : Tok) (h3_ : Rws i rs) (h4_ : Has V' "rows" (.ref l)) (h5_ : F' l = some (lstObj vs n)) (h6_ : All2 (RowAt F') vs rs) (h7_ : Has V' "figures" (.ref D)) (h8_ : Has V' "signs" (.str (T signsL) t)) : RowI F M D i F' M' V'
set_option maxHeartbeats 8000000 in
theorem seg1 {D : Addr} {f0 f1 f2 : Int} {t0 t1 t2 : Tok} {n : Nat} {Q : Flow → Shared → Prop} (C : Cx A 90 900) (S : Sf w h F M L V) (hD : F D = some (lstObj [.int f0 t0, .int f1 t1, .int f2 t2] n)) (lf : Has V "figures" (.ref D))
    (H : ∀ F' h' tk' V' f x, Le F F' → Sf w h' F' M L V' → Facts F' V' f x → wpAny (model prog w) A (execs (lawB.drop 6) (envX "law" lawS L a cd cl)) Q E ⟨h', g, d, tk', os⟩) :
    wpAny (model prog w) A (execs (lawB.drop 1) (envX "law" lawS L a cd cl)) Q E ⟨h, g, d, tk, os⟩ := by
  refine x_assign ?_
  refine r_str ?_
  rw [show (Str.ofString "aB~'\"\\/[") = T signsL from by kernel_rfl]
  refine r_store S fun h1 tk1 S1 => ?_
  refine x_assign ?_
  refine r_list0 ?_
  have SLe := S1.pushF (o := lstObj [] 0) rfl
  have S2 := SLe.1
  have le2 := SLe.2
  clear SLe
  have hp2 := ins_self F h1.objs.size (lstObj [] 0)
  generalize ins F h1.objs.size (lstObj [] 0) = F2 at S2 le2 hp2
  refine r_store S2 fun h3 tk3 S3 => ?_
  generalize h1.objs.size = r0 at S3 hp2
  clear S1 S2
  refine xl_for ?_
  refine r_name S3 (by exact lf) ?_
  obtain ⟨o122, fd122, k122, f122⟩ : ∃ o fd, (KF w).lookup 122 = some o ∧ o.data = .func fd := ⟨_, _, by exact rfl, rfl⟩
  obtain ⟨o136, fd136, k136, f136⟩ : ∃ o fd, (KF w).lookup 136 = some o ∧ o.data = .func fd := ⟨_, _, by exact rfl, rfl⟩
  show wpAny _ _ _ _ _ ⟨_, g, d, _, os⟩
  refine loop_list (l := D) (vs := [.int f0 t0, .int f1 t1, .int f2 t2]) (RowI F M D) C.hd ?_ ?_ ?_ S3 ?_
  · rintro i F' M' V' ⟨le, _⟩
    exact .inl ⟨n, le _ _ hD⟩
  · rintro i x F' M' V' N h4 tk4 E4 P hP hx ⟨le, rfl, rs, l, vs, n1, ts, hR, lr, hl, har, lf, ls⟩ S4
    have hi3 : i < 3 := (List.getElem?_eq_some_iff.mp hx).1
    have hxi : ∃ z t, x = .int z t := by
      have : i = 0 ∨ i = 1 ∨ i = 2 := by first | with_reducible assumption | decide | lia | omega
      rcases this with rfl | rfl | rfl <;> cases hx <;> exact ⟨_, _, rfl⟩
    obtain ⟨z, tz, rfl⟩ := hxi
    have hrl := hR.len
    have hvl : vs.length = i := by rw [har.len, hrl]
    refine wpAny_assign_Name (r_store S4 fun h5 tk5 S5 => ?_)
    refine x_assignT ?_
    refine r_sub ?_
    refine r_call ?_
    refine r_global S5 (by exact rfl) ?_
    refine r_cwF1 (o := o122) (fd := fd122) ?_
    refine r_name S5 (by exact lr) ?_
    refine ⟨⟨S5.f (S5.st.b.k _ _ k122), f122⟩, ?_⟩
    refine Fn.useL (gaps_fn hl har (by first | with_reducible assumption | decide | lia | omega) (fun r hr => by have := hR.deep r hr; first | with_reducible assumption | decide | lia | omega)) C.mono S5 ?_
    intro F6 h6 tk6 gl gvs gn le6 S6 hgl ag
    refine wpAny_BinOp ?_
    refine r_name S6 (by exact rfl) ?_
    refine wpAny_BinOp ?_
    refine wpAny_BinOp ?_
    refine r_int ?_
    refine r_len S6 (by exact lr) (S6.f (le6 _ _ hl)) (by first | with_reducible assumption | decide | lia | omega) fun t7 tk7 => ?_
    refine PySem.P.mul_int ?_ (PySem.IntMulOk.of_left (by decide))
    refine r_int ?_
    first | with_reducible refine PySem.P.add_int ?_ | refine PySem.P.add_int ?_
    have hm : (2 : Int) * ((vs.length : Nat) : Int) + 1 = ((2 * i + 1 : Nat) : Int) := by rw [hvl]; first | with_reducible assumption | decide | lia | omega
    rw [hm]
    with_reducible refine PyProof.Rows.mod_int ?_ ?_
    · first | with_reducible assumption | decide | lia | omega
    have k0 : 0 ≤ z.fmod ((2 * i + 1 : Nat) : Int) := Int.fmod_nonneg_of_pos _ (by first | with_reducible assumption | decide | lia | omega)
    have k1 : z.fmod ((2 * i + 1 : Nat) : Int) < ((2 * i + 1 : Nat) : Int) := Int.fmod_lt_of_pos _ (by first | with_reducible assumption | decide | lia | omega)
    generalize z.fmod ((2 * i + 1 : Nat) : Int) = ki at k0 k1 ⊢
    obtain ⟨k, rfl⟩ := Int.eq_ofNat_of_zero_le k0
    obtain ⟨p, dp, hg, hst⟩ := rows_step hR hi3 (k := k) (by first | with_reducible assumption | decide | lia | omega)
    obtain ⟨gv, hgv, ga, gt, gu, rfl, hga⟩ := ag.get' hg
    refine ⟨"list", _, ⟨_, S6.f hgl, rfl⟩, PySem.F.slot_list_getitem.lookup, ?_⟩
    refine wpAny_getItem_list (items := gvs.toArray) ⟨_, S6.f hgl, rfl, gn, rfl⟩ (by first | with_reducible assumption | decide | lia | omega) (by first | with_reducible assumption | decide | lia | omega) (x := .ref ga) (by rw [Int.toNat_natCast]; simpa using hgv) ?_
    refine r_unpack2 C.mono S6 (S6.f hga) fun h8 tk8 S8 => ?_
    refine x_assign ?_
    refine wpAny_BinOp ?_
    refine wpAny_BinOp ?_
    have hl6 := le6 _ _ hl
    refine r_lupto S8 (by exact lr) hl6 (by first | with_reducible assumption | decide | lia | omega) ?_
    refine r_name S8 (by exact rfl) ?_
    refine ⟨p, _, _, rfl, rfl, fun F9 h9 c1 le9 S9 o1 => ?_⟩
    refine r_list1 ?_
    refine r_tup2 ?_
    refine r_name S9 (by exact rfl) ?_
    refine r_sub ?_
    refine r_name S9 (by exact ls) ?_
    refine wpAny_BinOp ?_
    refine wpAny_BinOp ?_
    refine r_name S9 (by exact rfl) ?_
    refine r_int ?_
    with_reducible refine PyProof.Rows.floordiv_int ?_ ?_
    · decide
    refine r_int ?_
    with_reducible refine PyProof.Rows.mod_int ?_ ?_
    · decide
    obtain ⟨cc, hcc, hcs⟩ := sign_at (i := (z.fdiv 7).fmod 8) (Int.fmod_nonneg_of_pos _ (by decide)) (Int.fmod_lt_of_pos _ (by decide))
    refine ⟨"str", _, typeIs_str _ _ _, PySem.F.slot_str_getitem.lookup, ?_⟩
    refine PySem.P.getItem_str ?_ hcs ?_
    · have q0 : 0 ≤ (z.fdiv 7).fmod 8 := Int.fmod_nonneg_of_pos _ (by decide)
      have q1 : (z.fdiv 7).fmod 8 < 8 := Int.fmod_lt_of_pos _ (by decide)
      have a1 : ¬ (z.fdiv 7).fmod 8 < -(2 ^ 63) := by first | with_reducible assumption | decide | lia | omega
      have a2 : ¬ (z.fdiv 7).fmod 8 ≥ 2 ^ 63 := by first | with_reducible assumption | decide | lia | omega
      rw [decide_eq_false a1, decide_eq_false a2]; rfl
    dsimp only
    have SLe := S9.pushF (o := tupObj [.int dp gu, .str (T [cc]) (tk8 + 1 + 1 + 1 + 1)]) rfl
    have S10 := SLe.1
    have le10 := SLe.2
    clear SLe
    have o2 := ins_self F9 h9.objs.size (tupObj [.int dp gu, .str (T [cc]) (tk8 + 1 + 1 + 1 + 1)])
    generalize ins F9 h9.objs.size (tupObj [.int dp gu, .str (T [cc]) (tk8 + 1 + 1 + 1 + 1)]) = F10 at S10 le10 o2
    have SLe := S10.pushF (o := lstObj [.ref h9.objs.size] 0) rfl
    have S11 := SLe.1
    have le11 := SLe.2
    clear SLe
    have o3 := ins_self F10 (h9.push (tupObj [.int dp gu, .str (T [cc]) (tk8 + 1 + 1 + 1 + 1)])).objs.size (lstObj [.ref h9.objs.size] 0)
    generalize ins F10 (h9.push (tupObj [.int dp gu, .str (T [cc]) (tk8 + 1 + 1 + 1 + 1)])).objs.size (lstObj [.ref h9.objs.size] 0) = F11 at S11 le11 o3
    refine r_ladd S11 (le11 _ _ (le10 _ _ o1)) o3 (by rw [List.length_take, List.length_singleton]; first | with_reducible assumption | decide | lia | omega) fun F12 h12 c2 le12 S12 o4 => ?_
    have le6C := ((le9.trans le10).trans (le11.trans le12))
    refine r_lfrom S12 (by exact lr) (le6C _ _ hl6) (by first | with_reducible assumption | decide | lia | omega) ?_
    refine r_name S12 (by exact rfl) ?_
    refine ⟨p, _, _, rfl, rfl, fun F13 h13 c3 le13 S13 o5 => ?_⟩
    refine r_ladd S13 (le13 _ _ o4) o5 (by rw [List.length_append, List.length_take, List.length_singleton, List.length_drop]; first | with_reducible assumption | decide | lia | omega) fun F14 h14 c4 le14 S14 o6 => ?_
    refine r_store S14 fun h15 tk15 S15 => ?_
    refine x_nil ?_
    have leA := le6.trans (le6C.trans (le13.trans le14))
    refine hP ⟨F14, M', _, h15, tk15, rfl, S15, le.trans leA, rfl, _, c4, _, _, ts, hst cc hcc, by exact rfl, o6, ?_, by exact lf, by exact ls⟩
    have har' : All2 (RowAt F14) vs rs := har.up fun _ _ z => z.up leA
    exact ((har'.take p).app (.cons ⟨_, _, _, rfl, (le11.trans (le12.trans (le13.trans le14))) _ _ o2⟩ .nil)).app (har'.drop p)
  · rintro F' M' V' h4 tk4 ⟨le, rfl, rs, l, vs, n1, ts, hR, lr, hl, har, lf, ls⟩ S4
    obtain ⟨f, fn, fok, rfl⟩ := hR
    replace fn : f.nodes = 3 := fn
    refine x_assign ?_
    refine r_sub ?_
    refine r_name S4 (by exact ls) ?_
    refine wpAny_BinOp ?_
    refine wpAny_BinOp ?_
    refine r_sub ?_
    refine r_name S4 (by exact lf) ?_
    refine r_int ?_
    refine ⟨"list", _, ⟨_, S4.f (le _ _ hD), rfl⟩, PySem.F.slot_list_getitem.lookup, ?_⟩
    refine wpAny_getItem_list (items := #[.int f0 t0, .int f1 t1, .int f2 t2]) ⟨_, S4.f (le _ _ hD), rfl, n, rfl⟩ (by first | with_reducible assumption | decide | lia | omega) (by first | with_reducible assumption | decide | lia | omega) (x := .int f0 t0) rfl ?_
    refine r_int ?_
    with_reducible refine PyProof.Rows.floordiv_int ?_ ?_
    · decide
    refine r_int ?_
    with_reducible refine PyProof.Rows.mod_int ?_ ?_
    · decide
    have q0 : 0 ≤ (f0.fdiv 56).fmod 8 := Int.fmod_nonneg_of_pos _ (by decide)
    have q1 : (f0.fdiv 56).fmod 8 < 8 := Int.fmod_lt_of_pos _ (by decide)
    obtain ⟨x, hx, hcs⟩ := sign_at q0 q1
    refine ⟨"str", _, typeIs_str _ _ _, PySem.F.slot_str_getitem.lookup, ?_⟩
    refine PySem.P.getItem_str ?_ hcs ?_
    · have a1 : ¬ (f0.fdiv 56).fmod 8 < -(2 ^ 63) := by first | with_reducible assumption | decide | lia | omega
      have a2 : ¬ (f0.fdiv 56).fmod 8 ≥ 2 ^ 63 := by first | with_reducible assumption | decide | lia | omega
      rw [decide_eq_false a1, decide_eq_false a2]; rfl
    refine r_store S4 fun h5 tk5 S5 => ?_
    refine x_assign ?_
    refine r_call ?_
    refine r_global S5 (by exact rfl) ?_
    refine r_cwF2 (o := o136) (fd := fd136) ?_
    refine r_name S5 (by exact lr) ?_
    refine r_int ?_
    refine ⟨⟨S5.f (S5.st.b.k _ _ k136), f136⟩, ?_⟩
    refine Fn.useT (written_fn 4 f 0 (by first | with_reducible assumption | decide | lia | omega) (by first | with_reducible assumption | decide | lia | omega) fok F' l vs n1 _ hl har) C.mono S5 ?_
    intro F6 h6 tk6 t6 le6 S6
    refine r_store S6 fun h7 tk7 S7 => ?_
    exact H _ _ _ _ f x (le.trans le6) S7 ⟨fn, fok, hx, ⟨l, vs, n1, by exact lr, le6 _ _ hl, har.up fun _ _ z => z.up le6⟩, ⟨_, by exact rfl⟩, ⟨t6, by exact rfl⟩, ⟨ts, by exact ls⟩⟩
  · exact ⟨le2, rfl, [], r0, [], 0, _, ⟨.nil, rfl, rfl, rfl⟩, by exact rfl, hp2, .nil, by exact lf, by exact rfl⟩
end
end Mine
end
section
open PySem PySem.W PyProof.Rows PySem.Calls
set_option autoImplicit false
set_option maxRecDepth 100000
namespace Mine
noncomputable def firstF (x : Nat) (f : Fo Nat) : List (Fo Nat) := ((laid x f).map pluck).flatten
noncomputable def secondF (x : Nat) (f : Fo Nat) : List (Fo Nat) := ((pluck f).map (laid x)).flatten
theorem txs_of {vs : List Value} {xs : List (List Nat)} (h : All2 textOf vs xs) : ∃ ts : List (List Nat × Tok), vs = txs ts ∧ ts.map (·.1) = xs := by
  induction h with
  | nil => exact ⟨[], rfl, rfl⟩
  | cons h _ ih =>
    obtain ⟨t, rfl⟩ := h
    obtain ⟨ts, rfl, e⟩ := ih
    exact ⟨(_, t) :: ts, rfl, by rw [List.map_cons, e]⟩
theorem laid_len' {α : Type} (x : α) (f : Fo α) : (laid x f).length = 2 * f.nodes + 1 := by
  rw [laid, List.length_append, ins1_len]; exact laid_len x f
section
variable {prog : Program} {w : World} {A : Around} {E : Value → Shared → Prop} {h : Heap} {F : Fz} {M : List (Addr × Obj)} {L a : Addr} {V : List (Str × Value)} {g : Array GenState} {d : Drawn} {tk : Nat} {os : OsState}
  {cd : Value} {cl : List (Str × Addr)}
/- what the loop keeps -/
inductive FirI (F3 : Fz) (fl : Addr) (M : List (Addr × Obj)) (f : Fo Nat) (x : Nat) (i : Nat) (F' : Fz) (M' : List (Addr × Obj)) (V' : List (Str × Value)) : Prop
  | mk (h1_ : Le F3 F') (ts : List (List Nat × Tok)) (n : Nat) (h2_ : M' = (fl, lstObj (txs ts) n) :: M) (h3_ : ts.map (·.1) = (((laid x f).take i).map pluck).flatten.map R) (h4_ : ts.length ≤ 10 * i) (h5_ : Has V' "first" (.ref fl)) (h6_ : Facts F' V' f x) : FirI F3 fl M f x i F' M' V'
/- what the loop keeps -/
inductive SecI (F7 : Fz) (sl fl : Addr) (ts1 : List (List Nat × Tok)) (n1 : Nat) (M : List (Addr × Obj)) (f : Fo Nat) (x : Nat) (i : Nat) (F' : Fz) (M' : List (Addr × Obj)) (V' : List (Str × Value)) : Prop
  | mk (h1_ : Le F7 F') (ts : List (List Nat × Tok)) (n : Nat) (h2_ : M' = (sl, lstObj (txs ts) n) :: (fl, lstObj (txs ts1) n1) :: M) (h3_ : ts.map (·.1) = (((pluck f).take i).map (laid x)).flatten.map R) (h4_ : ts.length ≤ 10 * i) (h5_ : Has V' "first" (.ref fl)) (h6_ : Has V' "second" (.ref sl)) (h7_ : Facts F' V' f x) : SecI F7 sl fl ts1 n1 M f x i F' M' V'
set_option maxHeartbeats 8000000 in
theorem seg2 {f : Fo Nat} {x : Nat} {Q : Flow → Shared → Prop} (C : Cx A 90 900) (S : Sf w h F M L V) (X : Facts F V f x)
    (H : ∀ F' h' tk' V' fl sl ts1 ts2 n1 n2, Le F F' → Sf w h' F' ((sl, lstObj (txs ts2) n2) :: (fl, lstObj (txs ts1) n1) :: M) L V' → Facts F' V' f x → Has V' "first" (.ref fl) → Has V' "second" (.ref sl) →
      ts1.map (·.1) = (firstF x f).map R → ts2.map (·.1) = (secondF x f).map R → ts1.length ≤ 70 → ts2.length ≤ 30 → wpAny (model prog w) A (execs (lawB.drop 10) (envX "law" lawS L a cd cl)) Q E ⟨h', g, d, tk', os⟩) :
    wpAny (model prog w) A (execs (lawB.drop 6) (envX "law" lawS L a cd cl)) Q E ⟨h, g, d, tk, os⟩ := by
  obtain ⟨o108, fd108, k108, f108⟩ : ∃ o fd, (KF w).lookup 108 = some o ∧ o.data = .func fd := ⟨_, _, by exact rfl, rfl⟩
  obtain ⟨o115, fd115, k115, f115⟩ : ∃ o fd, (KF w).lookup 115 = some o ∧ o.data = .func fd := ⟨_, _, by exact rfl, rfl⟩
  have hn3 := X.n3
  have hok := X.ok
  have hokx := X.okx
  have hfn : f ≠ .nil := by intro e; rw [e] at hn3; cases hn3
  refine x_assign ?_
  refine r_list0 ?_
  have S1 := S.push (o := lstObj [] 0) rfl
  refine r_store S1 fun h2 tk2 S2 => ?_
  generalize h.objs.size = fl at S2
  have X2 := X.sto (y := "first") (v := .ref fl)
  refine xl_for ?_
  refine r_call ?_
  refine r_global S2 (by exact rfl) ?_
  refine r_cwF2 (o := o108) (fd := fd108) ?_
  obtain ⟨bt, lb⟩ := X2.begun
  obtain ⟨nt, ln⟩ := X2.name
  refine r_name S2 lb ?_
  refine r_name S2 ln ?_
  refine ⟨⟨S2.f (S2.st.b.k _ _ k108), f108⟩, ?_⟩
  refine Fn.useL (laid_fn 5 f x (by first | with_reducible assumption | decide | lia | omega) (by first | with_reducible assumption | decide | lia | omega) hfn hok hokx F bt nt) C.mono S2 ?_
  intro F3 h3 tk3 il ivs inn le3 S3 hil ail
  show wpAny _ _ _ _ _ ⟨_, g, d, _, os⟩
  refine loop_list (l := il) (vs := ivs) (FirI F3 fl M f x) C.hd ?_ ?_ ?_ S3 ?_
  · rintro i F' M' V' ⟨le, _⟩
    exact .inl ⟨inn, le _ _ hil⟩
  · rintro i y F' M' V' N h4 tk4 E4 P hP hy ⟨le, ts, n, rfl, hts, hz, lf, X4⟩ S4
    obtain ⟨yt, hyt, ty, rfl⟩ := ail.get hy
    rw [List.getElem?_map] at hyt
    obtain ⟨u, hu, rfl⟩ := Option.map_eq_some_iff.mp hyt
    have hi7 : i < 7 := by have := (List.getElem?_eq_some_iff.mp hu).1; rw [laid_len', hn3] at this; exact this
    have SLe := laid_mem (p := okL) f.nodes (Nat.le_refl _) (List.mem_of_getElem? hu)
    have un := SLe.1
    have uok := SLe.2.1
    have unil := SLe.2.2
    clear SLe
    refine wpAny_assign_Name (r_store S4 fun h5 tk5 S5 => ?_)
    refine x_expr ?_
    refine r_meth (v := .ref fl) S5 (by exact lf) ⟨_, S5.m (.head _), rfl⟩ (fun b hb => by cases hb; exact ⟨_, S5.m (.head _), rfl⟩) PySem.F.plainAttrs_list PySem.F.slot_list_extend PySem.F.type_list_extend ?_
    refine r_cwB1 ?_
    refine r_call ?_
    refine r_global S5 (by exact rfl) ?_
    refine r_cwF1 (o := o115) (fd := fd115) ?_
    refine r_name S5 (by exact rfl) ?_
    refine ⟨⟨S5.f (S5.st.b.k _ _ k115), f115⟩, ?_⟩
    refine Fn.useL (pluck_fn 5 u (by first | with_reducible assumption | decide | lia | omega) (by first | with_reducible assumption | decide | lia | omega) unil (uok hokx hok) F' ty) C.mono S5 ?_
    intro F6 h6 tk6 jl jvs jn le6 S6 hjl ajl
    obtain ⟨ts3, rfl, hts3⟩ := txs_of ajl
    have hz3 : ts3.length ≤ 4 := by
      have e := congrArg List.length hts3
      rw [List.length_map, List.length_map] at e
      have := pluck_len u
      unfold pluck at e
      first | with_reducible assumption | decide | lia | omega
    refine wp_extend (M1 := []) S6 (S6.f hjl) (by rw [List.length_map, List.length_map]; first | with_reducible assumption | decide | lia | omega) fun h7 n7 S7 => ?_
    refine x_nil ?_
    refine hP ⟨F6, (fl, lstObj (txs (ts ++ ts3)) n7) :: M, _, h7, tk6, rfl, by rw [txs, List.map_append]; exact S7, le.trans le6, _, n7, rfl, ?_, by rw [List.length_append]; first | with_reducible assumption | decide | lia | omega, by exact lf, (X4.up le6).sto⟩
    rw [List.map_append, hts, hts3, List.take_add_one, hu]
    simp
  · rintro F4 M' V' h4 tk4 ⟨le4, ts1, n1, rfl, hts1, hz1, lf, X4⟩ S4
    have e1 : ivs.length = 7 := by rw [ail.len, List.length_map, laid_len', hn3]
    rw [e1] at hts1 hz1
    rw [List.take_of_length_le (by rw [laid_len', hn3]; first | with_reducible assumption | decide | lia | omega)] at hts1
    clear S1 S2 S3 X2 lb ln
    refine x_assign ?_
    refine r_list0 ?_
    have S5 := S4.push (o := lstObj [] 0) rfl
    refine r_store S5 fun h6 tk6 S6 => ?_
    generalize h4.objs.size = sl at S6
    have X6 := X4.sto (y := "second") (v := .ref sl)
    refine xl_for ?_
    refine r_call ?_
    refine r_global S6 (by exact rfl) ?_
    refine r_cwF1 (o := o115) (fd := fd115) ?_
    obtain ⟨bt, lb⟩ := X6.begun
    refine r_name S6 lb ?_
    refine ⟨⟨S6.f (S6.st.b.k _ _ k115), f115⟩, ?_⟩
    refine Fn.useL (pluck_fn 5 f (by first | with_reducible assumption | decide | lia | omega) (by first | with_reducible assumption | decide | lia | omega) hfn hok F4 bt) C.mono S6 ?_
    intro F7 h7 tk7 jl jvs jn le7 S7 hjl ajl
    show wpAny _ _ _ _ _ ⟨_, g, d, _, os⟩
    refine loop_list (l := jl) (vs := jvs) (SecI F7 sl fl ts1 n1 M f x) C.hd ?_ ?_ ?_ S7 ?_
    · rintro i F' M' V' ⟨le, _⟩
      exact .inl ⟨jn, le _ _ hjl⟩
    · rintro i y F' M' V' N h8 tk8 E8 P hP hy ⟨le, ts, n, rfl, hts, hz, lf, lsd, X8⟩ S8
      obtain ⟨yt, hyt, ty, rfl⟩ := ajl.get hy
      rw [List.getElem?_map] at hyt
      obtain ⟨u, hu, rfl⟩ := Option.map_eq_some_iff.mp hyt
      have hi3 : i < 3 := by
        have h1 := (List.getElem?_eq_some_iff.mp hu).1
        have h2 := pluck_len f
        unfold pluck at h1
        first | with_reducible assumption | decide | lia | omega
      have SLe := pluck_mem (p := okL) f.nodes (Nat.le_refl _) (List.mem_of_getElem? hu)
      have un := SLe.1
      have uok := SLe.2
      clear SLe
      have unil : u ≠ .nil := by intro e; rw [e, hn3] at un; cases un
      obtain ⟨nt, ln⟩ := X8.name
      refine wpAny_assign_Name (r_store S8 fun h9 tk9 S9 => ?_)
      refine x_expr ?_
      refine r_meth (v := .ref sl) S9 (by exact lsd) ⟨_, S9.m (.head _), rfl⟩ (fun b hb => by cases hb; exact ⟨_, S9.m (.head _), rfl⟩) PySem.F.plainAttrs_list PySem.F.slot_list_extend PySem.F.type_list_extend ?_
      refine r_cwB1 ?_
      refine r_call ?_
      refine r_global S9 (by exact rfl) ?_
      refine r_cwF2 (o := o108) (fd := fd108) ?_
      refine r_name S9 (by exact rfl) ?_
      refine r_name S9 (by exact ln) ?_
      refine ⟨⟨S9.f (S9.st.b.k _ _ k108), f108⟩, ?_⟩
      refine Fn.useL (laid_fn 5 u x (by first | with_reducible assumption | decide | lia | omega) (by first | with_reducible assumption | decide | lia | omega) unil (uok hok) hokx F' ty nt) C.mono S9 ?_
      intro F10 h10 tk10 ml mvs mn le10 S10 hml aml
      obtain ⟨ts3, rfl, hts3⟩ := txs_of aml
      have hz3 : ts3.length = 2 * u.nodes + 1 := by
        have e := congrArg List.length hts3
        rw [List.length_map, List.length_map, laid_len'] at e
        exact e
      refine wp_extend (M1 := []) S10 (S10.f hml) (by rw [List.length_map, List.length_map]; first | with_reducible assumption | decide | lia | omega) fun h11 n11 S11 => ?_
      refine x_nil ?_
      refine hP ⟨F10, (sl, lstObj (txs (ts ++ ts3)) n11) :: (fl, lstObj (txs ts1) n1) :: M, _, h11, tk10, rfl, by rw [txs, List.map_append]; exact S11, le.trans le10, _, n11, rfl, ?_, by rw [List.length_append]; first | with_reducible assumption | decide | lia | omega, by exact lf, by exact lsd, (X8.up le10).sto⟩
      rw [List.map_append, hts, hts3, List.take_add_one, hu]
      simp
    · rintro F8 M' V' h8 tk8 ⟨le8, ts2, n2, rfl, hts2, hz2, lf, lsd, X8⟩ S8
      have e2 : jvs.length ≤ 3 := by
        rw [ajl.len, List.length_map]
        have := pluck_len f
        unfold pluck
        first | with_reducible assumption | decide | lia | omega
      rw [List.take_of_length_le (by rw [ajl.len, List.length_map]; exact Nat.le_refl _)] at hts2
      exact H _ _ _ _ fl sl ts1 ts2 n1 n2 (le3.trans (le4.trans (le7.trans le8))) S8 X8 lf lsd hts1 hts2 hz1 (by first | with_reducible assumption | decide | lia | omega)
    · exact ⟨Le.refl _, [], 0, rfl, rfl, Nat.zero_le _, by exact lf, by exact rfl, X6.up le7⟩
  · exact ⟨Le.refl _, [], 0, rfl, rfl, Nat.zero_le _, by exact rfl, X2.up le3⟩
end
end Mine
end
section
open PySem PySem.W PyProof.Rows PySem.Calls
set_option autoImplicit false
set_option maxRecDepth 100000
namespace Mine
/- ys is xs in order -/
noncomputable def Srt (ys xs : List (List Nat)) : Prop := ys.Perm xs ∧ ys.Pairwise fun a b => ¬ b < a
theorem sorted_pw : ∀ ss : List Str, sortedS ss = true → (ss.map fun s => s.cps.toList).Pairwise fun a b => ¬ b < a := by
  have tr : ∀ {a b c : List Nat}, ¬ b < a → ¬ c < b → ¬ c < a := by
    intro a b c h1 h2 h3
    have h1' : a ≤ b := h1
    have h2' : b ≤ c := h2
    exact absurd h3 (List.le_trans h1' h2')
  have key : ∀ (r : List Str) (p : Str), risingS p r = true → (∀ y ∈ r, ¬ y.cps.toList < p.cps.toList) ∧ (r.map fun s => s.cps.toList).Pairwise fun a b => ¬ b < a := by
    intro r
    induction r with
    | nil => intro p _; exact ⟨fun y hy => (by cases hy), .nil⟩
    | cons x r ih =>
      intro p hp
      rw [risingS, Bool.and_eq_true, ltCps_eq] at hp
      obtain ⟨h1, h2⟩ := hp
      have h1' : ¬ x.cps.toList < p.cps.toList := by simpa using h1
      obtain ⟨h3, h4⟩ := ih x h2
      refine ⟨fun y hy => ?_, ?_⟩
      · rcases List.mem_cons.mp hy with rfl | hy
        · exact h1'
        · exact tr h1' (h3 y hy)
      · rw [List.map_cons, List.pairwise_cons]
        refine ⟨fun b hb => ?_, h4⟩
        obtain ⟨y, hy, rfl⟩ := List.mem_map.mp hb
        exact h3 y hy
  intro ss hs
  cases ss with
  | nil => exact .nil
  | cons x r =>
    obtain ⟨h3, h4⟩ := key r x hs
    rw [List.map_cons, List.pairwise_cons]
    refine ⟨fun b hb => ?_, h4⟩
    obtain ⟨y, hy, rfl⟩ := List.mem_map.mp hb
    exact h3 y hy
theorem T_list (s : Str) : T s.cps.toList = s := by cases s; simp [T]
theorem strs_txs (ts : List (List Nat × Tok)) : StrsAre (txs ts) (ts.map fun p => T p.1) := by
  induction ts with
  | nil => exact .nil
  | cons p ts ih => exact .cons _ _ ih
theorem txs_strs {vs : List Value} {ss : List Str} (h : StrsAre vs ss) : ∃ ts : List (List Nat × Tok), vs = txs ts ∧ ts.map (·.1) = ss.map fun s => s.cps.toList := by
  induction h with
  | nil => exact ⟨[], rfl, rfl⟩
  | cons y t _ ih =>
    obtain ⟨ts, rfl, e⟩ := ih
    exact ⟨(y.cps.toList, t) :: ts, by show _ = Value.str (T y.cps.toList) t :: txs ts; rw [T_list], by rw [List.map_cons, List.map_cons, e]⟩
/- data that may be compared -/
noncomputable def dTexts (xs : List (List Nat)) : PyData := .list (xs.map fun x => .str (T x))
noncomputable def okT (x : List Nat) : Prop := ∀ c ∈ x, c < 0x110000
theorem okT_str {x : List Nat} (h : okT x) : PyData.strOk (T x) = true := by
  show (Array.all _ _) = true
  rw [List.all_toArray]
  exact List.all_eq_true.mpr fun c hc => decide_eq_true (h c hc)
theorem dTexts_ok {xs : List (List Nat)} (h : ∀ x ∈ xs, okT x) : (dTexts xs).canLay0 = true ∧ (dTexts xs).depth ≤ 2 := by
  induction xs with
  | nil => exact ⟨rfl, by decide⟩
  | cons x xs ih =>
    obtain ⟨h1, h2⟩ := ih fun y hy => h y (.tail _ hy)
    have h3 := okT_str (h x (.head _))
    simp only [dTexts, PyData.canLay0, PyData.depth] at h1 h2 ⊢
    simp only [List.map_cons, PyData.canLayAll0, PyData.canLay0, PyData.depthAll, PyData.depth, h1, h3, Bool.and_self, true_and]
    first | with_reducible assumption | decide | lia | omega
theorem reads_txs (h : Heap) (ts : List (List Nat × Tok)) : ReadsAll h (txs ts) (ts.map fun p => .str (T p.1)) [] := by
  induction ts with
  | nil => exact .nil
  | cons p ts ih => exact .cons (as := []) (.str _ _) ih
theorem reads_texts {h : Heap} {l : Addr} {ts : List (List Nat × Tok)} {n : Nat} (e : h.get? l = some (lstObj (txs ts) n)) : Reads h (.ref l) (dTexts (ts.map (·.1))) [l] := by
  have := Reads.list (xs := ts.map fun p => PyData.str (T p.1)) e rfl rfl (by simpa using reads_txs h ts)
  rw [dTexts, List.map_map]
  exact this
section
variable {prog : Program} {w : World} {A : Around} {E : Value → Shared → Prop} {h : Heap} {F : Fz} {M : List (Addr × Obj)} {L a l : Addr} {V : List (Str × Value)} {g : Array GenState} {d : Drawn} {tk : Nat} {os : OsState}
  {cd : Value} {cl : List (Str × Addr)}
theorem r_sameEq {u v : Value} {x : PyData} {as bs : List Addr} {Q : Value → Shared → Prop} (hu : A.units + 64 < cLine) (ra : Reads h u x as) (rb : Reads h v x bs) (h1 : x.canLay0 = true) (h2 : x.depth ≤ 64) (H : Q (.bool true) ⟨h, g, d, tk, os⟩) :
    wpAny (model prog w) A (compareOp .Eq u v) Q E ⟨h, g, d, tk, os⟩ := by
  have hs : SeqAt.shaped x = true := by unfold SeqAt.shaped; rw [h1, decide_eq_true h2]; rfl
  refine eq_dataH ra rb hs hs hu ?_
  rw [PySem.SeqAt.eqv_refl x h1]; exact H
theorem r_sameNe {u v : Value} {x : PyData} {as bs : List Addr} {Q : Value → Shared → Prop} (hu : A.units + 64 < cLine) (ra : Reads h u x as) (rb : Reads h v x bs) (h1 : x.canLay0 = true) (h2 : x.depth ≤ 64) (H : Q (.bool false) ⟨h, g, d, tk, os⟩) :
    wpAny (model prog w) A (compareOp .NotEq u v) Q E ⟨h, g, d, tk, os⟩ := by
  have hs : SeqAt.shaped x = true := by unfold SeqAt.shaped; rw [h1, decide_eq_true h2]; rfl
  refine ne_dataH ra rb hs hs hu ?_
  rw [PySem.SeqAt.eqv_refl x h1]; exact H
theorem r_mulL {vs : List Value} {n : Nat} {x : Int} {t : Tok} {Q : Value → Shared → Prop} (hl : h.get? l = some (lstObj vs n)) (hne : vs ≠ []) (hz : vs.length * x.toNat ≤ 2 ^ 20) (hk : 0 ≤ x ∧ x ≤ 1000)
    (H : Q (.ref h.objs.size) ⟨h.push (lstObj (List.replicate x.toNat vs).flatten 0), g, d, tk, os⟩) :
    wpAny (model prog w) A (binaryOp .Mult (.ref l) (.int x t)) Q E ⟨h, g, d, tk, os⟩ := by
  have hz' : vs.toArray.size * x.toNat ≤ 2 ^ 20 := by rw [List.size_toArray]; exact hz
  have c0 : ¬ (!Builtin.List.listFitsIndex x) = true := by simp [Builtin.List.listFitsIndex]; first | with_reducible assumption | decide | lia | omega
  have c2 : ¬ Builtin.List.listTooLong (vs.toArray.size * x.toNat) = true := by
    unfold Builtin.List.listTooLong
    rw [decide_eq_true_eq, sizeLine_eq]
    generalize vs.toArray.size * x.toNat = z at hz'
    first | with_reducible assumption | decide | lia | omega
  have me := AutoListH.list___mul___list_int_3 l vs.toArray n x t c0 (by first | with_reducible assumption | decide | lia | omega) c2
  refine wpAny_binaryOp_repeat_ref (T := "list") (U := "int") (by decide) ⟨_, hl, rfl⟩ (fun s' => typeIs_int s' x t) noFill_list_mul PySem.F.fills_int_mul PySem.F.slot_int_rmul repeat_list PySem.F.slot_int_index.lookup ?_
  refine call_meets PySem.F.slot_int_rmul (typeIs_int _ x t) PySem.F.entry_int_rmul (PySem.F.args_int_rmul_2 _ _) (int___rmul___int_list x t l vs.toArray n) ?_
  refine ⟨hl, rfl, ⟨_, hl, rfl⟩, ?_⟩
  refine call_meets PySem.F.slot_list_mul (show (⟨h, g, d, tk, os⟩ : Shared).TypeIs (.ref l) "list" from ⟨_, hl, rfl⟩) PySem.F.entry_list_mul (PySem.F.args_list_mul_2 _ _) me ?_
  refine ⟨hl, ?_⟩
  have e : (vs.toArray.isEmpty) = false := by cases vs with | nil => exact absurd rfl hne | cons a b => rfl
  have e2 : List.foldl (fun x1 x2 => x1 ++ x2) #[] (List.replicate (if vs.toArray.isEmpty = true then 0 else x.toNat) vs.toArray) = ((List.replicate x.toNat vs).flatten).toArray := by
    rw [e, if_neg Bool.false_ne_true, listMul_foldl]; simp
  rw [e2]
  exact H
theorem r_sorted {ts : List (List Nat × Tok)} {n : Nat} {Q : Value → Shared → Prop} (S : Sf w h F M L V) (hl : h.get? l = some (lstObj (txs ts) n)) (hz : ts.length < 64)
    (H : ∀ F' h' c ts' n', Le F F' → Sf w h' F' M L V → F' c = some (lstObj (txs ts') n') → Srt (ts'.map (·.1)) (ts.map (·.1)) → Q (.ref c) ⟨h', g, d, tk, os⟩) :
    wpAny (model prog w) A (call (.builtin "sorted") [.ref l]) Q E ⟨h, g, d, tk, os⟩ := by
  refine sorted_strs ⟨_, hl, rfl, n, rfl⟩ (strs_txs ts) (by rw [List.length_map]; exact hz) fun out ss' h1 h2 h3 => ?_
  obtain ⟨ts', e1, e2⟩ := txs_strs h1
  obtain ⟨e, he⟩ := sortedAll_at h (txs ts) out
  have eo : out = (txs ts').toArray := by rw [← e1]
  subst eo
  have SLe := S.newF (a := h.objs.size + 1) (o := lstObj (txs ts') e) (h' := sortedAll h (txs ts) (txs ts').toArray) (fun b o hb => sortedAll_old hb) (Nat.le_succ _) he
  have S2 := SLe.1
  have le2 := SLe.2
  clear SLe
  refine H _ _ _ ts' e le2 S2 (ins_self _ _ _) ⟨?_, ?_⟩
  · rw [e2]
    have := h2.map fun s => s.cps.toList
    rw [List.map_map] at this
    exact this
  · rw [e2]; exact sorted_pw ss' h3
theorem r_copy {vs : List Value} {n : Nat} {Q : Value → Shared → Prop} (S : Sf w h F M L V) (hl : h.get? l = some (lstObj vs n)) (hz : vs.length ≤ 2 ^ 20)
    (H : ∀ h' c n', Sf w h' F ((c, lstObj vs n') :: M) L V → Q (.ref c) ⟨h', g, d, tk, os⟩) : wpAny (model prog w) A (call (.type "list") [.ref l]) Q E ⟨h, g, d, tk, os⟩ := by
  refine call_list_seq l (.inl rfl) hl rfl rfl (fun h' c' k' e => ?_) (by rw [List.size_toArray, sizeLine_eq]; first | with_reducible assumption | decide | lia | omega)
  exact H h' _ c' (S.newAt k' (Nat.le_refl _) e)
end
end Mine
end
section
open PySem PySem.W PyProof.Rows PySem.Calls
set_option autoImplicit false
set_option maxRecDepth 100000
namespace Mine
noncomputable def dueK (x : Nat) (f : Fo Nat) (k : Nat) : List (List Nat) := List.replicate 7 (R f) ++ ((List.range k).filter (leafR (rowsOf 0 f))).map fun j => R (rel x f j)
noncomputable def onceK (x : Nat) (f : Fo Nat) (k : Nat) : List (List Nat) := if (List.range k).any (fun j => leafR (rowsOf 0 f) j && (((rowsOf 0 f).getD j (0, 0)).2 == x)) then [] else [R f]
section
variable {prog : Program} {w : World} {A : Around} {E : Value → Shared → Prop} {h : Heap} {F : Fz} {M : List (Addr × Obj)} {L a : Addr} {V : List (Str × Value)} {g : Array GenState} {d : Drawn} {tk : Nat} {os : OsState}
  {cd : Value} {cl : List (Str × Addr)}
/- what the loop keeps -/
inductive DueI (F7 : Fz) (dl fl sl : Addr) (M : List (Addr × Obj)) (f : Fo Nat) (x : Nat) (i : Nat) (F' : Fz) (M' : List (Addr × Obj)) (V' : List (Str × Value)) : Prop
  | mk (h1_ : Le F7 F') (td : List (List Nat × Tok)) (n : Nat) (ol : Addr) (ot : List (List Nat × Tok)) (no : Nat) (h2_ : M' = (dl, lstObj (txs td) n) :: M) (h3_ : td.map (·.1) = dueK x f i) (h4_ : F' ol = some (lstObj (txs ot) no)) (h5_ : ot.map (·.1) = onceK x f i) (h6_ : td.length ≤ 7 + i) (h7_ : Has V' "first" (.ref fl)) (h8_ : Has V' "second" (.ref sl)) (h9_ : Has V' "due" (.ref dl)) (h10_ : Has V' "once" (.ref ol)) (h11_ : Facts F' V' f x) : DueI F7 dl fl sl M f x i F' M' V'
set_option maxHeartbeats 8000000 in
theorem seg3 {f : Fo Nat} {x : Nat} {fl sl : Addr} {Q : Flow → Shared → Prop} (C : Cx A 90 900) (S : Sf w h F M L V) (X : Facts F V f x) (lf : Has V "first" (.ref fl)) (lsd : Has V "second" (.ref sl))
    (H : ∀ F' h' tk' V' dl td nd ol ot no, Le F F' → Sf w h' F' M L V' → Facts F' V' f x → Has V' "first" (.ref fl) → Has V' "second" (.ref sl) → Has V' "due" (.ref dl) → F' dl = some (lstObj (txs td) nd) → Srt (td.map (·.1)) (dueK x f 3) →
      Has V' "once" (.ref ol) → F' ol = some (lstObj (txs ot) no) → ot.map (·.1) = onceK x f 3 → wpAny (model prog w) A (execs (lawB.drop 14) (envX "law" lawS L a cd cl)) Q E ⟨h', g, d, tk', os⟩) :
    wpAny (model prog w) A (execs (lawB.drop 10) (envX "law" lawS L a cd cl)) Q E ⟨h, g, d, tk, os⟩ := by
  obtain ⟨o136, fd136, k136, f136⟩ : ∃ o fd, (KF w).lookup 136 = some o ∧ o.data = .func fd := ⟨_, _, by exact rfl, rfl⟩
  have hn3 := X.n3
  have hok := X.ok
  have hokx := X.okx
  have hrl : (rowsOf 0 f).length = 3 := by rw [rowsOf_len, hn3]
  obtain ⟨bt, lb⟩ := X.begun
  refine x_assign ?_
  refine wpAny_BinOp ?_
  refine r_list1 ?_
  refine r_name S lb ?_
  refine r_int ?_
  have S1 := S.ext (h' := h.push (lstObj [.str (T (R f)) bt] 0)) (fun _ _ e => Heap.get?_push_of_some _ e)
  refine r_mulL (Heap.get?_push_size _ rfl) (by simp) (by simp) (by first | with_reducible assumption | decide | lia | omega) ?_
  generalize h.push (lstObj [.str (T (R f)) bt] 0) = h1 at S1 ⊢
  have edue : (List.replicate (7 : Int).toNat [Value.str (T (R f)) bt]).flatten = txs (List.replicate 7 (R f, bt)) := rfl
  rw [edue]
  have S2 := S1.push (o := lstObj (txs (List.replicate 7 (R f, bt))) 0) rfl
  refine r_store S2 fun h3 tk3 S3 => ?_
  generalize h1.objs.size = dl at S3
  refine x_assign ?_
  refine r_list1 ?_
  refine r_name S3 (has_sto lb (by decide)) ?_
  have SLe := S3.pushF (o := lstObj (txs [(R f, bt)]) 0) rfl
  have S4 := SLe.1
  have le4 := SLe.2
  clear SLe
  have o4 := ins_self F h3.objs.size (lstObj (txs [(R f, bt)]) 0)
  generalize ins F h3.objs.size (lstObj (txs [(R f, bt)]) 0) = F4 at S4 le4 o4
  refine r_store S4 fun h5 tk5 S5 => ?_
  generalize h3.objs.size = ol at S5 o4
  clear S1 S2 S3 S4
  refine xl_for ?_
  refine r_range S5 ?_
  refine r_int ?_
  refine ⟨_, _, _, rfl, rfl, fun F7 h7 rc tk8 q1 q2 q3 le7 S7 hrc => ?_⟩
  show wpAny _ _ _ _ _ ⟨_, g, d, _, os⟩
  refine loop_range (n := 3) (DueI F7 dl fl sl M f x) C.hd hrc (by decide) (by decide) (by decide) ?_ ?_ S7 ?_
  · rintro i F' M' V' N h8 tk9 ti E8 P hP hi ⟨le8, td, n8, ol8, ot8, no8, rfl, htd, hol, hot, hz8, lf, lsd, ld, lo, X8⟩ S8
    rw [Int.zero_add]
    refine wpAny_assign_Name (r_store S8 fun h9 tk10 S9 => ?_)
    have X9 := X8.sto (y := "k") (v := .int (i : Nat) ti)
    obtain ⟨rl, rvs, rn, lr, hrw, har⟩ := X9.rows
    obtain ⟨nt, ln⟩ := X9.name
    have hvl : rvs.length = 3 := by rw [har.len, hrl]
    have gi : ∀ j, j < 3 → (rowsOf 0 f)[j]? = some ((rowsOf 0 f).getD j (0, 0)) := fun j hj => by
      rw [List.getD_eq_getElem?_getD, List.getElem?_eq_getElem (by first | with_reducible assumption | decide | lia | omega)]; rfl
    have SLe := rel_rows hn3 x hi
    have hrel := SLe.1
    have hreln := SLe.2.1
    have hrelok := SLe.2.2
    clear SLe
    refine x_if (wpAny_mono (Q := fun b s => b = leafR (rowsOf 0 f) i ∧ ∃ tk', s = ⟨h9, g, d, tk', os⟩) ?_ ?_ (fun _ _ e => e))
    · refine isTrue_or ?_
      refine wpAny_isTrue_Compare1 ?_
      refine r_name S9 (by exact rfl) ?_
      refine r_int ?_
      first | with_reducible refine PySem.P.eq_int ?_ | refine PySem.P.eq_int ?_
      refine truthy_b ?_
      by_cases q : i = 2
      · subst q
        first | with_reducible refine on_t (by decide) ?_ | refine on_t (by decide) ?_ | rw [if_pos (by decide)]
        exact ⟨rfl, _, rfl⟩
      · rw [if_neg (by simp; first | with_reducible assumption | decide | lia | omega)]
        refine isTrue_or ?_
        refine wpAny_isTrue_Compare1 ?_
        refine r_row S9 lr hrw har (.inl rfl) (by first | with_reducible assumption | decide | lia | omega) ?_
        refine wpAny_BinOp ?_
        refine r_name S9 (by exact rfl) ?_
        refine r_int ?_
        first | with_reducible refine PySem.P.add_int ?_ | refine PySem.P.add_int ?_
        refine ⟨i + 1, _, _, _, rfl, rfl, gi (i + 1) (by first | with_reducible assumption | decide | lia | omega), fun t11 tk11 => ?_⟩
        first | with_reducible refine on_t rfl ?_ | refine on_t rfl ?_ | rw [if_pos rfl]
        refine r_row S9 lr hrw har (.inl rfl) (by first | with_reducible assumption | decide | lia | omega) ?_
        refine r_name S9 (by exact rfl) ?_
        refine ⟨i, _, _, _, rfl, rfl, gi i hi, fun t12 tk12 => ?_⟩
        first | with_reducible refine on_t rfl ?_ | refine on_t rfl ?_ | rw [if_pos rfl]
        first | with_reducible refine PySem.P.le_int ?_ | refine PySem.P.le_int ?_
        refine truthy_b ?_
        have e2 : (i == 2) = false := beq_eq_false_iff_ne.mpr q
        by_cases q2 : ((rowsOf 0 f).getD (i + 1) (0, 0)).1 ≤ ((rowsOf 0 f).getD i (0, 0)).1
        · rw [decide_eq_true q2, if_pos rfl]
          exact ⟨by unfold leafR; rw [e2, decide_eq_true q2]; rfl, _, rfl⟩
        · rw [decide_eq_false q2, if_neg Bool.false_ne_true]
          refine isTrue_or_nil ?_
          exact ⟨by unfold leafR; rw [e2, decide_eq_false q2]; rfl, _, rfl⟩
    · rintro b s ⟨rfl, tk11, rfl⟩
      have edue1 : dueK x f (i + 1) = dueK x f i ++ (if leafR (rowsOf 0 f) i then [R (rel x f i)] else []) := by
        unfold dueK
        rw [List.range_succ, List.filter_append, List.map_append, ← List.append_assoc]
        congr 1
        cases q0 : leafR (rowsOf 0 f) i <;> simp [q0]
      by_cases q : leafR (rowsOf 0 f) i = true
      · rw [if_pos q] at edue1
        first | refine on_t q ?_ | rw [if_pos q]
        refine x_expr ?_
        refine r_meth (v := .ref dl) S9 (by exact ld) ⟨_, S9.m (.head _), rfl⟩ (fun b hb => by cases hb; exact ⟨_, S9.m (.head _), rfl⟩) PySem.F.plainAttrs_list PySem.F.slot_list_append PySem.F.type_list_append ?_
        refine r_cwB1 ?_
        refine r_call ?_
        refine r_global S9 (by exact rfl) ?_
        refine r_cwF2 (o := o136) (fd := fd136) ?_
        refine wpAny_BinOp ?_
        refine wpAny_BinOp ?_
        refine r_lupto S9 lr hrw (by first | with_reducible assumption | decide | lia | omega) ?_
        refine r_name S9 (by exact rfl) ?_
        refine ⟨i, _, _, rfl, rfl, fun F10 h10 c1 le10 S10 o1 => ?_⟩
        refine r_list1 ?_
        refine r_tup2 ?_
        refine r_row S10 lr (le10 _ _ hrw) (har.up fun _ _ z => z.up le10) (.inl rfl) (by first | with_reducible assumption | decide | lia | omega) ?_
        refine r_name S10 (by exact rfl) ?_
        refine ⟨i, _, _, _, rfl, rfl, gi i hi, fun t12 tk12 => ?_⟩
        first | with_reducible refine on_t rfl ?_ | refine on_t rfl ?_ | rw [if_pos rfl]
        refine r_name S10 ln ?_
        have SLe := S10.pushF (o := tupObj [.int ((rowsOf 0 f).getD i (0, 0)).1 t12, .str (T [x]) nt]) rfl
        have S11 := SLe.1
        have le11 := SLe.2
        clear SLe
        have o2 := ins_self F10 h10.objs.size (tupObj [.int ((rowsOf 0 f).getD i (0, 0)).1 t12, .str (T [x]) nt])
        generalize ins F10 h10.objs.size (tupObj [.int ((rowsOf 0 f).getD i (0, 0)).1 t12, .str (T [x]) nt]) = F11 at S11 le11 o2
        dsimp only
        generalize h10.push (tupObj [.int ((rowsOf 0 f).getD i (0, 0)).1 t12, .str (T [x]) nt]) = h11 at S11 ⊢
        generalize h10.objs.size = tu at o2 ⊢
        have SLe := S11.pushF (o := lstObj [.ref tu] 0) rfl
        have S12 := SLe.1
        have le12 := SLe.2
        clear SLe
        have o3 := ins_self F11 h11.objs.size (lstObj [.ref tu] 0)
        generalize ins F11 h11.objs.size (lstObj [.ref tu] 0) = F12 at S12 le12 o3
        refine r_ladd S12 (le12 _ _ (le11 _ _ o1)) o3 (by rw [List.length_take, List.length_singleton]; first | with_reducible assumption | decide | lia | omega) fun F13 h13 c2 le13 S13 o5 => ?_
        have leC := (le10.trans le11).trans (le12.trans le13)
        refine r_lfrom S13 lr (leC _ _ hrw) (by first | with_reducible assumption | decide | lia | omega) ?_
        refine wpAny_BinOp ?_
        refine r_name S13 (by exact rfl) ?_
        refine r_int ?_
        first | with_reducible refine PySem.P.add_int ?_ | refine PySem.P.add_int ?_
        refine ⟨i + 1, _, _, rfl, rfl, fun F14 h14 c3 le14 S14 o6 => ?_⟩
        refine r_ladd S14 (le14 _ _ o5) o6 (by rw [List.length_append, List.length_take, List.length_singleton, List.length_drop]; first | with_reducible assumption | decide | lia | omega) fun F15 h15 c4 le15 S15 o7 => ?_
        refine r_int ?_
        refine ⟨⟨S15.f (S15.st.b.k _ _ k136), f136⟩, ?_⟩
        have leD := leC.trans (le14.trans le15)
        have har' : All2 (RowAt F15) rvs (rowsOf 0 f) := har.up fun _ _ z => z.up leD
        have harn : All2 (RowAt F15) (rvs.take i ++ [.ref tu] ++ rvs.drop (i + 1)) (rowsOf 0 (rel x f i)) := by
          rw [hrel]
          exact ((har'.take i).app (.cons ⟨_, _, _, rfl, (le12.trans (le13.trans (le14.trans le15))) _ _ o2⟩ .nil)).app (har'.drop (i + 1))
        refine Fn.useT (written_fn 4 (rel x f i) 0 (by first | with_reducible assumption | decide | lia | omega) (by first | with_reducible assumption | decide | lia | omega) (hrelok hok hokx) F15 c4 _ _ _ o7 harn) C.mono S15 ?_
        intro F16 h16 tk16 t16 le16 S16
        have leE := leD.trans le16
        refine wp_append (M1 := []) S16 (by rw [List.length_map, sizeLine_eq]; first | with_reducible assumption | decide | lia | omega) fun h17 n17 S17 => ?_
        have htd' : (td ++ [(R (rel x f i), t16)]).map (·.1) = dueK x f (i + 1) := by rw [List.map_append, htd, edue1]; rfl
        have hz' : (td ++ [(R (rel x f i), t16)]).length ≤ 7 + (i + 1) := by rw [List.length_append, List.length_singleton]; first | with_reducible assumption | decide | lia | omega
        refine x_if ?_
        refine wpAny_isTrue_Compare1 ?_
        refine r_row S17 lr (leE _ _ hrw) (har.up fun _ _ z => z.up leE) (.inr rfl) (by first | with_reducible assumption | decide | lia | omega) ?_
        refine r_name S17 (by exact rfl) ?_
        refine ⟨i, _, _, _, rfl, rfl, gi i hi, fun t18 tk18 => ?_⟩
        first | with_reducible refine on_f (by decide) ?_ | refine on_f (by decide) ?_ | rw [if_neg (by decide)]
        refine r_name S17 ln ?_
        first | with_reducible refine PySem.P.eq_str ?_ | refine PySem.P.eq_str ?_
        refine truthy_b ?_
        rw [eqT]
        by_cases q2 : ((rowsOf 0 f).getD i (0, 0)).2 = x
        · rw [if_pos (beq_iff_eq.mpr q2)]
          refine x_assign ?_
          refine r_list0 ?_
          have SLe := S17.pushF (o := lstObj (txs []) 0) rfl
          have S18 := SLe.1
          have le18 := SLe.2
          clear SLe
          have o8 := ins_self F16 h17.objs.size (lstObj (txs []) 0)
          generalize ins F16 h17.objs.size (lstObj (txs []) 0) = F18 at S18 le18 o8
          refine r_store S18 fun h19 tk19 S19 => ?_
          refine x_nil ?_
          refine x_nil ?_
          refine x_nil ?_
          refine hP ⟨F18, (dl, lstObj (txs (td ++ [(R (rel x f i), t16)])) n17) :: M, _, h19, tk19, rfl, by rw [txs_snoc]; exact S19, le8.trans (leE.trans le18), _, n17, _, [], 0, rfl, htd', o8, ?_, hz', by exact lf, by exact lsd, by exact ld, by exact rfl, ((X9.up leE).up le18).sto⟩
          show [] = onceK x f (i + 1)
          unfold onceK
          rw [if_pos]
          rw [List.range_succ, List.any_append, Bool.or_eq_true]
          refine .inr ?_
          rw [List.any_cons, q, Bool.true_and, beq_iff_eq.mpr q2]; rfl
        · rw [if_neg (fun e => q2 (beq_iff_eq.mp e))]
          refine x_nil ?_
          refine x_nil ?_
          refine x_nil ?_
          refine hP ⟨F16, (dl, lstObj (txs (td ++ [(R (rel x f i), t16)])) n17) :: M, _, h17, _, rfl, by rw [txs_snoc]; exact S17, le8.trans leE, _, n17, ol8, ot8, no8, rfl, htd', leE _ _ hol, ?_, hz', by exact lf, by exact lsd, by exact ld, by exact lo, X9.up leE⟩
          rw [hot]
          unfold onceK
          rw [List.range_succ, List.any_append]
          have : (((rowsOf 0 f).getD i (0, 0)).2 == x) = false := beq_eq_false_iff_ne.mpr q2
          rw [List.any_cons, this, Bool.and_false, List.any_nil, Bool.or_false, Bool.or_false]
      · rw [if_neg q] at edue1
        first | refine on_f q ?_ | rw [if_neg q]
        refine x_nil ?_
        refine x_nil ?_
        refine hP ⟨F', (dl, lstObj (txs td) n8) :: M, _, h9, _, rfl, S9, le8, td, n8, ol8, ot8, no8, rfl, by rw [htd, edue1, List.append_nil], hol, ?_, by first | with_reducible assumption | decide | lia | omega, by exact lf, by exact lsd, by exact ld, by exact lo, X9⟩
        rw [hot]
        unfold onceK
        rw [List.range_succ, List.any_append]
        have : leafR (rowsOf 0 f) i = false := by simpa using q
        rw [List.any_cons, this, Bool.false_and, List.any_nil, Bool.or_false, Bool.or_false]
  · rintro F' M' V' h8 tk9 ⟨le8, td, n8, ol8, ot8, no8, rfl, htd, hol, hot, hz8, lf, lsd, ld, lo, X8⟩ S8
    refine x_assign ?_
    refine r_call ?_
    refine r_builtin S8 (by exact rfl) (v := .builtin "sorted") (by exact rfl) (by decide) ?_
    refine r_cwB1 ?_
    refine r_name S8 ld ?_
    refine r_sorted S8 (S8.m (.head _)) (by first | with_reducible assumption | decide | lia | omega) fun F9 h9 c9 td9 n9 le9 S9 o9 hs9 => ?_
    refine r_store S9 fun h10 tk10 S10 => ?_
    refine H _ _ _ _ c9 td9 n9 ol8 ot8 no8 (le4.trans (le7.trans (le8.trans le9))) S10.tl (X8.up le9).sto (has_sto lf (by decide)) (has_sto lsd (by decide)) (by exact rfl) o9 ?_ (has_sto lo (by decide)) (le9 _ _ hol) hot
    rw [← htd]; exact hs9
  · exact ⟨Le.refl _, _, _, ol, [(R f, bt)], 0, rfl, rfl, le7 _ _ o4, rfl, Nat.le_refl _, by exact lf, by exact lsd, by exact rfl, by exact rfl, ((X.up le4).up le7).sto.sto⟩
end
end Mine
end
section
open PySem PySem.W PyProof.Rows PySem.Calls
set_option autoImplicit false
set_option maxRecDepth 100000
namespace Mine
theorem esc_mem : ∀ {v : List Nat} {c : Nat}, c ∈ esc v → c ∈ v ∨ c = 92
  | [], _, h => nomatch h
  | a :: r, c, h => by
    have e : esc (a :: r) = if fJesc a then 92 :: a :: esc r else a :: esc r := rfl
    rw [e] at h
    split at h
    · rcases List.mem_cons.mp h with rfl | h
      · exact .inr rfl
      · rcases List.mem_cons.mp h with rfl | h
        · exact .inl (.head _)
        · exact (esc_mem h).imp (.tail _) id
    · rcases List.mem_cons.mp h with rfl | h
      · exact .inl (.head _)
      · exact (esc_mem h).imp (.tail _) id
theorem valT_mem {v : List Nat} {c : Nat} (h : c ∈ valT v) : c ∈ v ∨ c = 92 ∨ c = 34 := by
  unfold valT at h
  split at h
  · exact .inl h
  · rcases List.mem_cons.mp h with rfl | h
    · exact .inr (.inr rfl)
    · rcases List.mem_append.mp h with h | h
      · exact (esc_mem h).imp id .inl
      · rw [List.mem_singleton] at h; exact .inr (.inr h)
theorem R_okT : ∀ {f : Fo Nat}, f.all okL = true → okT (R f)
  | .nil, _ => fun c hc => nomatch hc
  | .cons a k r, h => by
    obtain ⟨h12, hr⟩ := Bool.and_eq_true_iff.mp h
    obtain ⟨ha, hk⟩ := Bool.and_eq_true_iff.mp h12
    have i1 := R_okT hk
    have i2 := R_okT hr
    have i0 : a < 0x110000 := okL_all (P := fun c => c < 0x110000) (by decide) ha
    intro c hc
    rw [R] at hc
    rcases List.mem_cons.mp hc with rfl | hc
    · exact i0
    · rcases List.mem_append.mp hc with hc | hc
      · split at hc
        · cases hc
        · rcases List.mem_cons.mp hc with rfl | hc
          · decide
          · rcases valT_mem hc with q | rfl | rfl
            · exact i1 c q
            · decide
            · decide
      · split at hc
        · cases hc
        · rcases List.mem_cons.mp hc with rfl | hc
          · decide
          · rcases List.mem_cons.mp hc with rfl | hc
            · decide
            · exact i2 c hc
section
variable {prog : Program} {w : World} {A : Around} {E : Value → Shared → Prop} {h : Heap} {F : Fz} {M : List (Addr × Obj)} {L a : Addr} {V : List (Str × Value)} {g : Array GenState} {d : Drawn} {tk : Nat} {os : OsState}
  {cn : Str} {cs : Scope} {cd : Value} {cl : List (Str × Addr)}
theorem nso_slots {o : Obj} {sl : Array (Option Value)} (n : NsO o V) : NsO { o with slots := sl } V := let ⟨es, ep, h1, h2, h3⟩ := n; ⟨es, ep, h1, h2, h3⟩
theorem nso_nofields {o : Obj} (n : NsO o V) : ∀ vs, o.data ≠ .fields vs := fun vs e => by obtain ⟨es, ep, h1, _⟩ := n; rw [h1] at e; cases e
theorem sld_use {Q : Value → Shared → Prop} {xl yl : Addr} {xs ys : List (List Nat × Tok)} {n1 n2 : Nat} {m u : List (List Nat)} (hfr : A.frames = some [envX cn cs L a cd cl]) (hk : cs.kind = .function) (C : Cx A 3 20) (S : Sf w h F M L V)
    (hx : F xl = some (lstObj (txs xs) n1)) (hy : F yl = some (lstObj (txs ys) n2)) (U : Sld (xs.map (·.1)) (ys.map (·.1)) m u) (hz : xs.length ≤ 1000 ∧ ys.length ≤ 1000)
    (H : ∀ F' h' tk' b ml ul mt ut nm nu, Le F F' → Sf w h' F' M L V → F' b = some (tupObj [.ref ml, .ref ul]) → F' ml = some (lstObj (txs mt) nm) → F' ul = some (lstObj (txs ut) nu) →
      mt.map (·.1) = m → ut.map (·.1) = u → Q (.ref b) ⟨h', g, d, tk', os⟩) : wpAny (model prog w) A (call (.ref 38) [.ref xl, .ref yl]) Q E ⟨h, g, d, tk, os⟩ := by
  obtain ⟨oL, s, n⟩ := S
  refine sld_fn hfr rfl (by show cs.kind ≠ _; rw [hk]; decide) (nso_nofields n) C hx hy U hz s fun F' h' tk' b ml ul mt ut nm nu sl le s' h1 h2 h3 h4 h5 => ?_
  exact H F' h' tk' b ml ul mt ut nm nu le ⟨_, s', nso_slots n⟩ h1 h2 h3 h4 h5
end
noncomputable abbrev Zs : List (List Nat) := [[1114111], [1114111]]
/- what the sorted lists are asked to differ by -/
noncomputable def SldOk (x : Nat) (f : Fo Nat) : Prop := ∀ X Y, Srt X ((firstF x f).map R) → Srt Y ((secondF x f).map R) → Sld X (Y ++ Zs) (onceK x f 3) Zs ∧ Sld (Y ++ Zs) X Zs (onceK x f 3)
theorem onceK_ok {f : Fo Nat} (h : f.all okL = true) (x k : Nat) : ∀ y ∈ onceK x f k, okT y := by
  unfold onceK
  intro y hy
  split at hy
  · cases hy
  · rw [List.mem_singleton] at hy; subst hy; exact R_okT h
theorem Zs_ok : ∀ y ∈ Zs, okT y := by
  intro y hy c hc
  have : y = [1114111] := by simpa using hy
  subst this
  rw [List.mem_singleton] at hc; subst hc; decide
noncomputable def dTwo (a b : List (List Nat)) : PyData := .tuple [dTexts a, dTexts b]
theorem dTwo_ok {a b : List (List Nat)} (ha : ∀ x ∈ a, okT x) (hb : ∀ x ∈ b, okT x) : (dTwo a b).canLay0 = true ∧ (dTwo a b).depth ≤ 64 := by
  obtain ⟨h1, h2⟩ := dTexts_ok ha
  obtain ⟨h3, h4⟩ := dTexts_ok hb
  simp only [dTwo, PyData.canLay0, PyData.canLayAll0, PyData.depth, PyData.depthAll, h1, h3, Bool.and_self, true_and]
  first | with_reducible assumption | decide | lia | omega
theorem reads_two {h : Heap} {t m u : Addr} {mt ut : List (List Nat × Tok)} {n k : Nat} (e : h.get? t = some (tupObj [.ref m, .ref u])) (e1 : h.get? m = some (lstObj (txs mt) n)) (e2 : h.get? u = some (lstObj (txs ut) k)) :
    Reads h (.ref t) (dTwo (mt.map (·.1)) (ut.map (·.1))) [m, u] :=
  Reads.tuple e rfl rfl (.cons (as := [m]) (reads_texts e1) (.cons (as := [u]) (reads_texts e2) .nil))
section
variable {prog : Program} {w : World} {A : Around} {E : Value → Shared → Prop} {h : Heap} {F : Fz} {M : List (Addr × Obj)} {L a : Addr} {V : List (Str × Value)} {g : Array GenState} {d : Drawn} {tk : Nat} {os : OsState}
  {cd : Value} {cl : List (Str × Addr)}
set_option maxHeartbeats 8000000 in
theorem seg4 {f : Fo Nat} {x : Nat} {fl sl dl ol : Addr} {ts1 ts2 td ot : List (List Nat × Tok)} {n1 n2 nd no : Nat} {Q : Flow → Shared → Prop} (hfr : A.frames = some [envX "law" lawS L a cd cl]) (C : Cx A 90 900) (hP : SldOk x f)
    (S : Sf w h F ((sl, lstObj (txs ts2) n2) :: (fl, lstObj (txs ts1) n1) :: M) L V) (X : Facts F V f x) (lf : Has V "first" (.ref fl)) (lsd : Has V "second" (.ref sl)) (ld : Has V "due" (.ref dl)) (lo : Has V "once" (.ref ol)) 
    (e1 : ts1.map (·.1) = (firstF x f).map R) (e2 : ts2.map (·.1) = (secondF x f).map R) (z1 : ts1.length ≤ 60) (z2 : ts2.length ≤ 60) (hol : F ol = some (lstObj (txs ot) no)) (hot : ot.map (·.1) = onceK x f 3)
    (H : ∀ F' h' tk' V', Le F F' → Sf w h' F' ((sl, lstObj (txs ts2) n2) :: (fl, lstObj (txs ts1) n1) :: M) L V' → Facts F' V' f x → Has V' "first" (.ref fl) → Has V' "second" (.ref sl) → Has V' "due" (.ref dl) → wpAny (model prog w) A (execs (lawB.drop 18) (envX "law" lawS L a cd cl)) Q E ⟨h', g, d, tk', os⟩) :
    wpAny (model prog w) A (execs (lawB.drop 14) (envX "law" lawS L a cd cl)) Q E ⟨h, g, d, tk, os⟩ := by
  obtain ⟨o38, fd38, k38, f38⟩ : ∃ o fd, (KF w).lookup 38 = some o ∧ o.data = .func fd := ⟨_, _, by exact rfl, rfl⟩
  have hu : A.units + 64 < cLine := by have := C.un; first | with_reducible assumption | decide | lia | omega
  have hok := X.ok
  refine x_assign ?_
  refine r_call ?_
  refine r_builtin S (by exact rfl) (v := .builtin "sorted") (by exact rfl) (by decide) ?_
  refine r_cwB1 ?_
  refine r_name S lf ?_
  refine r_sorted S (S.m (.tail _ (.head _))) (by first | with_reducible assumption | decide | lia | omega) fun F1 h1 hc th nh le1 S1 oh hsh => ?_
  refine r_store S1 fun h2 tk2 S2 => ?_
  refine x_assign ?_
  refine wpAny_BinOp ?_
  refine r_list1 ?_
  refine r_call ?_
  refine r_builtin S2 (by exact rfl) (v := .builtin "chr") (by exact rfl) (by decide) ?_
  refine r_cwB1 ?_
  refine r_int ?_
  refine chr_of_range (by decide) (by decide) ?_
  refine r_int ?_
  dsimp only
  generalize hcv : (Value.str ⟨#[(1114111 : Int).toNat]⟩ (tk2 + 1) : Value) = cv
  have S3 := S2.ext (h' := h2.push (lstObj [cv] 0)) (fun _ _ e => Heap.get?_push_of_some _ e)
  refine r_mulL (Heap.get?_push_size _ rfl) (by simp) (by simp) (by first | with_reducible assumption | decide | lia | omega) ?_
  generalize h2.push (lstObj [cv] 0) = h3 at S3 ⊢
  have erest : (List.replicate (2 : Int).toNat [cv]).flatten = txs [([1114111], tk2 + 1), ([1114111], tk2 + 1)] := by rw [← hcv]; rfl
  rw [erest]
  have SLe := S3.pushF (o := lstObj (txs [([1114111], tk2 + 1), ([1114111], tk2 + 1)]) 0) rfl
  have S4 := SLe.1
  have le4 := SLe.2
  clear SLe
  have o4 := ins_self F1 h3.objs.size (lstObj (txs [([1114111], tk2 + 1), ([1114111], tk2 + 1)]) 0)
  generalize ins F1 h3.objs.size (lstObj (txs [([1114111], tk2 + 1), ([1114111], tk2 + 1)]) 0) = F4 at S4 le4 o4
  refine r_store S4 fun h5 tk5 S5 => ?_
  generalize h3.objs.size = rl at S5 o4
  refine x_assign ?_
  refine wpAny_BinOp ?_
  refine r_call ?_
  refine r_builtin S5 (by exact rfl) (v := .builtin "sorted") (by exact rfl) (by decide) ?_
  refine r_cwB1 ?_
  refine r_name S5 (by exact lsd) ?_
  refine r_sorted S5 (S5.m (.head _)) (by first | with_reducible assumption | decide | lia | omega) fun F6 h6 tc tt nt le6 S6 ot6 hst => ?_
  refine r_name S6 (by exact rfl) ?_
  have htl : tt.length ≤ 60 := by
    have := hst.1.length_eq
    rw [List.length_map, List.length_map] at this; first | with_reducible assumption | decide | lia | omega
  have hhl : th.length ≤ 60 := by
    have := hsh.1.length_eq
    rw [List.length_map, List.length_map] at this; first | with_reducible assumption | decide | lia | omega
  refine r_ladd S6 ot6 (le6 _ _ o4) (by rw [List.length_map, List.length_map, List.length_cons, List.length_cons, List.length_nil]; first | with_reducible assumption | decide | lia | omega) fun F7 h7 tc2 le7 S7 o7 => ?_
  rw [show txs tt ++ txs [([1114111], tk2 + 1), ([1114111], tk2 + 1)] = txs (tt ++ [([1114111], tk2 + 1), ([1114111], tk2 + 1)]) from by rw [txs, txs, txs, List.map_append]] at o7
  refine r_store S7 fun h8 tk8 S8 => ?_
  have leA := (le1.trans le4).trans (le6.trans le7)
  rw [e1] at hsh
  rw [e2] at hst
  obtain ⟨P1, P2⟩ := hP _ _ hsh hst
  have oh7 := le7 _ _ (le6 _ _ (le4 _ _ oh))
  have orl7 := le7 _ _ (le6 _ _ o4)
  have hol7 := leA _ _ hol
  clear S1 S2 S3 S4 S5 S6 S7
  have hz7 : (tt ++ [([1114111], tk2 + 1), ([1114111], tk2 + 1)]).length ≤ 1000 := by rw [List.length_append]; show _ + 2 ≤ _; first | with_reducible assumption | decide | lia | omega
  refine x_if ?_
  refine isTrue_or ?_
  refine wpAny_isTrue_Compare1 ?_
  refine r_call ?_
  refine r_global S8 (by exact rfl) ?_
  refine r_cwF2 (o := o38) (fd := fd38) ?_
  refine r_name S8 (by exact rfl) ?_
  refine r_name S8 (by exact rfl) ?_
  refine ⟨⟨S8.f (S8.st.b.k _ _ k38), f38⟩, ?_⟩
  refine sld_use hfr rfl C.mono S8 oh7 o7 (by rw [List.map_append]; exact P1) ⟨by first | with_reducible assumption | decide | lia | omega, hz7⟩ fun F9 h9 tk9 b9 ml ul mt ut nm nu le9 S9 ob om ou hm hu2 => ?_
  refine r_tup2 ?_
  refine r_name S9 (by exact lo) ?_
  refine r_name S9 (by exact rfl) ?_
  have S10 := S9.ext (h' := h9.push (tupObj [.ref ol, .ref rl])) (fun _ _ e => Heap.get?_push_of_some _ e)
  have ra := reads_two (S10.f ob) (S10.f om) (S10.f ou)
  have rb := reads_two (Heap.get?_push_size h9 (o := tupObj [.ref ol, .ref rl]) rfl) (S10.f (le9 _ _ hol7)) (S10.f (le9 _ _ orl7))
  rw [hm, hu2] at ra
  rw [hot] at rb
  have okd := dTwo_ok (onceK_ok hok x 3) Zs_ok
  refine r_sameNe hu ra rb okd.1 okd.2 ?_
  refine truthy_b ?_
  first | with_reducible refine on_f (by decide) ?_ | refine on_f (by decide) ?_ | rw [if_neg (by decide)]
  clear ra rb
  refine isTrue_or ?_
  refine wpAny_isTrue_Compare1 ?_
  refine r_call ?_
  refine r_global S10 (by exact rfl) ?_
  refine r_cwF2 (o := o38) (fd := fd38) ?_
  refine r_name S10 (by exact rfl) ?_
  refine r_name S10 (by exact rfl) ?_
  refine ⟨⟨S10.f (S10.st.b.k _ _ k38), f38⟩, ?_⟩
  refine sld_use hfr rfl C.mono S10 (le9 _ _ o7) (le9 _ _ oh7) (by rw [List.map_append]; exact P2) ⟨hz7, by first | with_reducible assumption | decide | lia | omega⟩ fun F11 h11 tk11 b11 ml2 ul2 mt2 ut2 nm2 nu2 le11 S11 ob2 om2 ou2 hm2 hu3 => ?_
  refine r_tup2 ?_
  refine r_name S11 (by exact rfl) ?_
  refine r_name S11 (by exact lo) ?_
  have S12 := S11.ext (h' := h11.push (tupObj [.ref rl, .ref ol])) (fun _ _ e => Heap.get?_push_of_some _ e)
  have ra := reads_two (S12.f ob2) (S12.f om2) (S12.f ou2)
  have rb := reads_two (Heap.get?_push_size h11 (o := tupObj [.ref rl, .ref ol]) rfl) (S12.f (le11 _ _ (le9 _ _ orl7))) (S12.f (le11 _ _ (le9 _ _ hol7)))
  rw [hm2, hu3] at ra
  rw [hot] at rb
  have okd2 := dTwo_ok Zs_ok (onceK_ok hok x 3)
  refine r_sameNe hu ra rb okd2.1 okd2.2 ?_
  refine truthy_b ?_
  first | with_reducible refine on_f (by decide) ?_ | refine on_f (by decide) ?_ | rw [if_neg (by decide)]
  refine isTrue_or_nil ?_
  first | with_reducible refine on_f (by decide) ?_ | refine on_f (by decide) ?_ | rw [if_neg (by decide)]
  refine x_nil ?_
  have leB := leA.trans (le9.trans le11)
  exact H _ _ _ _ leB S12 (X.up leB).sto.sto.sto (by exact lf) (by exact lsd) (by exact ld)
end
end Mine
end
section
open PySem PySem.W PyProof.Rows PySem.Calls
set_option autoImplicit false
set_option maxRecDepth 100000
namespace Mine
noncomputable abbrev rowScope : Scope := { kind := .function, names := [(".0", .local), ("row", .local)], isGenerator := false, isCoroutine := false, more := [] }
section
variable {prog : Program} {w : World} {A : Around} {E : Value → Shared → Prop} {h : Heap} {F : Fz} {M : List (Addr × Obj)} {L a l : Addr} {V : List (Str × Value)} {g : Array GenState} {d : Drawn} {tk : Nat} {os : OsState}
  {cn : Str} {cs : Scope} {cd : Value} {cl : List (Str × Addr)} {env : Env}
theorem r_list4 {e1 e2 e3 e4 : Expr} {pos : Pos} {Q : Value → Shared → Prop} {s : Shared}
    (H : wpAny (model prog w) A (eval e1 env) (fun v s₁ => wpAny (model prog w) A (eval e2 env) (fun u s₂ => wpAny (model prog w) A (eval e3 env) (fun x s₃ => wpAny (model prog w) A (eval e4 env) (fun y s₄ => Q (.ref s₄.heap.objs.size) { s₄ with heap := s₄.heap.push (lstObj [v, u, x, y] 0) }) E s₃) E s₂) E s₁) E s)
    (hst : starEach [e1, e2, e3, e4] env = [(false, eval e1 env), (false, eval e2 env), (false, eval e3 env), (false, eval e4 env)] := by rfl) : wpAny (model prog w) A (eval (.List [e1, e2, e3, e4] pos) env) Q E s := by
  refine wpAny_List_spliced ?_
  rw [hst]
  exact spliced_cons (wpAny_mono H (fun _ _ z => spliced_cons (wpAny_mono z (fun _ _ y => spliced_cons (wpAny_mono y (fun _ _ x => spliced_cons (wpAny_mono x (fun _ _ x => spliced_nil ⟨by show (4 : Nat) ≤ _; rw [sizeLine_eq]; first | with_reducible assumption | decide | lia | omega, x⟩) fun _ _ e => e)) fun _ _ e => e)) fun _ _ e => e)) fun _ _ e => e)
/- what the comprehension's turns keep -/
inductive RowC (w : World) (F : Fz) (acc it l L C : Addr) (oL : Obj) (M : List (Addr × Obj)) (vs : List Value) (rs : List (Int × Nat)) (g : Array GenState) (d : Drawn) (os : OsState) (n : Nat) (s : Shared) : Prop
  | mk (i : Nat) (h : Heap) (tk : Nat) (ts : List (List Nat × Tok)) (m : Nat) (oi : Obj) (V' : List (Str × Value)) (h1_ : n = vs.length - i) (h2_ : i ≤ vs.length) (h3_ : s = ⟨h, g, d, tk, os⟩) (h4_ : IterO oi l i)
    (h5_ : Sf w h F ((acc, lstObj (txs ts) m) :: (L, oL) :: (it, oi) :: M) C V') (h6_ : ts.map (·.1) = (rs.take i).map (fun r => [r.2])) (h7_ : ts.length = i) : RowC w F acc it l L C oL M vs rs g d os n s
theorem row_comp {q1 q2 q3 q4 q5 q6 : Pos} {k1 : Nat} {vs : List Value} {n : Nat} {rs : List (Int × Nat)} {Q : Value → Shared → Prop} (C0 : Cx A 0 0) (S : Sf w h F M L V) (lr : Has V "rows" (.ref l)) (hl : F l = some (lstObj vs n)) (har : All2 (RowAt F) vs rs) (hz : rs.length ≤ 1000)
    (H : ∀ F' h' tk' c ts n', Le F F' → Sf w h' F' M L V → F' c = some (lstObj (txs ts) n') → ts.map (·.1) = rs.map (fun r => [r.2]) → Q (.ref c) ⟨h', g, d, tk', os⟩)
    (hk : cs.kind = .function := by rfl) (hln : (envX cn cs L a cd cl).kindOf "rows" = some .local := by rfl) :
    wpAny (model prog w) A (eval (.ListComp (.Subscript (.Name "row" q1) (.Constant (.int 1) k1 q2) q3) [⟨.Name "row" q4, .Name "rows" q5, [], 0⟩] rowScope q6) (envX cn cs L a cd cl)) Q E ⟨h, g, d, tk, os⟩ := by
  rw [eval_ListComp]
  refine wpAny_comprehension_free (use := none) rfl (fun _ => rfl) (closureFor_none (by decide)) rfl (by decide) ?_
  refine r_name S lr ?_ hk hln
  have isl : h.IsList l vs.toArray := ⟨_, S.f hl, rfl, n, rfl⟩
  refine wpAny_pyIter_list isl ?_
  obtain ⟨oL, S1s, n1⟩ := S.push (o := { cls := .type "list_iterator", data := .fields #[.ref l, .int 0 0] }) rfl
  have mi := S1s.m _ (.tail _ (.head _))
  dsimp only at mi ⊢
  generalize h.push { cls := .type "list_iterator", data := .fields #[.ref l, .int 0 0] } = h1 at S1s mi ⊢
  generalize h.objs.size = it at S1s mi ⊢
  refine comp_enter (RR := fun acc C => compPost (model prog w) A E none Q acc C) S1s rfl (by decide) rfl (fun h' tk' E' Q' k' q => wpAny_pyIter_listiter (i := 0) ⟨_, k' _ _ mi, rfl, rfl⟩ q) fun h3 tk3 acc C k3 S3 => ?_
  refine comp_turns (RowC w F acc it l L C oL M vs rs g d os) ?_ (vs.length - 0)
    ⟨0, h3, tk3, [], 0, _, [], rfl, Nat.zero_le _, rfl, ⟨rfl, rfl⟩, S3, rfl, rfl⟩
  clear S3 k3 h3 tk3 S1s mi
  rintro k s E' P X hP hX ⟨i, h4, tk4, ts, m, oi, V4, rfl, hi, rfl, io, S4, hts, htl⟩
  have hvl := har.len
  have hit : h4.IsListIter it l i := ⟨oi, S4.m (.tail _ (.tail _ (.head _))), io.cls, io.data⟩
  have isl4 : h4.IsList l vs.toArray := ⟨_, S4.f hl, rfl, n, rfl⟩
  cases hx : vs[i]? with
  | none =>
    have hlen : i = vs.length := by have := List.getElem?_eq_none_iff.mp hx; first | with_reducible assumption | decide | lia | omega
    refine wpAny_pyNext_list_end C0.hd hit isl4 (by simpa using hx) fun h5 k5 => hX ?_
    have S5 := Sf.drop (M1 := [_, _]) S4 k5
    obtain ⟨oC, S5s, nC⟩ := S5
    have S6 : Sf w h5 F ((C, oC) :: (acc, lstObj (txs ts) m) :: M) L V := ⟨oL, S5s.perm (List.perm_middle (l₁ := [_, _])), n1⟩
    obtain ⟨es, ep, nd, ks, _⟩ := nC
    refine ⟨fun x => nsFind es x, ⟨oC, es, ep, S6.m (.head _), nd, ks, fun _ => rfl⟩, fun h7 sb7 => ?_⟩
    have S8 := Sf.drop (M1 := []) S6 sb7.extBut
    have SLe := Sf.freeze S8
    have S9 := SLe.1
    have le9 := SLe.2
    clear SLe
    rw [List.take_of_length_le (by first | with_reducible assumption | decide | lia | omega)] at hts
    exact H _ _ _ acc ts m le9 S9 (ins_self _ _ _) hts
  | some x =>
    have hlen : i < vs.length := (List.getElem?_eq_some_iff.mp hx).1
    obtain ⟨r, hr, ra, rt, ru, rfl, hra⟩ := har.get hx
    refine wpAny_pyNext_list_item hit isl4 (by simpa using hx) fun h5 k5 sb5 => ?_
    obtain ⟨o5, e5, c5, d5⟩ := k5
    have S5 := Sf.upd (M1 := [_, _]) S4 sb5.extBut e5
    refine own_skip e5 c5 d5 (by decide) ?_
    refine wpAny_assign_Name (g_store (env := compEnvC rowScope [] C (envX cn cs L a cd cl)) S5 (fun h6 tk6 S6 => ?_) rfl (lookup_relabel_local rfl))
    refine r_sub ?_
    refine g_name (env := compEnvC rowScope [] C (envX cn cs L a cd cl)) S6 (by exact rfl) ?_ rfl (lookup_relabel_local rfl)
    refine r_int ?_
    refine ⟨"tuple", _, ⟨_, S6.f hra, rfl⟩, PySem.F.slot_tuple_getitem.lookup, ?_⟩
    refine r_tup1 (S6.f hra) ?_
    refine wp_append (M1 := []) S6 (by rw [List.length_map, sizeLine_eq]; first | with_reducible assumption | decide | lia | omega) fun h9 n9 S9 => ?_
    refine hP ⟨vs.length - (i + 1), by first | with_reducible assumption | decide | lia | omega, i + 1, h9, _, ts ++ [([r.2], ru)], n9, o5, _, rfl, by first | with_reducible assumption | decide | lia | omega, rfl, ⟨c5, d5⟩, by rw [txs_snoc]; exact S9, ?_, by rw [List.length_append, List.length_singleton, htl]⟩
    rw [List.map_append, hts, List.take_add_one, hr, List.map_append]; rfl
end
end Mine
end
section
open PySem PySem.W PyProof.Rows PySem.Calls
set_option autoImplicit false
set_option maxRecDepth 100000
namespace Mine
noncomputable def wordW (x : Nat) (f : Fo Nat) : List Nat := (rowsOf 0 f).map (·.2) ++ [x]
noncomputable def four : List Nat := [97, 66, 126, 39]
noncomputable def moreT (x : Nat) (f : Fo Nat) : List Nat := wordW x f ++ [61, 34, 34, 59, 32] ++ [x] ++ [61, 34, 97, 66, 126, 39, 92, 34, 92, 92, 47, 91, 34, 59, 32] ++ wordW x f ++ [61, 97, 66, 126, 39, 59, 32] ++ [x]
noncomputable def wholeT (x : Nat) (f : Fo Nat) : List Nat := jn [44, 32] ((secondF x f).map R)
noncomputable def moreW (x : Nat) (f : Fo Nat) : List Word := [(wordW x f, some []), ([x], some signsL), (wordW x f, some four), ([x], none)]
noncomputable def listsT (x : Nat) (f : Fo Nat) : List (List Word) := (secondF x f).map words ++ [moreW x f, words f]
structure TextOk (x : Nat) (f : Fo Nat) : Prop where
  runs : Runs [wholeT x f, [44, 32, 44] ++ moreT x f ++ [44], [], R f] [] (listsT x f)
  join : joinT ([[]] ++ listsT x f ++ [[]]) = jn [44, 32] [wholeT x f, moreT x f, R f]
  small : Small ([[]] ++ listsT x f ++ [[]])
  wlen : (wholeT x f).length ≤ 2 ^ 18
  slen : ((secondF x f).map (fun u => (R u).length)).sum ≤ 2 ^ 18
  rlen : (R f).length ≤ 2 ^ 18
noncomputable def dPair (p : Word) : PyData := .tuple [.str (T p.1), match p.2 with | none => .none | some v => .str (T v)]
noncomputable def dPairs (ps : List Word) : PyData := .list (ps.map dPair)
theorem reads_pair {F : Fz} {h : Heap} (k : ∀ a o, F a = some o → h.get? a = some o) {v : Value} {p : Word} (H : PairAt F v p) : Reads h v (dPair p) [] := by
  obtain ⟨a, t, u, rfl, hu, ho⟩ := H
  obtain ⟨x, o⟩ := p
  refine Reads.tuple (k _ _ ho) rfl rfl (.cons (as := []) (.str _ _) (.cons (as := []) (bs := []) ?_ .nil))
  cases o with
  | none => rw [show u = .none from hu]; exact .none
  | some y => obtain ⟨t', rfl⟩ := hu; exact .str _ _
theorem reads_pairs {F : Fz} {h : Heap} (k : ∀ a o, F a = some o → h.get? a = some o) {v : Value} {ps : List Word} (H : PairsAt F v ps) : ∃ as, Reads h v (dPairs ps) as := by
  obtain ⟨a, vs, n, rfl, ho, hp⟩ := H
  have : ReadsAll h vs (ps.map dPair) [] := by
    clear ho
    induction hp with
    | nil => exact .nil
    | cons h1 _ ih => exact .cons (as := []) (reads_pair k h1) ih
  exact ⟨_, Reads.list (k _ _ ho) rfl rfl (by simpa using this)⟩
theorem wordW_okT {x : Nat} {f : Fo Nat} (hx : okL x = true) (hf : f.all okL = true) : okT (wordW x f) := by
  have key : ∀ (f : Fo Nat) (b : Nat), f.all okL = true → ∀ r ∈ rowsOf b f, okL r.2 = true := by
    intro f
    induction f with
    | nil => intro b _ r hr; cases hr
    | cons c k r ih1 ih2 =>
      intro b h y hy
      obtain ⟨h12, hr⟩ := Bool.and_eq_true_iff.mp h
      obtain ⟨hc, hk⟩ := Bool.and_eq_true_iff.mp h12
      rcases List.mem_cons.mp hy with rfl | hy
      · exact hc
      · rcases List.mem_append.mp hy with hy | hy
        · exact ih1 _ hk y hy
        · exact ih2 _ hr y hy
  have lt : ∀ c, okL c = true → c < 0x110000 := fun c hc => okL_all (P := fun c => c < 0x110000) (by decide) hc
  intro c hc
  rcases List.mem_append.mp hc with hc | hc
  · obtain ⟨r, hr, rfl⟩ := List.mem_map.mp hc
    exact lt _ (key f 0 hf r hr)
  · rw [List.mem_singleton] at hc; subst hc; exact lt _ hx
theorem moreW_ok {x : Nat} {f : Fo Nat} (hx : okL x = true) (hf : f.all okL = true) : (dPairs (moreW x f)).canLay0 = true ∧ (dPairs (moreW x f)).depth ≤ 64 := by
  have h1 := okT_str (wordW_okT hx hf)
  have h2 : PyData.strOk (T [x]) = true := okT_str (fun c hc => by rw [List.mem_singleton] at hc; subst hc; exact okL_all (P := fun c => c < 0x110000) (by decide) hx)
  have h3 : PyData.strOk (T []) = true := okT_str fun c hc => by cases hc
  have h4 : PyData.strOk (T signsL) = true := okT_str fun c hc => by simp [signsL] at hc; first | with_reducible assumption | decide | lia | omega
  have h5 : PyData.strOk (T four) = true := okT_str fun c hc => by simp [four] at hc; first | with_reducible assumption | decide | lia | omega
  simp only [dPairs, moreW, dPair, List.map_cons, List.map_nil, PyData.canLay0, PyData.canLayAll0, PyData.depth, PyData.depthAll, h1, h2, h3, h4, h5]
  decide
section
variable {prog : Program} {w : World} {A : Around} {E : Value → Shared → Prop} {h : Heap} {F : Fz} {M : List (Addr × Obj)} {L a : Addr} {V : List (Str × Value)} {g : Array GenState} {d : Drawn} {tk : Nat} {os : OsState}
  {cd : Value} {cl : List (Str × Addr)}
set_option maxHeartbeats 8000000 in
theorem seg5a {f : Fo Nat} {x : Nat} {fl sl dl : Addr} {ts1 ts2 : List (List Nat × Tok)} {n1 n2 : Nat} {Q : Flow → Shared → Prop} (C : Cx A 90 900) (hP : TextOk x f)
    (S : Sf w h F ((sl, lstObj (txs ts2) n2) :: (fl, lstObj (txs ts1) n1) :: M) L V) (X : Facts F V f x) (lf : Has V "first" (.ref fl)) (lsd : Has V "second" (.ref sl)) (ld : Has V "due" (.ref dl))
    (e2 : ts2.map (·.1) = (secondF x f).map R) (z2 : ts2.length ≤ 60)
    (H : ∀ F' h' tk' V' t1 t2 t3 v, Le F F' → Sf w h' F' ((sl, lstObj (txs ts2) n2) :: (fl, lstObj (txs ts1) n1) :: M) L V' → Facts F' V' f x → Has V' "first" (.ref fl) → Has V' "second" (.ref sl) → Has V' "due" (.ref dl) →
      Has V' "whole" (.str (T (wholeT x f)) t1) → Has V' "word" (.str (T (wordW x f)) t2) → Has V' "more" (.str (T (moreT x f)) t3) → Has V' "lists" v → ListsAt F' v (listsT x f) → wpAny (model prog w) A (execs (lawB.drop 22) (envX "law" lawS L a cd cl)) Q E ⟨h', g, d, tk', os⟩) :
    wpAny (model prog w) A (execs (lawB.drop 18) (envX "law" lawS L a cd cl)) Q E ⟨h, g, d, tk, os⟩ := by
  obtain ⟨o84, fd84, k84, f84⟩ : ∃ o fd, (KF w).lookup 84 = some o ∧ o.data = .func fd := ⟨_, _, by exact rfl, rfl⟩
  have hrl : (rowsOf 0 f).length = 3 := by rw [rowsOf_len, X.n3]
  have hwl : (wordW x f).length = 4 := by rw [wordW, List.length_append, List.length_map, hrl]; rfl
  refine x_assign ?_
  with_reducible refine r_join (sp := [44, 32]) ?ja4 ?jH4 ?jb4 ?jc4 ?jd4 ?je4
  case ja4 | jb4 | jc4 | jd4 | je4 => rfl
  intro tk1
  refine r_name (S.ext fun _ _ e => e) lsd ?_
  refine wp_join (ps := ts2) (S.m (.head _)) ?_ fun t1 tk2 => ?_
  · have e3 : ts2.map (fun p => p.1.length) = (secondF x f).map (fun u => (R u).length) := by
      have := congrArg (List.map List.length) e2
      rw [List.map_map, List.map_map] at this
      exact this
    have := hP.slen
    rw [e3, sizeLine_eq]
    simp only [List.length_cons, List.length_nil]
    first | with_reducible assumption | decide | lia | omega
  rw [e2]
  refine r_store S fun h2 tk2 S2 => ?_
  refine x_assign ?_
  refine wpAny_BinOp ?_
  obtain ⟨rl, rvs, rn, lr, hrw, har⟩ := X.rows
  obtain ⟨nt, ln⟩ := X.name
  obtain ⟨bt, lb⟩ := X.begun
  with_reducible refine r_join (sp := []) ?ja5 ?jH5 ?jb5 ?jc5 ?jd5 ?je5
  case ja5 | jb5 | jc5 | jd5 | je5 => rfl
  intro tk3
  refine row_comp C.mono S2 (has_sto lr (by decide)) hrw har (by first | with_reducible assumption | decide | lia | omega) fun F3 h3 tk4 c3 ts3 n3 le3 S3 o3 e3 => ?_
  refine wp_join (ps := ts3) (S3.f o3) ?_ fun t4 tk5 => ?_
  · have q : ts3.map (fun p => p.1.length) = (rowsOf 0 f).map (fun _ => 1) := by
      have := congrArg (List.map List.length) e3
      rw [List.map_map, List.map_map] at this
      exact this
    rw [q, sizeLine_eq, List.map_const', hrl, List.length_nil, Nat.mul_zero]
    decide
  rw [e3, jn_nil]
  have e4 : ((rowsOf 0 f).map (fun r => [r.2])).flatten = (rowsOf 0 f).map (·.2) := by
    generalize rowsOf 0 f = rs
    induction rs with
    | nil => rfl
    | cons r rs ih => rw [List.map_cons, List.flatten_cons, ih]; rfl
  rw [e4]
  refine r_name S3 (has_sto ln (by decide)) ?_
  with_reducible refine r_addS ?_ fun t5 tk6 => ?_
  · rw [sizeLine_eq, List.length_map, hrl]; simp only [List.length_cons, List.length_nil]; first | with_reducible assumption | decide | lia | omega
  rw [show (rowsOf 0 f).map (·.2) ++ [x] = wordW x f from rfl]
  refine r_store S3 fun h6 tk7 S6 => ?_
  refine x_assign ?_
  refine wpAny_BinOp ?_
  refine wpAny_BinOp ?_
  refine wpAny_BinOp ?_
  refine wpAny_BinOp ?_
  refine wpAny_BinOp ?_
  refine wpAny_BinOp ?_
  refine r_name S6 (by exact rfl) ?_
  refine r_str ?_
  rw [show (Str.ofString "=\"\"; ") = T [61, 34, 34, 59, 32] from by kernel_rfl]
  with_reducible refine r_addS ?_ fun t8 tk8 => ?_
  · rw [sizeLine_eq]; simp only [List.length_append, List.length_cons, List.length_nil, hwl]; first | with_reducible assumption | decide | lia | omega
  refine r_name S6 (has_sto (has_sto ln (by decide)) (by decide)) ?_
  with_reducible refine r_addS ?_ fun t9 tk9 => ?_
  · rw [sizeLine_eq]; simp only [List.length_append, List.length_cons, List.length_nil, hwl]; first | with_reducible assumption | decide | lia | omega
  refine r_str ?_
  rw [show (Str.ofString "=\"aB~'\\\"\\\\/[\"; ") = T [61, 34, 97, 66, 126, 39, 92, 34, 92, 92, 47, 91, 34, 59, 32] from by kernel_rfl]
  with_reducible refine r_addS ?_ fun t10 tk10 => ?_
  · rw [sizeLine_eq]; simp only [List.length_append, List.length_cons, List.length_nil, hwl]; first | with_reducible assumption | decide | lia | omega
  refine r_name S6 (by exact rfl) ?_
  with_reducible refine r_addS ?_ fun t11 tk11 => ?_
  · rw [sizeLine_eq]; simp only [List.length_append, List.length_cons, List.length_nil, hwl]; first | with_reducible assumption | decide | lia | omega
  refine r_str ?_
  rw [show (Str.ofString "=aB~'; ") = T [61, 97, 66, 126, 39, 59, 32] from by kernel_rfl]
  with_reducible refine r_addS ?_ fun t12 tk12 => ?_
  · rw [sizeLine_eq]; simp only [List.length_append, List.length_cons, List.length_nil, hwl]; first | with_reducible assumption | decide | lia | omega
  refine r_name S6 (has_sto (has_sto ln (by decide)) (by decide)) ?_
  with_reducible refine r_addS ?_ fun t13 tk13 => ?_
  · rw [sizeLine_eq]; simp only [List.length_append, List.length_cons, List.length_nil, hwl]; first | with_reducible assumption | decide | lia | omega
  have hml : (moreT x f).length ≤ 100 := by
    rw [moreT]; simp only [List.length_append, List.length_cons, List.length_nil, hwl]; first | with_reducible assumption | decide | lia | omega
  rw [show wordW x f ++ [61, 34, 34, 59, 32] ++ [x] ++ [61, 34, 97, 66, 126, 39, 92, 34, 92, 92, 47, 91, 34, 59, 32] ++ wordW x f ++ [61, 97, 66, 126, 39, 59, 32] ++ [x] = moreT x f from rfl]
  refine r_store S6 fun h14 tk14 S14 => ?_
  refine x_assign ?_
  refine r_call ?_
  refine r_global S14 (by exact rfl) ?_
  refine r_cwF1 (o := o84) (fd := fd84) ?_
  refine r_list4 ?_
  refine r_name S14 (by exact rfl) ?_
  refine wpAny_BinOp ?_
  refine wpAny_BinOp ?_
  refine r_str ?_
  rw [show (Str.ofString ", ,") = T [44, 32, 44] from by kernel_rfl]
  refine r_name S14 (by exact rfl) ?_
  with_reducible refine r_addS ?_ fun t15 tk15 => ?_
  · rw [sizeLine_eq]; simp only [List.length_cons, List.length_nil]; first | with_reducible assumption | decide | lia | omega
  refine r_str ?_
  rw [show (Str.ofString ",") = T [44] from by kernel_rfl]
  with_reducible refine r_addS ?_ fun t16 tk16 => ?_
  · rw [sizeLine_eq, List.length_append]; simp only [List.length_cons, List.length_nil]; first | with_reducible assumption | decide | lia | omega
  refine r_str ?_
  rw [show (Str.ofString "") = T [] from by kernel_rfl]
  refine r_name S14 (has_sto (has_sto (has_sto lb (by decide)) (by decide)) (by decide)) ?_
  dsimp only
  have SLe := S14.pushF (o := lstObj [.str (T (wholeT x f)) t1, .str (T ([44, 32, 44] ++ moreT x f ++ [44])) t16, .str (T []) tk16, .str (T (R f)) bt] 0) rfl
  have S17 := SLe.1
  have le17 := SLe.2
  clear SLe
  have o17 := ins_self F3 h14.objs.size (lstObj [.str (T (wholeT x f)) t1, .str (T ([44, 32, 44] ++ moreT x f ++ [44])) t16, .str (T []) tk16, .str (T (R f)) bt] 0)
  generalize ins F3 h14.objs.size (lstObj [.str (T (wholeT x f)) t1, .str (T ([44, 32, 44] ++ moreT x f ++ [44])) t16, .str (T []) tk16, .str (T (R f)) bt] 0) = F17 at S17 le17 o17
  refine ⟨⟨S17.f (S17.st.b.k _ _ k84), f84⟩, ?_⟩
  have h1 := hP.wlen
  have h2 := hP.rlen
  refine Fn.use (split_fn o17 (xs := [wholeT x f, [44, 32, 44] ++ moreT x f ++ [44], [], R f]) (.cons ⟨_, rfl⟩ (.cons ⟨_, rfl⟩ (.cons ⟨_, rfl⟩ (.cons ⟨_, rfl⟩ .nil)))) (by simp only [List.length_cons, List.length_nil]; first | with_reducible assumption | decide | lia | omega) ?_ hP.runs) C.mono S17 ?_
  · intro y hy
    rcases List.mem_cons.mp hy with rfl | hy
    · first | with_reducible assumption | decide | lia | omega
    · rcases List.mem_cons.mp hy with rfl | hy
      · simp only [List.length_append, List.length_cons, List.length_nil]; first | with_reducible assumption | decide | lia | omega
      · rcases List.mem_cons.mp hy with rfl | hy
        · exact Nat.zero_le _
        · rw [List.mem_singleton] at hy; subst hy; first | with_reducible assumption | decide | lia | omega
  · intro F18 h18 tk18 v le18 S18 hv
    refine r_store S18 fun h19 tk19 S19 => ?_
    have leA := le3.trans (le17.trans le18)
    exact H _ _ _ _ t1 t5 t13 v leA S19 (X.up leA).sto.sto.sto.sto (by exact lf) (by exact lsd) (by exact ld) (by exact rfl) (by exact rfl) (by exact rfl) (by exact rfl) hv
end
end Mine
end
section
open PySem PySem.W PyProof.Rows PySem.Calls
set_option autoImplicit false
set_option maxRecDepth 100000
namespace Mine
section
variable {prog : Program} {w : World} {A : Around} {E : Value → Shared → Prop} {h : Heap} {F : Fz} {M : List (Addr × Obj)} {L a : Addr} {V : List (Str × Value)} {g : Array GenState} {d : Drawn} {tk : Nat} {os : OsState}
  {cd : Value} {cl : List (Str × Addr)}
theorem r_tup2F {e1 e2 : Expr} {k : Nat} {pos : Pos} {env : Env} {Q : Value → Shared → Prop} {s : Shared}
    (H : wpAny (model prog w) A (eval e1 env) (fun u s₁ => wpAny (model prog w) A (eval e2 env) (fun v s₂ => ∃ F h tk, s₂ = ⟨h, g, d, tk, os⟩ ∧ Sf w h F M L V ∧
      ∀ F' h' c, Le F F' → Sf w h' F' M L V → F' c = some (tupObj [u, v]) → Q (.ref c) ⟨h', g, d, tk, os⟩) E s₁) E s)
    (hst : starEach [e1, e2] env = [(false, eval e1 env), (false, eval e2 env)] := by rfl) :
    wpAny (model prog w) A (eval (.Tuple [e1, e2] k pos) env) Q E s := by
  refine r_tup2 (wpAny_mono H (fun u s₁ h₁ => wpAny_mono h₁ (fun v s₂ h₂ => ?_) fun _ _ e => e) fun _ _ e => e) hst
  obtain ⟨F, h, tk, rfl, S, q⟩ := h₂
  have SLe := S.pushF (o := tupObj [u, v]) rfl
  have S2 := SLe.1
  have le := SLe.2
  clear SLe
  exact q _ _ _ le S2 (ins_self _ _ _)
set_option maxHeartbeats 8000000 in
theorem seg5b {f : Fo Nat} {x : Nat} {fl sl dl : Addr} {ts1 ts2 : List (List Nat × Tok)} {n1 n2 : Nat} {t1 t2 t3 : Tok} {v : Value} {Q : Flow → Shared → Prop} (C : Cx A 90 900) (hP : TextOk x f)
    (S : Sf w h F ((sl, lstObj (txs ts2) n2) :: (fl, lstObj (txs ts1) n1) :: M) L V) (X : Facts F V f x) (lf : Has V "first" (.ref fl)) (lsd : Has V "second" (.ref sl)) (ld : Has V "due" (.ref dl))
    (e2 : ts2.map (·.1) = (secondF x f).map R) (z2 : ts2.length ≤ 60) (lw : Has V "whole" (.str (T (wholeT x f)) t1)) (lo : Has V "word" (.str (T (wordW x f)) t2)) (lm : Has V "more" (.str (T (moreT x f)) t3)) (ll : Has V "lists" v) (hv : ListsAt F v (listsT x f))
    (H : ∀ F' h' tk', Le F F' → Sf w h' F' ((sl, lstObj (txs ts2) n2) :: (fl, lstObj (txs ts1) n1) :: M) L V → wpAny (model prog w) A (execs (lawB.drop 24) (envX "law" lawS L a cd cl)) Q E ⟨h', g, d, tk', os⟩) :
    wpAny (model prog w) A (execs (lawB.drop 22) (envX "law" lawS L a cd cl)) Q E ⟨h, g, d, tk, os⟩ := by
  obtain ⟨o101, fd101, k101, f101⟩ : ∃ o fd, (KF w).lookup 101 = some o ∧ o.data = .func fd := ⟨_, _, by exact rfl, rfl⟩
  have hu : A.units + 64 < cLine := by have := C.un; first | with_reducible assumption | decide | lia | omega
  obtain ⟨la, lvs, ln, rfl, hla, hall⟩ := hv
  obtain ⟨nt, lnm⟩ := X.name
  obtain ⟨bt, lb⟩ := X.begun
  obtain ⟨st, lsg⟩ := X.signs
  have hs2 : (secondF x f).length = ts2.length := by
    have := congrArg List.length e2
    rw [List.length_map, List.length_map] at this
    exact this.symm
  have hll : lvs.length = ts2.length + 2 := by rw [hall.len, listsT, List.length_append, List.length_map, hs2]; rfl
  refine x_if ?_
  refine isTrue_or ?_
  refine wpAny_isTrue_Compare1 ?_
  refine r_len S (by exact ll) (S.f hla) (by first | with_reducible assumption | decide | lia | omega) fun t4 tk4 => ?_
  refine wpAny_BinOp ?_
  refine r_len S (by exact lsd) (S.m (.head _)) (by rw [List.length_map]; first | with_reducible assumption | decide | lia | omega) fun t5 tk5 => ?_
  refine r_int ?_
  first | with_reducible refine PySem.P.add_int ?_ | refine PySem.P.add_int ?_
  first | with_reducible refine PySem.P.ne_int ?_ | refine PySem.P.ne_int ?_
  refine truthy_b ?_
  have q1 : (((lvs.length : Nat) : Int) != ((txs ts2).length : Nat) + 2) = false := by
    rw [List.length_map, hll, bne_eq_false_iff_eq]; first | with_reducible assumption | decide | lia | omega
  rw [q1, if_neg Bool.false_ne_true]
  refine isTrue_or ?_
  refine wpAny_isTrue_Compare1 ?_
  refine r_sub ?_
  refine r_name S (by exact ll) ?_
  refine wpAny_UnaryOp ?_
  refine r_int ?_
  first | with_reducible refine PySem.P.neg_int ?_ | refine PySem.P.neg_int ?_
  obtain ⟨mv, hmv, hmp⟩ := hall.get' (i := ts2.length) (b := moreW x f) (by
    rw [listsT, List.getElem?_append_right (by rw [List.length_map, hs2]; exact Nat.le_refl _), List.length_map, hs2, Nat.sub_self]; rfl)
  refine ⟨"list", _, ⟨_, S.f hla, rfl⟩, PySem.F.slot_list_getitem.lookup, ?_⟩
  refine wpAny_getItem_list_neg (items := lvs.toArray) ⟨_, S.f hla, rfl, ln, rfl⟩ (by decide) (by rw [List.size_toArray]; first | with_reducible assumption | decide | lia | omega) (by decide) (x := mv) ?_ ?_
  · have : (-2 + ((lvs.toArray.size : Nat) : Int)).toNat = ts2.length := by rw [List.size_toArray]; first | with_reducible assumption | decide | lia | omega
    rw [this]; simpa using hmv
  refine r_list4 ?_
  refine r_tup2F (M := (sl, lstObj (txs ts2) n2) :: (fl, lstObj (txs ts1) n1) :: M) (L := L) (V := V) (g := g) (d := d) (os := os) ?_
  refine r_name S (by exact lo) ?_
  refine r_str ?_
  rw [show (Str.ofString "") = T [] from by kernel_rfl]
  refine ⟨F, _, _, rfl, S, fun F6 h6 c6 le6 S6 o6 => ?_⟩
  refine r_tup2F (M := (sl, lstObj (txs ts2) n2) :: (fl, lstObj (txs ts1) n1) :: M) (L := L) (V := V) (g := g) (d := d) (os := os) ?_
  refine r_name S6 (by exact lnm) ?_
  refine r_name S6 (by exact lsg) ?_
  refine ⟨F6, _, _, rfl, S6, fun F7 h7 c7 le7 S7 o7 => ?_⟩
  refine r_tup2F (M := (sl, lstObj (txs ts2) n2) :: (fl, lstObj (txs ts1) n1) :: M) (L := L) (V := V) (g := g) (d := d) (os := os) ?_
  refine r_name S7 (by exact lo) ?_
  refine r_sub ?_
  refine r_name S7 (by exact lsg) ?_
  refine r_slice ?_
  refine wpAny_evalPart_none ?_
  refine wpAny_evalPart_some ?_
  refine r_int ?_
  refine ⟨"str", _, typeIs_str _ _ _, PySem.F.slot_str_getitem.lookup, ?_⟩
  dsimp only
  refine r_getSlice (lo := none) (hi := some (4, _)) (a := 0) (b := 4) (Heap.get?_push_size _ rfl) (.inr ⟨rfl, rfl⟩) (.inl rfl) (by first | with_reducible assumption | decide | lia | omega) (by decide) (by decide) fun t8 tk8 => ?_
  rw [show (signsL.drop 0).take (4 - 0) = four from rfl]
  refine ⟨F7, _, _, rfl, S7.ext (fun _ _ e => Heap.get?_push_of_some _ e), fun F8 h8 c8 le8 S8 o8 => ?_⟩
  refine r_tup2F (M := (sl, lstObj (txs ts2) n2) :: (fl, lstObj (txs ts1) n1) :: M) (L := L) (V := V) (g := g) (d := d) (os := os) ?_
  refine r_name S8 (by exact lnm) ?_
  refine r_none ?_
  refine ⟨F8, _, _, rfl, S8, fun F9 h9 c9 le9 S9 o9 => ?_⟩
  have SLe := S9.pushF (o := lstObj [.ref c6, .ref c7, .ref c8, .ref c9] 0) rfl
  have S10 := SLe.1
  have le10 := SLe.2
  clear SLe
  have o10 := ins_self F9 h9.objs.size (lstObj [.ref c6, .ref c7, .ref c8, .ref c9] 0)
  generalize ins F9 h9.objs.size (lstObj [.ref c6, .ref c7, .ref c8, .ref c9] 0) = F10 at S10 le10 o10
  have leA := (le6.trans le7).trans (le8.trans (le9.trans le10))
  obtain ⟨as, ra⟩ := reads_pairs (fun a o e => S10.f e) (hmp.up leA)
  obtain ⟨bs, rb⟩ := reads_pairs (F := F10) (h := h9.push (lstObj [.ref c6, .ref c7, .ref c8, .ref c9] 0)) (v := .ref h9.objs.size) (ps := moreW x f) (fun a o e => S10.f e)
    ⟨_, _, _, rfl, o10, .cons ⟨c6, _, _, rfl, ⟨_, rfl⟩, (le7.trans (le8.trans (le9.trans le10))) _ _ o6⟩ (.cons ⟨c7, _, _, rfl, ⟨_, rfl⟩, (le8.trans (le9.trans le10)) _ _ o7⟩ (.cons ⟨c8, _, _, rfl, ⟨_, rfl⟩, (le9.trans le10) _ _ o8⟩ (.cons ⟨c9, _, _, rfl, rfl, le10 _ _ o9⟩ .nil)))⟩
  have okd := moreW_ok X.okx X.ok
  refine r_sameNe hu ra rb okd.1 okd.2 ?_
  refine truthy_b ?_
  first | with_reducible refine on_f (by decide) ?_ | refine on_f (by decide) ?_ | rw [if_neg (by decide)]
  refine isTrue_or_nil ?_
  first | with_reducible refine on_f (by decide) ?_ | refine on_f (by decide) ?_ | rw [if_neg (by decide)]
  refine x_nil ?_
  clear ra rb S S6 S7 S8 S9
  refine x_if ?_
  refine wpAny_isTrue_Compare1 ?_
  refine r_call ?_
  refine r_global S10 (by exact rfl) ?_
  refine r_cwF1 (o := o101) (fd := fd101) ?_
  refine wpAny_BinOp ?_
  refine wpAny_BinOp ?_
  refine r_list1 ?_
  refine r_list0 ?_
  have SLe := S10.pushF (o := lstObj [] 0) rfl
  have S11 := SLe.1
  have le11 := SLe.2
  clear SLe
  have o11 := ins_self F10 (h9.push (lstObj [.ref c6, .ref c7, .ref c8, .ref c9] 0)).objs.size (lstObj [] 0)
  generalize ins F10 (h9.push (lstObj [.ref c6, .ref c7, .ref c8, .ref c9] 0)).objs.size (lstObj [] 0) = F11 at S11 le11 o11
  dsimp only
  generalize (h9.push (lstObj [.ref c6, .ref c7, .ref c8, .ref c9] 0)).objs.size = c11 at S11 o11 ⊢
  generalize (h9.push (lstObj [.ref c6, .ref c7, .ref c8, .ref c9] 0)).push (lstObj [] 0) = h11 at S11 ⊢
  have SLe := S11.pushF (o := lstObj [.ref c11] 0) rfl
  have S12 := SLe.1
  have le12 := SLe.2
  clear SLe
  have o12 := ins_self F11 h11.objs.size (lstObj [.ref c11] 0)
  generalize ins F11 h11.objs.size (lstObj [.ref c11] 0) = F12 at S12 le12 o12
  generalize h11.objs.size = c12 at o12 ⊢
  generalize h11.push (lstObj [.ref c11] 0) = h12 at S12 ⊢
  have leB := leA.trans (le11.trans le12)
  refine r_name S12 (by exact ll) ?_
  refine r_ladd S12 o12 (leB _ _ hla) (by rw [List.length_singleton]; first | with_reducible assumption | decide | lia | omega) fun F13 h13 c13 le13 S13 o13 => ?_
  refine r_list1 ?_
  refine r_list0 ?_
  have SLe := S13.pushF (o := lstObj [] 0) rfl
  have S14 := SLe.1
  have le14 := SLe.2
  clear SLe
  have o14 := ins_self F13 h13.objs.size (lstObj [] 0)
  generalize ins F13 h13.objs.size (lstObj [] 0) = F14 at S14 le14 o14
  dsimp only
  generalize h13.objs.size = c14 at S14 o14 ⊢
  generalize h13.push (lstObj [] 0) = h14 at S14 ⊢
  have SLe := S14.pushF (o := lstObj [.ref c14] 0) rfl
  have S15 := SLe.1
  have le15 := SLe.2
  clear SLe
  have o15 := ins_self F14 h14.objs.size (lstObj [.ref c14] 0)
  generalize ins F14 h14.objs.size (lstObj [.ref c14] 0) = F15 at S15 le15 o15
  generalize h14.objs.size = c15 at o15 ⊢
  generalize h14.push (lstObj [.ref c14] 0) = h15 at S15 ⊢
  refine r_ladd S15 (le15 _ _ (le14 _ _ o13)) o15 (by rw [List.length_append, List.length_singleton, List.length_singleton]; first | with_reducible assumption | decide | lia | omega) fun F16 h16 c16 le16 S16 o16 => ?_
  refine ⟨⟨S16.f (S16.st.b.k _ _ k101), f101⟩, ?_⟩
  have leC := leB.trans (le13.trans (le14.trans (le15.trans le16)))
  have hall2 : All2 (PairsAt F16) ([.ref c11] ++ lvs ++ [.ref c14]) ([[]] ++ listsT x f ++ [[]]) :=
    ((All2.cons ⟨c11, [], 0, rfl, (le12.trans (le13.trans (le14.trans (le15.trans le16)))) _ _ o11, .nil⟩ .nil).app (hall.up fun _ _ z => z.up leC)).app (.cons ⟨c14, [], 0, rfl, (le15.trans le16) _ _ o14, .nil⟩ .nil)
  refine Fn.useT (join_fn o16 hall2 hP.small) C.mono S16 ?_
  intro F17 h17 tk17 t17 le17 S17
  with_reducible refine r_join (sp := [44, 32]) ?ja6 ?jH6 ?jb6 ?jc6 ?jd6 ?je6
  case ja6 | jb6 | jc6 | jd6 | je6 => rfl
  intro tk18
  refine r_list3 ?_
  refine r_name S17 (by exact lw) ?_
  refine r_name S17 (by exact lm) ?_
  refine r_name S17 (by exact lb) ?_
  have S18 := S17.ext (h' := h17.push (lstObj (txs [(wholeT x f, t1), (moreT x f, t3), (R f, bt)]) 0)) (fun _ _ e => Heap.get?_push_of_some _ e)
  refine wp_join (ps := [(wholeT x f, t1), (moreT x f, t3), (R f, bt)]) (Heap.get?_push_size _ rfl) ?_ fun t19 tk19 => ?_
  · have h1 := hP.wlen
    have h2 := hP.rlen
    have hwl : (wordW x f).length = 4 := by rw [wordW, List.length_append, List.length_map, rowsOf_len, X.n3]; rfl
    have hml : (moreT x f).length ≤ 100 := by
      rw [moreT]; simp only [List.length_append, List.length_cons, List.length_nil, hwl]; first | with_reducible assumption | decide | lia | omega
    rw [sizeLine_eq]
    simp only [List.map_cons, List.map_nil, List.sum_cons, List.sum_nil, List.length_cons, List.length_nil]
    first | with_reducible assumption | decide | lia | omega
  first | with_reducible refine PySem.P.ne_str ?_ | refine PySem.P.ne_str ?_
  refine truthy_b ?_
  have q2 : ((T (joinT ([[]] ++ listsT x f ++ [[]]))).cps.toList != (T (jn [44, 32] ([(wholeT x f, t1), (moreT x f, t3), (R f, bt)].map (·.1)))).cps.toList) = false := by
    rw [hP.join, bne_eq_false_iff_eq]; rfl
  rw [q2, if_neg Bool.false_ne_true]
  refine x_nil ?_
  exact H _ _ _ (leC.trans le17) S18
end
end Mine
end
section
open PySem PySem.W PyProof.Rows PySem.Calls
set_option autoImplicit false
set_option maxRecDepth 100000
namespace Mine
structure UldOk (x : Nat) (f : Fo Nat) : Prop where
  there : ∃ zs, Uld ((secondF x f).map R).reverse ((firstF x f).map R) [] zs ∧ zs.Perm (dueK x f 3)
  back : ∃ ms, Uld ((firstF x f).map R).reverse ((secondF x f).map R) ms [] ∧ ms.Perm (dueK x f 3)
theorem Srt.uniq {a b xs ys : List (List Nat)} (h1 : Srt a xs) (h2 : Srt b ys) (h : xs.Perm ys) : a = b := by
  have p : a.Perm b := (h1.1.trans h).trans h2.1.symm
  refine p.eq_of_pairwise (le := fun a b => ¬ b < a) (fun a b _ _ h1 h2 => ?_) h1.2 h2.2
  exact List.le_antisymm h1 h2
section
variable {prog : Program} {w : World} {A : Around} {E : Value → Shared → Prop} {h : Heap} {F : Fz} {M : List (Addr × Obj)} {L a : Addr} {V : List (Str × Value)} {g : Array GenState} {d : Drawn} {tk : Nat} {os : OsState}
  {cn : Str} {cs : Scope} {cd : Value} {cl : List (Str × Addr)}
theorem uld_use {Q : Value → Shared → Prop} {xl yl : Addr} {xs ys : List (List Nat × Tok)} {n1 n2 : Nat} {ms zs : List (List Nat)} (hfr : A.frames = some [envX cn cs L a cd cl]) (hk : cs.kind = .function) (C : Cx A 3 20)
    (S : Sf w h F ((xl, lstObj (txs xs) n1) :: (yl, lstObj (txs ys) n2) :: M) L V) (U : Uld (xs.map (·.1)).reverse (ys.map (·.1)) ms zs) (hz : xs.length ≤ 1000 ∧ ys.length ≤ 1000)
    (H : ∀ F' h' tk' b ml mt nm n1' n2' zt, Le F F' → Sf w h' F' ((xl, lstObj (txs []) n1') :: (yl, lstObj (txs zt) n2') :: M) L V → F' b = some (tupObj [.ref ml, .ref yl]) → F' ml = some (lstObj (txs mt) nm) →
      mt.map (·.1) = ms → zt.map (·.1) = zs → Q (.ref b) ⟨h', g, d, tk', os⟩) : wpAny (model prog w) A (call (.ref 45) [.ref xl, .ref yl]) Q E ⟨h, g, d, tk, os⟩ := by
  obtain ⟨oL, s, n⟩ := S
  have s2 : St w h F ((xl, lstObj (txs xs) n1) :: (yl, lstObj (txs ys) n2) :: (L, oL) :: M) := s.perm (List.perm_middle (l₁ := [_, _])).symm
  refine uld_fn hfr rfl (by show cs.kind ≠ _; rw [hk]; decide) (nso_nofields n) C U hz s2 fun F' h' tk' b ml mt nm n1' n2' sl zt le s' h1 h2 h3 h4 => ?_
  exact H F' h' tk' b ml mt nm n1' n2' zt le ⟨_, s'.perm (List.perm_middle (l₁ := [_, _])), nso_slots n⟩ h1 h2 h3 h4
end
theorem dueK_ok {f : Fo Nat} {x : Nat} (h3 : f.nodes = 3) (h : f.all okL = true) (hx : okL x = true) : ∀ y ∈ dueK x f 3, okT y := by
  intro y hy
  rcases List.mem_append.mp hy with hy | hy
  · rw [List.eq_of_mem_replicate hy]; exact R_okT h
  · obtain ⟨j, hj, rfl⟩ := List.mem_map.mp hy
    have : j < 3 := List.mem_range.mp (List.mem_filter.mp hj).1
    exact R_okT ((rel_rows h3 x this).2.2 h hx)
section
variable {prog : Program} {w : World} {A : Around} {E : Value → Shared → Prop} {h : Heap} {F : Fz} {M : List (Addr × Obj)} {L a : Addr} {V : List (Str × Value)} {g : Array GenState} {d : Drawn} {tk : Nat} {os : OsState}
  {cd : Value} {cl : List (Str × Addr)}
theorem reads_nil {h : Heap} {l : Addr} {n : Nat} (e : h.get? l = some (lstObj [] n)) : Reads h (.ref l) (dTexts []) [l] := reads_texts (ts := []) e
theorem r_isNotSelf {N : Model} {y : Addr} {s : Shared} {Q : Value → Shared → Prop} (H : Q (.bool false) s) : wpAny N A (compareOp .IsNot (.ref y) (.ref y)) Q E s := by
  show wpAny N A (do return .bool (!(← isSame (.ref y) (.ref y)))) Q E s
  exact wpAny_bind (wpAny_isSame_ref_self (wpAny_pure H))
theorem fst_nil {ts : List (List Nat × Tok)} (h : ts.map (·.1) = []) : ts = [] := List.map_eq_nil_iff.mp h
set_option maxHeartbeats 8000000 in
theorem seg6 {f : Fo Nat} {x : Nat} {fl sl dl : Addr} {ts1 ts2 td : List (List Nat × Tok)} {n1 n2 nd : Nat} {Q : Flow → Shared → Prop} (hfr : A.frames = some [envX "law" lawS L a cd cl]) (C : Cx A 90 900) (hP : UldOk x f)
    (S : Sf w h F ((sl, lstObj (txs ts2) n2) :: (fl, lstObj (txs ts1) n1) :: M) L V) (X : Facts F V f x) (lf : Has V "first" (.ref fl)) (lsd : Has V "second" (.ref sl)) (ld : Has V "due" (.ref dl)) (hdl : F dl = some (lstObj (txs td) nd)) (htd : Srt (td.map (·.1)) (dueK x f 3))
    (e1 : ts1.map (·.1) = (firstF x f).map R) (e2 : ts2.map (·.1) = (secondF x f).map R) (z1 : ts1.length ≤ 60) (z2 : ts2.length ≤ 60)
    (H : ∀ F' h' tk' M' V', Le F F' → Sf w h' F' M' L V' → Q (.ret (.bool true)) ⟨h', g, d, tk', os⟩) :
    wpAny (model prog w) A (execs (lawB.drop 24) (envX "law" lawS L a cd cl)) Q E ⟨h, g, d, tk, os⟩ := by
  obtain ⟨o45, fd45, k45, f45⟩ : ∃ o fd, (KF w).lookup 45 = some o ∧ o.data = .func fd := ⟨_, _, by exact rfl, rfl⟩
  have hu : A.units + 64 < cLine := by have := C.un; first | with_reducible assumption | decide | lia | omega
  obtain ⟨zs, hU1, hz1⟩ := hP.there
  obtain ⟨ms, hU2, hm2⟩ := hP.back
  refine x_assignT ?_
  refine r_call ?_
  refine r_global S (by exact rfl) ?_
  refine r_cwF2 (o := o45) (fd := fd45) ?_
  refine r_call ?_
  refine r_builtin S (by exact rfl) (v := .type "list") (by exact rfl) (by decide) ?_
  refine r_cwT1 ?_
  refine r_name S (by exact lsd) ?_
  refine r_copy S (S.m (.head _)) (by rw [List.length_map]; first | with_reducible assumption | decide | lia | omega) fun h1 c1 k1 S1 => ?_
  refine r_call ?_
  refine r_builtin S1 (by exact rfl) (v := .type "list") (by exact rfl) (by decide) ?_
  refine r_cwT1 ?_
  refine r_name S1 (by exact lf) ?_
  refine r_copy S1 (S1.m (.tail _ (.tail _ (.head _)))) (by rw [List.length_map]; first | with_reducible assumption | decide | lia | omega) fun h2 c2 k2 S2 => ?_
  refine ⟨⟨S2.f (S2.st.b.k _ _ k45), f45⟩, ?_⟩
  refine uld_use hfr rfl C.mono S2.swap (by rw [e1, e2]; exact hU1) ⟨by first | with_reducible assumption | decide | lia | omega, by first | with_reducible assumption | decide | lia | omega⟩ fun F3 h3 tk3 b3 ml1 mt1 nm1 n1' n2' zt1 le3 S3 ob3 om3 e3 e4 => ?_
  refine r_unpack2 C.mono S3 (S3.f ob3) fun h4 tk4 S4 => ?_
  refine x_assignT ?_
  refine r_call ?_
  refine r_global S4 (by exact rfl) ?_
  refine r_cwF2 (o := o45) (fd := fd45) ?_
  refine r_name S4 (by exact lf) ?_
  refine r_name S4 (by exact lsd) ?_
  refine ⟨⟨S4.f (S4.st.b.k _ _ k45), f45⟩, ?_⟩
  have S5 := S4.perm (List.perm_append_comm (l₁ := [_, _]) (l₂ := _ :: _ :: M))
  have S5' : Sf w h4 F3 ((fl, lstObj (txs ts1) n1) :: (sl, lstObj (txs ts2) n2) :: (M ++ [(c1, lstObj (txs []) n1'), (c2, lstObj (txs zt1) n2')])) L _ := S5.swap
  refine uld_use hfr rfl C.mono S5' (by rw [e1, e2]; exact hU2) ⟨by first | with_reducible assumption | decide | lia | omega, by first | with_reducible assumption | decide | lia | omega⟩ fun F6 h6 tk6 b6 ml2 mt2 nm2 n3' n4' zt2 le6 S6 ob6 om6 e5 e6 => ?_
  refine r_unpack2 C.mono S6 (S6.f ob6) fun h7 tk7 S7 => ?_
  have ez2 : zt2 = [] := fst_nil e6
  have em1 : mt1 = [] := fst_nil e3
  subst ez2 em1
  have okd := dueK_ok X.n3 X.ok X.okx
  have mt2p : (mt2.map (·.1)).Perm (dueK x f 3) := by rw [e5]; exact hm2
  have zt1p : (zt1.map (·.1)).Perm (dueK x f 3) := by rw [e4]; exact hz1
  have duelen : (dueK x f 3).length ≤ 10 := by
    unfold dueK
    rw [List.length_append, List.length_replicate, List.length_map]
    have := List.length_filter_le (leafR (rowsOf 0 f)) (List.range 3)
    rw [List.length_range] at this; first | with_reducible assumption | decide | lia | omega
  have hmt2 : mt2.length ≤ 10 := by have := mt2p.length_eq; rw [List.length_map] at this; first | with_reducible assumption | decide | lia | omega
  have hzt1 : zt1.length ≤ 10 := by have := zt1p.length_eq; rw [List.length_map] at this; first | with_reducible assumption | decide | lia | omega
  clear S S1 S2 S3 S4 S5 S5' S6
  have ok0 := dTexts_ok (xs := []) (fun y hy => by cases hy)
  have le36 := le3.trans le6
  refine x_if ?_
  refine isTrue_or ?_
  refine wpAny_isTrue_Compare1 ?_
  refine r_name S7 (by exact lf) ?_
  refine r_list0 ?_
  have S8 := S7.ext (h' := h7.push (lstObj [] 0)) (fun _ _ e => Heap.get?_push_of_some _ e)
  refine r_sameNe hu (reads_nil (S8.m (.head _))) (reads_nil (Heap.get?_push_size h7 (o := lstObj [] 0) rfl)) ok0.1 (by have := ok0.2; simp at this ⊢; first | with_reducible assumption | decide | lia | omega) ?_
  refine truthy_b ?_
  first | with_reducible refine on_f (by decide) ?_ | refine on_f (by decide) ?_ | rw [if_neg (by decide)]
  refine isTrue_or ?_
  refine wpAny_isTrue_Compare1 ?_
  refine r_name S8 (by exact rfl) ?_
  refine r_name S8 (by exact lsd) ?_
  refine r_isNotSelf ?_
  refine truthy_b ?_
  first | with_reducible refine on_f (by decide) ?_ | refine on_f (by decide) ?_ | rw [if_neg (by decide)]
  refine isTrue_or_nil ?_
  first | with_reducible refine on_f (by decide) ?_ | refine on_f (by decide) ?_ | rw [if_neg (by decide)]
  refine x_nil ?_
  dsimp only
  generalize h7.push (lstObj [] 0) = h8 at S8 ⊢
  clear S7
  refine x_ret ?_
  refine BoolOp_and ?_
  refine wpAny_Compare1 ?_
  refine r_call ?_
  refine r_builtin S8 (by exact rfl) (v := .builtin "sorted") (by exact rfl) (by decide) ?_
  refine r_cwB1 ?_
  refine r_name S8 (by exact rfl) ?_
  refine r_sorted S8 (S8.f om6) (by first | with_reducible assumption | decide | lia | omega) fun F9 h9 c9 ts9 n9 le9 S9 o9 hs9 => ?_
  refine r_name S9 (by exact ld) ?_
  have u9 := hs9.uniq htd mt2p
  have le39 := le36.trans le9
  have r9 := reads_texts (S9.f o9)
  rw [u9] at r9
  have okt := dTexts_ok (xs := td.map (·.1)) (fun y hy => okd y (htd.1.mem_iff.mp hy))
  refine r_sameEq hu r9 (reads_texts (S9.f (le39 _ _ hdl))) okt.1 (by have := okt.2; first | with_reducible assumption | decide | lia | omega) ?_
  refine truthy_b ?_
  first | with_reducible refine on_t rfl ?_ | refine on_t rfl ?_ | rw [if_pos rfl]
  refine BoolOp_and ?_
  refine wpAny_Compare1 ?_
  refine r_name S9 (by exact rfl) ?_
  refine r_list0 ?_
  have S10 := S9.ext (h' := h9.push (lstObj [] 0)) (fun _ _ e => Heap.get?_push_of_some _ e)
  refine r_sameEq hu (reads_nil (S10.m (.tail _ (.head _)))) (reads_nil (Heap.get?_push_size h9 (o := lstObj [] 0) rfl)) ok0.1 (by have := ok0.2; simp at this ⊢; first | with_reducible assumption | decide | lia | omega) ?_
  refine truthy_b ?_
  first | with_reducible refine on_t rfl ?_ | refine on_t rfl ?_ | rw [if_pos rfl]
  dsimp only
  generalize h9.push (lstObj [] 0) = h10 at S10 ⊢
  refine BoolOp_and ?_
  refine wpAny_Compare1 ?_
  refine r_name S10 (by exact rfl) ?_
  refine r_list0 ?_
  have S11 := S10.ext (h' := h10.push (lstObj [] 0)) (fun _ _ e => Heap.get?_push_of_some _ e)
  refine r_sameEq hu (reads_nil (S11.f (le9 _ _ (le6 _ _ om3)))) (reads_nil (Heap.get?_push_size h10 (o := lstObj [] 0) rfl)) ok0.1 (by have := ok0.2; simp at this ⊢; first | with_reducible assumption | decide | lia | omega) ?_
  refine truthy_b ?_
  first | with_reducible refine on_t rfl ?_ | refine on_t rfl ?_ | rw [if_pos rfl]
  dsimp only
  generalize h10.push (lstObj [] 0) = h11 at S11 ⊢
  refine BoolOp_one ?_
  refine wpAny_Compare1 ?_
  refine r_call ?_
  refine r_builtin S11 (by exact rfl) (v := .builtin "sorted") (by exact rfl) (by decide) ?_
  refine r_cwB1 ?_
  refine r_name S11 (by exact rfl) ?_
  refine r_sorted (ts := zt1) (n := n2') S11 (S11.m (.tail _ (.tail _ (List.mem_append_right _ (.tail _ (.head _)))))) (by first | with_reducible assumption | decide | lia | omega) fun F12 h12 c12 ts12 n12 le12 S12 o12 hs12 => ?_
  refine r_name S12 (by exact ld) ?_
  have u12 := hs12.uniq htd zt1p
  have r12 := reads_texts (S12.f o12)
  rw [u12] at r12
  refine r_sameEq hu r12 (reads_texts (S12.f (le12 _ _ (le39 _ _ hdl)))) okt.1 (by have := okt.2; first | with_reducible assumption | decide | lia | omega) ?_
  exact H _ _ _ _ _ (le39.trans le12) S12
end
end Mine
end
section
open PySem PySem.W PyProof.Rows PySem.Calls
set_option autoImplicit false
set_option maxRecDepth 100000
namespace Mine
/- the plain law -/
structure Plain (x : Nat) (f : Fo Nat) : Prop where
  sld : SldOk x f
  text : TextOk x f
  uld : UldOk x f
  few1 : (firstF x f).length ≤ 60
  few2 : (secondF x f).length ≤ 60
section
variable {prog : Program} {w : World} {A : Around} {E : Value → Shared → Prop} {h : Heap} {F : Fz} {M : List (Addr × Obj)} {L a : Addr} {V : List (Str × Value)} {g : Array GenState} {d : Drawn} {tk : Nat} {os : OsState}
  {cd : Value} {cl : List (Str × Addr)}
theorem law_walk (hP : ∀ f x, f.nodes = 3 → f.all okL = true → okL x = true → Plain x f) {D : Addr} {f0 f1 f2 : Int} {t0 t1 t2 : Tok} {n : Nat} {Q : Flow → Shared → Prop} (hfr : A.frames = some [envX "law" lawS L a cd cl]) (C : Cx A 90 900)
    (S : Sf w h F M L V) (hD : F D = some (lstObj [.int f0 t0, .int f1 t1, .int f2 t2] n)) (lf : Has V "figures" (.ref D))
    (H : ∀ F' h' tk' M' V', Le F F' → Sf w h' F' M' L V' → Q (.ret (.bool true)) ⟨h', g, d, tk', os⟩) :
    wpAny (model prog w) A (execs (lawB.drop 1) (envX "law" lawS L a cd cl)) Q E ⟨h, g, d, tk, os⟩ := by
  refine seg1 C S hD lf fun F1 h1 tk1 V1 f x le1 S1 X1 => ?_
  have P := hP f x X1.n3 X1.ok X1.okx
  refine seg2 C S1 X1 fun F2 h2 tk2 V2 fl sl ts1 ts2 n1 n2 le2 S2 X2 lf lsd e1 e2 _ _ => ?_
  have z1 : ts1.length ≤ 60 := by
    have := congrArg List.length e1
    rw [List.length_map, List.length_map] at this
    have := P.few1; first | with_reducible assumption | decide | lia | omega
  have z2 : ts2.length ≤ 60 := by
    have := congrArg List.length e2
    rw [List.length_map, List.length_map] at this
    have := P.few2; first | with_reducible assumption | decide | lia | omega
  refine seg3 C S2 X2 lf lsd fun F3 h3 tk3 V3 dl td nd ol ot no le3 S3 X3 lf lsd ld hdl htd lo hol hot => ?_
  refine seg4 (td := td) (nd := nd) hfr C P.sld S3 X3 lf lsd ld lo e1 e2 z1 z2 hol hot fun F4 h4 tk4 V4 le4 S4 X4 lf lsd ld => ?_
  first | with_reducible refine seg5a C P.text S4 X4 lf lsd ld e2 z2 fun F5 h5 tk5 V5 t1 t2 t3 v le5 S5 X5 lf lsd ld lw lo lm ll hv => ?_ | refine seg5a C P.text S4 X4 lf lsd ld e2 z2 fun F5 h5 tk5 V5 t1 t2 t3 v le5 S5 X5 lf lsd ld lw lo lm ll hv => ?_
  refine seg5b C P.text S5 X5 lf lsd ld e2 z2 lw lo lm ll hv fun F6 h6 tk6 le6 S6 => ?_
  refine seg6 hfr C P.uld S6 (X5.up le6) lf lsd ld ((le4.trans (le5.trans le6)) _ _ hdl) htd e1 e2 z1 z2 fun F7 h7 tk7 M7 V7 le7 S7 => ?_
  exact H _ _ _ _ _ (((le1.trans le2).trans (le3.trans le4)).trans ((le5.trans le6).trans le7)) S7
end
end Mine
end
section
open PySem PySem.W PyProof.Rows PySem.Calls
set_option autoImplicit false
set_option maxRecDepth 100000
namespace Mine
theorem jesc34 : fJesc 34 = true := by decide
theorem jesc92 : fJesc 92 = true := by decide
theorem jtok34 : fJtok 34 = false := by decide +kernel
theorem jtok59 : fJtok 59 = false := by decide +kernel
/- a text in marks is read back -/
theorem esc_split : ∀ {v v' t t' : List Nat}, esc v ++ 34 :: t = esc v' ++ 34 :: t' → v = v' ∧ t = t'
  | [], [], t, t', h => ⟨rfl, (List.cons.inj h).2⟩
  | [], c :: r, t, t', h => by
    cases q : fJesc c with
    | true =>
      rw [esc_special q] at h
      exact absurd (List.cons.inj h).1 (by decide)
    | false =>
      have e : esc (c :: r) = c :: esc r := by show (if fJesc c then _ else _) = _; rw [q]; rfl
      rw [e] at h
      have := (List.cons.inj h).1
      rw [← this, jesc34] at q; cases q
  | c :: r, [], t, t', h => by
    cases q : fJesc c with
    | true =>
      rw [esc_special q] at h
      exact absurd (List.cons.inj h).1 (by decide)
    | false =>
      have e : esc (c :: r) = c :: esc r := by show (if fJesc c then _ else _) = _; rw [q]; rfl
      rw [e] at h
      have := (List.cons.inj h).1
      rw [this, jesc34] at q; cases q
  | c :: r, c' :: r', t, t', h => by
    have pl : ∀ {c : Nat} {r : List Nat}, fJesc c = false → esc (c :: r) = c :: esc r := fun {c r} q => by show (if fJesc c then _ else _) = _; rw [q]; rfl
    cases q : fJesc c with
    | true =>
      cases q' : fJesc c' with
      | true =>
        rw [esc_special q, esc_special q'] at h
        obtain ⟨_, h2⟩ := List.cons.inj h
        obtain ⟨e, h3⟩ := List.cons.inj h2
        obtain ⟨e2, e3⟩ := esc_split h3
        exact ⟨by rw [e, e2], e3⟩
      | false =>
        rw [esc_special q, pl q'] at h
        have := (List.cons.inj h).1
        rw [← this, jesc92] at q'; cases q'
    | false =>
      cases q' : fJesc c' with
      | true =>
        rw [esc_special q', pl q] at h
        have := (List.cons.inj h).1
        rw [this, jesc92] at q; cases q
      | false =>
        rw [pl q, pl q'] at h
        obtain ⟨e, h3⟩ := List.cons.inj h
        obtain ⟨e2, e3⟩ := esc_split h3
        exact ⟨by rw [e, e2], e3⟩
theorem plain_split {v v' t t' : List Nat} (h : v ++ t = v' ++ t') (hv : v.all fJtok = true) (hv' : v'.all fJtok = true) (ht : ∀ a, t.head? = some a → a = 59) (ht' : ∀ a, t'.head? = some a → a = 59) : v = v' ∧ t = t' := by
  have key : ∀ {v t : List Nat}, v.all fJtok = true → (∀ a, t.head? = some a → a = 59) → (v ++ t).takeWhile fJtok = v := by
    intro v t hv ht
    rw [List.takeWhile_append_of_pos (fun a ha => List.all_eq_true.mp hv a ha)]
    cases t with
    | nil => simp
    | cons a t => rw [ht a rfl, List.takeWhile_cons, jtok59]; simp
  have e : v = v' := by rw [← key hv ht, h, key hv' ht']
  subst e
  exact ⟨rfl, List.append_cancel_left h⟩
theorem valT_split {v v' t t' : List Nat} (h : valT v ++ t = valT v' ++ t') (hv : v ≠ []) (hv' : v' ≠ []) (ht : ∀ a, t.head? = some a → a = 59) (ht' : ∀ a, t'.head? = some a → a = 59) : v = v' ∧ t = t' := by
  have mixed : ∀ {v v' t t' : List Nat}, v ++ t = 34 :: (esc v' ++ [34]) ++ t' → v ≠ [] → v.all fJtok = true → False := by
    intro v v' t t' h hv ha
    cases v with
    | nil => exact hv rfl
    | cons a v =>
      have e := (List.cons.inj h).1
      rw [List.all_cons, e, jtok34] at ha; cases ha
  unfold valT at h
  split at h <;> split at h
  · rename_i q q'
    exact plain_split h q.2 q'.2 ht ht'
  · rename_i q q'
    exact (mixed h hv q.2).elim
  · rename_i q q'
    exact (mixed h.symm hv' q'.2).elim
  · have h2 := (List.cons.inj h).2
    have h3 : esc v ++ [34] ++ t = esc v' ++ [34] ++ t' := h2
    rw [List.append_assoc, List.append_assoc] at h3
    exact esc_split h3
theorem R_ne : ∀ {f : Fo Nat}, f.isNil = false → R f ≠ []
  | .nil, h => by cases h
  | .cons c k r, _ => fun e => by rw [R] at e; cases e
/- a header's text tells the header -/
theorem R_inj : ∀ {f g : Fo Nat}, R f = R g → f = g
  | .nil, .nil, _ => rfl
  | .nil, .cons c k r, h => by rw [R, R] at h; cases h
  | .cons c k r, .nil, h => by rw [R, R] at h; cases h
  | .cons c k r, .cons c' k' r', h => by
    rw [R, R] at h
    obtain ⟨e, h2⟩ := List.cons.inj h
    have hY : ∀ (r : Fo Nat) (a : Nat), (if r.isNil then [] else 59 :: 32 :: R r : List Nat).head? = some a → a = 59 := by
      intro r a ha
      split at ha
      · cases ha
      · cases ha; rfl
    have hr : (if r.isNil then [] else 59 :: 32 :: R r : List Nat) = (if r'.isNil then [] else 59 :: 32 :: R r') → r = r' := by
      intro q
      cases r with
      | nil => cases r' with | nil => rfl | cons c2 k2 r2 => simp [isNil_nil, isNil_cons] at q
      | cons c1 k1 r1 => cases r' with
        | nil => simp [isNil_nil, isNil_cons] at q
        | cons c2 k2 r2 =>
          simp only [isNil_nil, isNil_cons, if_false, Bool.false_eq_true] at q
          exact R_inj (List.cons.inj (List.cons.inj q).2).2
    cases k with
    | nil =>
      cases k' with
      | nil => rw [e, hr h2]
      | cons c2 k2 r2 =>
        exfalso
        have h3 : (if r.isNil then [] else 59 :: 32 :: R r : List Nat) = 61 :: (valT (R (.cons c2 k2 r2)) ++ (if r'.isNil then [] else 59 :: 32 :: R r')) := h2
        have := hY r 61 (by rw [h3]; rfl)
        cases this
    | cons c1 k1 r1 =>
      cases k' with
      | nil =>
        exfalso
        have h3 : 61 :: (valT (R (.cons c1 k1 r1)) ++ (if r.isNil then [] else 59 :: 32 :: R r : List Nat)) = (if r'.isNil then [] else 59 :: 32 :: R r') := h2
        have := hY r' 61 (by rw [← h3]; rfl)
        cases this
      | cons c2 k2 r2 =>
        have h3 := (List.cons.inj (show 61 :: (valT (R (.cons c1 k1 r1)) ++ (if r.isNil then [] else 59 :: 32 :: R r : List Nat)) = 61 :: (valT (R (.cons c2 k2 r2)) ++ (if r'.isNil then [] else 59 :: 32 :: R r')) from h2)).2
        obtain ⟨h4, h5⟩ := valT_split h3 (R_ne rfl) (R_ne rfl) (hY r) (hY r')
        rw [e, R_inj h4, hr h5]
/- what is taken away one by one -/
theorem uld_gen : ∀ (xs ys : List (List Nat)), ∃ ms zs hs, Uld xs ys ms zs ∧ xs.Perm (hs ++ ms) ∧ ys.Perm (hs ++ zs) ∧ ∀ m ∈ ms, m ∉ zs
  | [], ys => ⟨[], ys, [], .nil, .nil, .refl _, fun m hm => nomatch hm⟩
  | x :: xs, ys => by
    by_cases q : x ∈ ys
    · obtain ⟨a, b, rfl, hx⟩ := List.eq_append_cons_of_mem q
      obtain ⟨ms, zs, hs, h1, h2, h3, h4⟩ := uld_gen xs (a ++ b)
      exact ⟨ms, zs, x :: hs, .hit hx h1, h2.cons x, List.perm_middle.trans (h3.cons x), h4⟩
    · obtain ⟨ms, zs, hs, h1, h2, h3, h4⟩ := uld_gen xs ys
      refine ⟨x :: ms, zs, hs, .miss q h1, (h2.cons x).trans List.perm_middle.symm, h3, fun m hm => ?_⟩
      rcases List.mem_cons.mp hm with rfl | hm
      · exact fun hz => q (h3.mem_iff.mpr (List.mem_append_right _ hz))
      · exact h4 m hm
theorem uld_ok {S Fi D : List (List Nat)} (h : Fi.Perm (S ++ D)) : (∃ zs, Uld S.reverse Fi [] zs ∧ zs.Perm D) ∧ ∃ ms, Uld Fi.reverse S ms [] ∧ ms.Perm D := by
  constructor
  · obtain ⟨ms, zs, hs, h1, h2, h3, h4⟩ := uld_gen S.reverse Fi
    have e1 : S.Perm (hs ++ ms) := (List.reverse_perm S).symm.trans h2
    have e2 : (hs ++ zs).Perm (hs ++ (ms ++ D)) := by
      rw [← List.append_assoc]
      exact (h3.symm.trans h).trans (e1.append_right D)
    have e3 : zs.Perm (ms ++ D) := (List.perm_append_left_iff hs).mp e2
    have e4 : ms = [] := List.eq_nil_iff_forall_not_mem.mpr fun m hm => h4 m hm (e3.mem_iff.mpr (List.mem_append_left _ hm))
    subst e4
    exact ⟨zs, h1, e3⟩
  · obtain ⟨ms, zs, hs, h1, h2, h3, h4⟩ := uld_gen Fi.reverse S
    have e1 : Fi.Perm (hs ++ ms) := (List.reverse_perm Fi).symm.trans h2
    have e2 : (hs ++ ms).Perm (hs ++ (zs ++ D)) := by
      rw [← List.append_assoc]
      exact (e1.symm.trans h).trans (h3.append_right D)
    have e3 : ms.Perm (zs ++ D) := (List.perm_append_left_iff hs).mp e2
    have e4 : zs = [] := List.eq_nil_iff_forall_not_mem.mpr fun z hz => h4 z (e3.mem_iff.mpr (List.mem_append_left _ hz)) hz
    subst e4
    exact ⟨ms, h1, e3⟩
end Mine
end
section
open PySem PySem.W PyProof.Rows PySem.Calls
set_option autoImplicit false
set_option maxRecDepth 100000
namespace Mine
noncomputable abbrev Asc (xs : List (List Nat)) : Prop := xs.Pairwise fun a b => ¬ b < a
theorem lex_lt {a b : List Nat} (h : ¬ b < a) (hn : a ≠ b) : a < b := by
  refine Classical.byContradiction fun q => hn ?_
  exact List.le_antisymm h q
theorem skip_mem : ∀ {xs : List (List Nat)} {e : List Nat}, Asc (e :: xs) → Asc (xs.dropWhile (· == e)) ∧ ∀ y, y ∈ xs.dropWhile (· == e) ↔ y ∈ xs ∧ y ≠ e
  | [], e, _ => ⟨.nil, fun y => by simp⟩
  | x :: xs, e, h => by
    obtain ⟨h1, h2⟩ := List.pairwise_cons.mp h
    by_cases q : x = e
    · subst q
      rw [List.dropWhile_cons, if_pos (by simp)]
      obtain ⟨i1, i2⟩ := skip_mem h2
      refine ⟨i1, fun y => ?_⟩
      rw [i2 y, List.mem_cons]
      constructor
      · rintro ⟨a, b⟩; exact ⟨.inr a, b⟩
      · rintro ⟨a | a, b⟩
        · exact absurd a b
        · exact ⟨a, b⟩
    · rw [List.dropWhile_cons, if_neg (by simpa using q)]
      refine ⟨h2, fun y => ⟨fun hy => ⟨hy, ?_⟩, fun hy => hy.1⟩⟩
      rcases List.mem_cons.mp hy with rfl | hy
      · exact q
      · intro hye
        subst hye
        exact q (List.le_antisymm ((List.pairwise_cons.mp h2).1 y hy) (h1 x (.head _)))
theorem skip_len (xs : List (List Nat)) (e : List Nat) : (xs.dropWhile (· == e)).length ≤ xs.length := (List.dropWhile_sublist _).length_le
theorem skip_app {Y : List (List Nat)} {e Z : List Nat} (hZ : Z ≠ e) : (Y ++ [Z, Z]).dropWhile (· == e) = Y.dropWhile (· == e) ++ [Z, Z] := by
  induction Y with
  | nil => rw [List.nil_append, List.dropWhile_cons, if_neg (by simpa using hZ)]; rfl
  | cons y Y ih =>
    rw [List.cons_append, List.dropWhile_cons, List.dropWhile_cons]
    split
    · exact ih
    · rfl
/- two texts' lists in order: the first has what the second has, and O beside it; the second ends in what is greater than all -/
theorem sld_gen {Z : List Nat} : ∀ (n : Nat) (X Y O : List (List Nat)), X.length ≤ n → X ≠ [] → Asc X → Asc Y → O.Pairwise (· < ·) → (∀ z, z ∈ X ↔ z ∈ Y ∨ z ∈ O) → (∀ z ∈ Y, z ∉ O) → (∀ z ∈ X, z < Z) →
    Sld X (Y ++ [Z, Z]) O [Z, Z] ∧ Sld (Y ++ [Z, Z]) X [Z, Z] O
  | n, [], _, _, _, h0, _, _, _, _, _, _ => absurd rfl h0
  | 0, _ :: _, _, _, h, _, _, _, _, _, _, _ => absurd h (Nat.not_succ_le_zero _)
  | n + 1, x :: X, Y, O, hn, _, hX, hY, hO, hm, hd, hZ => by
    have hxZ : x < Z := hZ x (.head _)
    have hZx : Z ≠ x := fun e => by subst e; exact List.lt_irrefl _ hxZ
    obtain ⟨hX1, hX2⟩ := List.pairwise_cons.mp hX
    obtain ⟨sX1, sX2⟩ := skip_mem hX
    have hlen : (X.dropWhile (· == x)).length ≤ n := Nat.le_trans (skip_len _ _) (Nat.le_of_succ_le_succ hn)
    have hmin : ∀ z ∈ x :: X, ¬ z < x := fun z hz => by
      rcases List.mem_cons.mp hz with rfl | hz
      · exact List.lt_irrefl _
      · exact hX1 z hz
    have hZ' : ∀ z ∈ X.dropWhile (· == x), z < Z := fun z hz => hZ z (.tail _ ((sX2 z).mp hz).1)
    have inX' : ∀ z, z ∈ X.dropWhile (· == x) ↔ (z ∈ Y ∨ z ∈ O) ∧ z ≠ x := fun z => by
      rw [sX2, ← hm z, List.mem_cons]
      constructor
      · rintro ⟨a, b⟩; exact ⟨.inr a, b⟩
      · rintro ⟨a | a, b⟩
        · exact absurd a b
        · exact ⟨a, b⟩
    by_cases hxY : x ∈ Y
    · -- both begin with x
      obtain ⟨y, Y', rfl⟩ : ∃ y Y', Y = y :: Y' := by cases Y with | nil => cases hxY | cons y Y' => exact ⟨_, _, rfl⟩
      have hxO : x ∉ O := hd x hxY
      have exy : x = y := by
        refine List.le_antisymm (hmin y ((hm y).mpr (.inl (.head _)))) ?_
        rcases List.mem_cons.mp hxY with rfl | q
        · exact List.lt_irrefl _
        · exact (List.pairwise_cons.mp hY).1 x q
      subst exy
      obtain ⟨sY1, sY2⟩ := skip_mem hY
      by_cases hnil : X.dropWhile (· == x) = []
      · have hO0 : O = [] := List.eq_nil_iff_forall_not_mem.mpr fun z hz => by
          have : z ∈ X.dropWhile (· == x) := (inX' z).mpr ⟨.inr hz, fun e => hxO (e ▸ hz)⟩
          rw [hnil] at this; cases this
        have hY0 : Y'.dropWhile (· == x) = [] := List.eq_nil_iff_forall_not_mem.mpr fun z hz => by
          obtain ⟨a, b⟩ := (sY2 z).mp hz
          have : z ∈ X.dropWhile (· == x) := (inX' z).mpr ⟨.inl (.tail _ a), b⟩
          rw [hnil] at this; cases this
        subst hO0
        have e1 : (Y' ++ [Z, Z]).dropWhile (· == x) = [Z, Z] := by rw [skip_app hZx, hY0]; rfl
        constructor
        · have := Sld.eqEndE (e := x) (es := X) (as := Y' ++ [Z, Z]) hnil (by rw [e1]; simp)
          rw [e1] at this; exact this
        · have := Sld.eqEndA (e := x) (es := Y' ++ [Z, Z]) (as := X) (by rw [e1]; simp) hnil
          rw [e1] at this; exact this
      · have ih := sld_gen n (X.dropWhile (· == x)) (Y'.dropWhile (· == x)) O hlen hnil sX1 sY1 hO (fun z => by
          rw [inX', sY2, List.mem_cons]
          constructor
          · rintro ⟨(a | a) | a, b⟩
            · exact absurd a b
            · exact .inl ⟨a, b⟩
            · exact .inr a
          · rintro (⟨a, b⟩ | a)
            · exact ⟨.inl (.inr a), b⟩
            · exact ⟨.inr a, fun e => hxO (e ▸ a)⟩) (fun z hz => hd z (.tail _ ((sY2 z).mp hz).1)) hZ'
        have e1 : (Y' ++ [Z, Z]).dropWhile (· == x) ≠ [] := by rw [skip_app hZx]; simp
        constructor
        · exact Sld.eq (e := x) (es := X) (as := Y' ++ [Z, Z]) hnil e1 (by rw [skip_app hZx]; exact ih.1)
        · exact Sld.eq (e := x) (es := Y' ++ [Z, Z]) (as := X) e1 hnil (by rw [skip_app hZx]; exact ih.2)
    · have hxO : x ∈ O := ((hm x).mp (.head _)).resolve_left hxY
      obtain ⟨o, O', rfl⟩ : ∃ o O', O = o :: O' := by cases O with | nil => cases hxO | cons o O' => exact ⟨_, _, rfl⟩
      obtain ⟨hO1, hO2⟩ := List.pairwise_cons.mp hO
      have exo : x = o := by
        rcases List.mem_cons.mp hxO with q | q
        · exact q
        · exact absurd (hO1 x q) (hmin o ((hm o).mpr (.inr (.head _))))
      subst exo
      have hxO' : x ∉ O' := fun q => List.lt_irrefl _ (hO1 x q)
      have inX2 : ∀ z, z ∈ X.dropWhile (· == x) ↔ z ∈ Y ∨ z ∈ O' := fun z => by
        rw [inX', List.mem_cons]
        constructor
        · rintro ⟨a | a | a, b⟩
          · exact .inl a
          · exact absurd a b
          · exact .inr a
        · rintro (a | a)
          · exact ⟨.inl a, fun e => hxY (e ▸ a)⟩
          · exact ⟨.inr (.inr a), fun e => hxO' (e ▸ a)⟩
      by_cases hnil : X.dropWhile (· == x) = []
      · have hY0 : Y = [] := List.eq_nil_iff_forall_not_mem.mpr fun z hz => by
          have := (inX2 z).mpr (.inl hz); rw [hnil] at this; cases this
        have hO0 : O' = [] := List.eq_nil_iff_forall_not_mem.mpr fun z hz => by
          have := (inX2 z).mpr (.inr hz); rw [hnil] at this; cases this
        subst hY0 hO0
        exact ⟨Sld.ltEnd hxZ hnil, Sld.gtEnd hxZ hnil⟩
      · have ih := sld_gen n (X.dropWhile (· == x)) Y O' hlen hnil sX1 hY hO2 inX2 (fun z hz q => hd z hz (.tail _ q)) hZ'
        cases Y with
        | nil => exact ⟨Sld.lt hxZ hnil ih.1, Sld.gt hxZ hnil ih.2⟩
        | cons y Y' =>
          have hlt : x < y := lex_lt (hmin y ((hm y).mpr (.inl (.head _)))) (fun e => hxY (e ▸ .head _))
          exact ⟨Sld.lt hlt hnil ih.1, Sld.gt hlt hnil ih.2⟩
end Mine
end
section
open PySem PySem.W PyProof.Rows PySem.Calls
set_option autoImplicit false
set_option maxRecDepth 100000
namespace Mine
noncomputable def Fo.map {α β : Type} (s : α → β) : Fo α → Fo β
  | .nil => .nil
  | .cons c k r => .cons (s c) (k.map s) (r.map s)
noncomputable def sg (a b c x : Nat) : Nat → Nat
  | 0 => a
  | 1 => b
  | 2 => c
  | _ => x
noncomputable def Fo.same : Fo Nat → Fo Nat → Bool
  | .nil, .nil => true
  | .cons c k r, .cons c' k' r' => Nat.beq c c' && Fo.same k k' && Fo.same r r'
  | _, _ => false
theorem same_eq : ∀ {a b : Fo Nat}, Fo.same a b = true → a = b
  | .nil, .nil, _ => rfl
  | .cons c k r, .cons c' k' r', h => by
    have h : (Nat.beq c c' && Fo.same k k' && Fo.same r r') = true := h
    have h1 := Bool.and_eq_true_iff.mp h
    have h2 := Bool.and_eq_true_iff.mp h1.1
    rw [Nat.eq_of_beq_eq_true h2.1, same_eq h2.2, same_eq h1.2]
  | .nil, .cons _ _ _, h => nomatch h
  | .cons _ _ _, .nil, h => nomatch h
theorem same_self : ∀ a : Fo Nat, Fo.same a a = true
  | .nil => rfl
  | .cons c k r => by
    show (Nat.beq c c && Fo.same k k && Fo.same r r) = true
    rw [Nat.beq_refl, same_self k, same_self r]; rfl
theorem same_law : @LawfulBEq (Fo Nat) ⟨Fo.same⟩ := @LawfulBEq.mk _ ⟨Fo.same⟩ (@ReflBEq.mk _ ⟨Fo.same⟩ (same_self _)) same_eq
/- what the header's shape gives -/
structure Sh (x : Nat) (f : Fo Nat) : Prop where
  perm : (firstF x f).Perm (secondF x f ++ (List.replicate 7 f ++ ((List.range 3).filter (leafR (rowsOf 0 f))).map (rel x f)))
  ren : ∀ j ∈ (List.range 3).filter (leafR (rowsOf 0 f)), rel x f j ∈ secondF x f
  same : ∀ j, j < 3 → ((rowsOf 0 f).getD j (0, 0)).2 = x → rel x f j = f
  back : f ∈ secondF x f → ∃ j, j < 3 ∧ leafR (rowsOf 0 f) j = true ∧ ((rowsOf 0 f).getD j (0, 0)).2 = x
  few1 : (firstF x f).length ≤ 60
  few2 : (secondF x f).length ≤ 60
  ne : secondF x f ≠ []
theorem shape_ok {s0 f : Fo Nat} {ls : List Nat} {a b c x : Nat} (h1 : firstF x f = (firstF 3 s0).map (Fo.map (sg a b c x))) (h2 : secondF x f = (secondF 3 s0).map (Fo.map (sg a b c x))) (h3 : f = s0.map (sg a b c x))
    (h4 : (List.range 3).filter (leafR (rowsOf 0 f)) = ls) (h5 : ∀ j ∈ ls, rel x f j = (rel 3 s0 j).map (sg a b c x)) (d1 : @List.isPerm (Fo Nat) ⟨Fo.same⟩ (firstF 3 s0) (secondF 3 s0 ++ (List.replicate 7 s0 ++ ls.map (rel 3 s0))) = true) (d2 : (ls.all fun j => (secondF 3 s0).any (Fo.same (rel 3 s0 j))) = true)
    (d3 : (firstF 3 s0).length ≤ 60) (d4 : (secondF 3 s0).length ≤ 60) (d5 : (secondF 3 s0).length ≠ 0) (same : ∀ j, j < 3 → ((rowsOf 0 f).getD j (0, 0)).2 = x → rel x f j = f) (back : f ∈ secondF x f → ∃ j, j < 3 ∧ leafR (rowsOf 0 f) j = true ∧ ((rowsOf 0 f).getD j (0, 0)).2 = x) : Sh x f := by
  refine ⟨?_, ?_, same, back, by rw [h1, List.length_map]; exact d3, by rw [h2, List.length_map]; exact d4, fun e => d5 (by rw [h2] at e; rw [List.map_eq_nil_iff.mp e]; rfl)⟩
  · rw [h1, h2, h4]
    have := ((@List.isPerm_iff _ ⟨Fo.same⟩ same_law _ _).mp d1).map (Fo.map (sg a b c x))
    rw [List.map_append, List.map_append, List.map_replicate, List.map_map, ← h3] at this
    refine this.trans ?_
    rw [show ls.map (Fo.map (sg a b c x) ∘ rel 3 s0) = ls.map (rel x f) from List.map_congr_left fun j hj => (h5 j hj).symm]
  · rw [h4, h2]
    intro j hj
    rw [h5 j hj]
    obtain ⟨u, hu, e⟩ := List.any_eq_true.mp (List.all_eq_true.mp d2 j hj)
    rw [same_eq e]
    exact List.mem_map_of_mem hu
theorem rel_same {f : Fo Nat} (h : f.nodes = 3) {x : Nat} : ∀ j, j < 3 → ((rowsOf 0 f).getD j (0, 0)).2 = x → rel x f j = f := by
  obtain ⟨a, b, c, h⟩ := fo3 h
  intro j hj
  have : j = 0 ∨ j = 1 ∨ j = 2 := by first | with_reducible assumption | decide | lia | omega
  rcases this with rfl | rfl | rfl <;> rcases h with rfl | rfl | rfl | rfl | rfl <;> (intro e; subst e; rfl)
theorem sh1 (a b c x : Nat) : Sh x (.cons a .nil (.cons b .nil (lone c))) := by
  refine shape_ok (s0 := .cons 0 .nil (.cons 1 .nil (lone 2))) (ls := [0, 1, 2]) (a := a) (b := b) (c := c) rfl rfl rfl rfl ?_ ?_ ?_ ?_ ?_ ?_ (rel_same rfl) ?_
  · intro j hj
    have : j = 0 ∨ j = 1 ∨ j = 2 := by simpa using hj
    rcases this with rfl | rfl | rfl <;> rfl
  · decide +kernel
  · decide +kernel
  · decide +kernel
  · decide +kernel
  · decide +kernel
  · intro h
    have : a = x ∨ b = x ∨ c = x := by
      simp [secondF, pluck, pluckG_nil, pluckG_cons, laid, ins1_nil, ins1_cons, withinG_nil, withinG_cons, isNil_nil, isNil_cons] at h
      first | with_reducible assumption | decide | lia | omega
    rcases this with q | q | q
    · exact ⟨0, by first | with_reducible assumption | decide | lia | omega, rfl, q⟩
    · exact ⟨1, by first | with_reducible assumption | decide | lia | omega, rfl, q⟩
    · exact ⟨2, by first | with_reducible assumption | decide | lia | omega, rfl, q⟩
theorem sh2 (a b c x : Nat) : Sh x (.cons a .nil (.cons b (lone c) .nil)) := by
  refine shape_ok (s0 := .cons 0 .nil (.cons 1 (lone 2) .nil)) (ls := [0, 2]) (a := a) (b := b) (c := c) rfl rfl rfl rfl ?_ ?_ ?_ ?_ ?_ ?_ (rel_same rfl) ?_
  · intro j hj
    have : j = 0 ∨ j = 2 := by simpa using hj
    rcases this with rfl | rfl <;> rfl
  · decide +kernel
  · decide +kernel
  · decide +kernel
  · decide +kernel
  · decide +kernel
  · intro h
    have : a = x ∨ c = x := by
      simp [secondF, pluck, pluckG_nil, pluckG_cons, laid, ins1_nil, ins1_cons, withinG_nil, withinG_cons, isNil_nil, isNil_cons] at h
      first | with_reducible assumption | decide | lia | omega
    rcases this with q | q
    · exact ⟨0, by first | with_reducible assumption | decide | lia | omega, rfl, q⟩
    · exact ⟨2, by first | with_reducible assumption | decide | lia | omega, rfl, q⟩
theorem sh3 (a b c x : Nat) : Sh x (.cons a (lone b) (lone c)) := by
  refine shape_ok (s0 := .cons 0 (lone 1) (lone 2)) (ls := [1, 2]) (a := a) (b := b) (c := c) rfl rfl rfl rfl ?_ ?_ ?_ ?_ ?_ ?_ (rel_same rfl) ?_
  · intro j hj
    have : j = 1 ∨ j = 2 := by simpa using hj
    rcases this with rfl | rfl <;> rfl
  · decide +kernel
  · decide +kernel
  · decide +kernel
  · decide +kernel
  · decide +kernel
  · intro h
    have : b = x ∨ c = x := by
      simp [secondF, pluck, pluckG_nil, pluckG_cons, laid, ins1_nil, ins1_cons, withinG_nil, withinG_cons, isNil_nil, isNil_cons] at h
      first | with_reducible assumption | decide | lia | omega
    rcases this with q | q
    · exact ⟨1, by first | with_reducible assumption | decide | lia | omega, rfl, q⟩
    · exact ⟨2, by first | with_reducible assumption | decide | lia | omega, rfl, q⟩
theorem sh4 (a b c x : Nat) : Sh x (.cons a (.cons b .nil (lone c)) .nil) := by
  refine shape_ok (s0 := .cons 0 (.cons 1 .nil (lone 2)) .nil) (ls := [1, 2]) (a := a) (b := b) (c := c) rfl rfl rfl rfl ?_ ?_ ?_ ?_ ?_ ?_ (rel_same rfl) ?_
  · intro j hj
    have : j = 1 ∨ j = 2 := by simpa using hj
    rcases this with rfl | rfl <;> rfl
  · decide +kernel
  · decide +kernel
  · decide +kernel
  · decide +kernel
  · decide +kernel
  · intro h
    have : b = x ∨ c = x := by
      simp [secondF, pluck, pluckG_nil, pluckG_cons, laid, ins1_nil, ins1_cons, withinG_nil, withinG_cons, isNil_nil, isNil_cons] at h
      first | with_reducible assumption | decide | lia | omega
    rcases this with q | q
    · exact ⟨1, by first | with_reducible assumption | decide | lia | omega, rfl, q⟩
    · exact ⟨2, by first | with_reducible assumption | decide | lia | omega, rfl, q⟩
theorem sh5 (a b c x : Nat) : Sh x (.cons a (.cons b (lone c) .nil) .nil) := by
  refine shape_ok (s0 := .cons 0 (.cons 1 (lone 2) .nil) .nil) (ls := [2]) (a := a) (b := b) (c := c) rfl rfl rfl rfl ?_ ?_ ?_ ?_ ?_ ?_ (rel_same rfl) ?_
  · intro j hj
    have : j = 2 := by simpa using hj
    subst this; rfl
  · decide +kernel
  · decide +kernel
  · decide +kernel
  · decide +kernel
  · decide +kernel
  · intro h
    have : c = x := by
      simp [secondF, pluck, pluckG_nil, pluckG_cons, laid, ins1_nil, ins1_cons, withinG_nil, withinG_cons, isNil_nil, isNil_cons] at h
      first | with_reducible assumption | decide | lia | omega
    exact ⟨2, by first | with_reducible assumption | decide | lia | omega, rfl, this⟩
theorem shape_law {f : Fo Nat} (h : f.nodes = 3) (x : Nat) : Sh x f := by
  obtain ⟨a, b, c, rfl | rfl | rfl | rfl | rfl⟩ := fo3 h
  · exact sh1 a b c x
  · exact sh2 a b c x
  · exact sh3 a b c x
  · exact sh4 a b c x
  · exact sh5 a b c x
end Mine
end
section
open PySem PySem.W PyProof.Rows PySem.Calls
set_option autoImplicit false
set_option maxRecDepth 100000
namespace Mine
theorem second_mem {f : Fo Nat} {x : Nat} (h3 : f.nodes = 3) (h : f.all okL = true) (hx : okL x = true) : ∀ u ∈ secondF x f, u.nodes = 3 ∧ u.all okL = true ∧ u ≠ .nil := by
  intro u hu
  obtain ⟨l, hl, hul⟩ := List.mem_flatten.mp hu
  obtain ⟨p, hp, rfl⟩ := List.mem_map.mp hl
  obtain ⟨p1, p2⟩ := pluck_mem (p := okL) f.nodes (Nat.le_refl _) hp
  obtain ⟨u1, u2, u3⟩ := laid_mem (p := okL) p.nodes (Nat.le_refl _) hul
  exact ⟨by first | with_reducible assumption | decide | lia | omega, u2 hx (p2 h), u3⟩
theorem perm_texts {f : Fo Nat} {x : Nat} (H : Sh x f) : ((firstF x f).map R).Perm ((secondF x f).map R ++ dueK x f 3) := by
  have := H.perm.map R
  rw [List.map_append, List.map_append, List.map_replicate, List.map_map] at this
  exact this
theorem uld_law {f : Fo Nat} {x : Nat} (H : Sh x f) : UldOk x f :=
  let ⟨h1, h2⟩ := uld_ok (perm_texts H)
  ⟨h1, h2⟩
theorem once_nil {f : Fo Nat} {x : Nat} (H : Sh x f) : (onceK x f 3 = [] ∧ R f ∈ (secondF x f).map R) ∨ (onceK x f 3 = [R f] ∧ R f ∉ (secondF x f).map R) := by
  unfold onceK
  by_cases q : (List.range 3).any (fun j => leafR (rowsOf 0 f) j && (((rowsOf 0 f).getD j (0, 0)).2 == x)) = true
  · rw [if_pos q]
    refine .inl ⟨rfl, ?_⟩
    obtain ⟨j, hj, hq⟩ := List.any_eq_true.mp q
    obtain ⟨q1, q2⟩ := Bool.and_eq_true_iff.mp hq
    have hj3 := List.mem_range.mp hj
    have := H.ren j (List.mem_filter.mpr ⟨hj, q1⟩)
    rw [H.same j hj3 (beq_iff_eq.mp q2)] at this
    exact List.mem_map_of_mem this
  · rw [if_neg q]
    refine .inr ⟨rfl, fun hm => q ?_⟩
    obtain ⟨g, hg, e⟩ := List.mem_map.mp hm
    rw [R_inj e] at hg
    obtain ⟨j, h1, h2, h3⟩ := H.back hg
    exact List.any_eq_true.mpr ⟨j, List.mem_range.mpr h1, by rw [h2, Bool.true_and]; exact beq_iff_eq.mpr h3⟩
theorem sld_law {f : Fo Nat} {x : Nat} (H : Sh x f) (h3 : f.nodes = 3) (h : f.all okL = true) (hx : okL x = true) : SldOk x f := by
  intro X Y hX hY
  have hp := perm_texts H
  have hB : R f ∈ dueK x f 3 := List.mem_append_left _ (by simp)
  have hD : ∀ z ∈ dueK x f 3, z = R f ∨ z ∈ (secondF x f).map R := by
    intro z hz
    rcases List.mem_append.mp hz with hz | hz
    · exact .inl (List.eq_of_mem_replicate hz)
    · obtain ⟨j, hj, rfl⟩ := List.mem_map.mp hz
      exact .inr (List.mem_map_of_mem (H.ren j hj))
  have inX : ∀ z, z ∈ X ↔ z ∈ (secondF x f).map R ∨ z ∈ dueK x f 3 := fun z => by rw [hX.1.mem_iff, hp.mem_iff, List.mem_append]
  have inY : ∀ z, z ∈ Y ↔ z ∈ (secondF x f).map R := fun z => hY.1.mem_iff
  have low : ∀ w : Fo Nat, w.all okL = true → w ≠ .nil → R w < [1114111] := by
    intro w hw hn
    obtain ⟨c, r, e, hc⟩ := R_head hw hn
    have hlt : c < 1114111 := okL_all (P := fun c => c < 1114111) (by decide) hc
    rw [e]
    exact List.Lex.rel hlt
  have hfn : f ≠ .nil := by intro e; rw [e] at h3; cases h3
  have hZ : ∀ z ∈ X, z < [1114111] := by
    intro z hz
    have hsec : ∀ z ∈ (secondF x f).map R, z < [1114111] := by
      intro z hz
      obtain ⟨u, hu, rfl⟩ := List.mem_map.mp hz
      obtain ⟨_, u2, u3⟩ := second_mem h3 h hx u hu
      exact low u u2 u3
    rcases (inX z).mp hz with q | q
    · exact hsec z q
    · rcases hD z q with rfl | q
      · exact low f h hfn
      · exact hsec z q
  have hXne : X ≠ [] := fun e => by
    have := (inX (R f)).mpr (.inr hB)
    rw [e] at this; cases this
  rcases once_nil H with ⟨e, hm⟩ | ⟨e, hm⟩
  · rw [e]
    refine sld_gen X.length X Y [] (Nat.le_refl _) hXne hX.2 hY.2 .nil (fun z => ?_) (fun z _ hz => by cases hz) hZ
    rw [inX, inY]
    constructor
    · rintro (q | q)
      · exact .inl q
      · rcases hD z q with rfl | q
        · exact .inl hm
        · exact .inl q
    · rintro (q | q)
      · exact .inl q
      · cases q
  · rw [e]
    refine sld_gen X.length X Y [R f] (Nat.le_refl _) hXne hX.2 hY.2 (List.pairwise_singleton _ _) (fun z => ?_) (fun z hz q => ?_) hZ
    · rw [inX, inY, List.mem_singleton]
      constructor
      · rintro (q | q)
        · exact .inl q
        · rcases hD z q with rfl | q
          · exact .inr rfl
          · exact .inl q
      · rintro (q | rfl)
        · exact .inl q
        · exact .inr hB
    · rw [List.mem_singleton] at q
      subst q
      exact hm ((inY _).mp hz)
/- headers with commas between are read one by one -/
theorem run_whole : ∀ (us : List (Fo Nat)) (sp : List Nat) (rs : List (List Word)), (sp = [] ∨ sp = [32]) → us ≠ [] → (∀ u ∈ us, u.all okL = true ∧ u ≠ .nil) → Run (sp ++ jn [44, 32] (us.map R)) [] rs (rs ++ us.map words)
  | [], _, _, _, h, _ => absurd rfl h
  | [u], sp, rs, hsp, _, hu => by
    obtain ⟨u1, u2⟩ := hu u (.head _)
    have hw : words u ≠ [] := by cases u with | nil => exact absurd rfl u2 | cons c k r => exact fun e => nomatch e
    have := run_R u sp [] [] rs (rs ++ [words u]) u1 u2 (fun a ha => by rcases hsp with rfl | rfl; cases ha; rw [List.mem_singleton] at ha; subst ha; decide +kernel) (fun a h => nomatch h) (by
      have := Run.nil (ps := [] ++ words u) (rs := rs)
      rw [List.nil_append, if_neg hw] at this
      exact this)
    rw [List.append_nil] at this
    exact this
  | u :: v :: us, sp, rs, hsp, _, hu => by
    obtain ⟨u1, u2⟩ := hu u (.head _)
    have hw : words u ≠ [] := by cases u with | nil => exact absurd rfl u2 | cons c k r => exact fun e => nomatch e
    have ih := run_whole (v :: us) [32] (rs ++ [words u]) (.inr rfl) (by simp) (fun w hw => hu w (.tail _ hw))
    have e : jn [44, 32] ((u :: v :: us).map R) = R u ++ 44 :: ([32] ++ jn [44, 32] ((v :: us).map R)) := by
      show R u ++ [44, 32] ++ jn [44, 32] (R v :: us.map R) = _
      rw [List.append_assoc]; rfl
    rw [e]
    refine run_R u sp _ [] rs _ u1 u2 (fun a ha => by rcases hsp with rfl | rfl; cases ha; rw [List.mem_singleton] at ha; subst ha; decide +kernel) (fun a h => by cases h; rfl) ?_
    rw [List.nil_append]
    have st := Step.comma (sp := []) (rest := [32] ++ jn [44, 32] ((v :: us).map R)) (ps := words u) (rs := rs) (.inl rfl)
    rw [if_neg hw] at st
    refine .cons st ?_
    have e2 : rs ++ (u :: v :: us).map words = rs ++ [words u] ++ (v :: us).map words := by simp
    rw [e2]
    exact ih
theorem wordW_ok {x : Nat} {f : Fo Nat} (hx : okL x = true) (hf : f.all okL = true) : ∀ c ∈ wordW x f, okL c = true := by
  have key : ∀ (f : Fo Nat) (b : Nat), f.all okL = true → ∀ r ∈ rowsOf b f, okL r.2 = true := by
    intro f
    induction f with
    | nil => intro b _ r hr; cases hr
    | cons c k r ih1 ih2 =>
      intro b h y hy
      obtain ⟨h12, hr⟩ := Bool.and_eq_true_iff.mp h
      obtain ⟨hc, hk⟩ := Bool.and_eq_true_iff.mp h12
      rcases List.mem_cons.mp hy with rfl | hy
      · exact hc
      · rcases List.mem_append.mp hy with hy | hy
        · exact ih1 _ hk y hy
        · exact ih2 _ hr y hy
  intro c hc
  rcases List.mem_append.mp hc with hc | hc
  · obtain ⟨r, hr, rfl⟩ := List.mem_map.mp hc
    exact key f 0 hf r hr
  · rw [List.mem_singleton] at hc; subst hc; exact hx
theorem esc_signs : esc signsL = [97, 66, 126, 39, 92, 34, 92, 92, 47, 91] := by decide
theorem four_val : ∀ a ∈ four, fVal a = true := by decide +kernel
theorem four_tok : four.all fJtok = true := by decide +kernel
theorem run_more {x : Nat} {f : Fo Nat} (hx : okL x = true) (hf : f.all okL = true) (rs : List (List Word)) : Run ([44, 32, 44] ++ moreT x f ++ [44]) [] rs (rs ++ [moreW x f]) := by
  have hW := wordW_ok hx hf
  have hWn : wordW x f ≠ [] := by unfold wordW; simp
  obtain ⟨w0, W', hw0⟩ : ∃ w0 W', wordW x f = w0 :: W' := by
    cases q : wordW x f with
    | nil => exact absurd q hWn
    | cons a l => exact ⟨a, l, rfl⟩
  have tW : ∀ a ∈ wordW x f, fTok a = true := fun a ha => (okL_tok (hW a ha)).1
  have sW : ∀ a ∈ wordW x f, fSp a = false := fun a ha => (okL_tok (hW a ha)).2.1
  have tx : ∀ a ∈ [x], fTok a = true := fun a ha => by rw [List.mem_singleton] at ha; subst ha; exact (okL_tok hx).1
  have sx : ∀ a ∈ [x], fSp a = false := fun a ha => by rw [List.mem_singleton] at ha; subst ha; exact (okL_tok hx).2.1
  have nosp : ∀ a ∈ ([] : List Nat), fSp a = true := fun a ha => by cases ha
  have jj : ∀ a ∈ ([32] : List Nat), fTwin a = true := fun a ha => by rw [List.mem_singleton] at ha; subst ha; decide +kernel
  have h61 : ∀ (r : List Nat) a, (61 :: r).head? = some a → fTok a = false := fun r a ha => by cases ha; exact f61
  have hd0 : okL w0 = true := hW w0 (by rw [hw0]; exact .head _)
  have twW : ∀ (t : List Nat) a, (wordW x f ++ t).head? = some a → fTwin a = false := fun t a ha => by
    rw [hw0] at ha; cases ha; exact (okL_tok hd0).2.2
  have twx : ∀ (t : List Nat) a, ([x] ++ t).head? = some a → fTwin a = false := fun t a ha => by cases ha; exact (okL_tok hx).2.2
  have e : [44, 32, 44] ++ moreT x f ++ [44] = [] ++ 44 :: ([32] ++ 44 :: ([] ++ (wordW x f ++ (61 :: 34 :: (esc [] ++ 34 :: (59 :: [32] ++ ([] ++ ([x] ++ (61 :: 34 :: (esc signsL ++ 34 :: (59 :: [32] ++ ([] ++ (wordW x f ++ (61 :: (four ++ (59 :: [32] ++ ([] ++ ([x] ++ [44])))))))))))))))))) := by
    rw [esc_signs]
    simp [moreT, esc, four]
  rw [e]
  refine .cons (Step.comma (sp := []) (.inl rfl)) ?_
  rw [if_pos rfl]
  refine .cons (Step.comma (sp := [32]) (.inr rfl)) ?_
  rw [if_pos rfl]
  refine .cons (Step.word nosp hWn tW sW (h61 _) (Val.quo (v := []))) ?_
  refine .cons (Step.junk (j := [32]) jj (twx _)) ?_
  refine .cons (Step.word nosp (by simp) tx sx (h61 _) (Val.quo (v := signsL))) ?_
  refine .cons (Step.junk (j := [32]) jj (twW _)) ?_
  refine .cons (Step.word nosp hWn tW sW (h61 _) (Val.plain (v := four) (by decide) (by decide) four_val (fun a ha => by cases ha; exact f59.2.1))) ?_
  refine .cons (Step.junk (j := [32]) jj (twx _)) ?_
  refine .cons (Step.word nosp (by simp) tx sx (fun a ha => by cases ha; exact f44.1) (Val.none (rest := [44]) (fun a ha => by cases ha; exact ⟨by decide, f44.2.2⟩))) ?_
  refine .cons (Step.comma (sp := []) (rest := []) (.inl rfl)) ?_
  rw [if_neg (by simp)]
  have := Run.nil (ps := []) (rs := rs ++ [moreW x f])
  rw [if_pos rfl] at this
  exact this
end Mine
end
section
open PySem PySem.W PyProof.Rows PySem.Calls
set_option autoImplicit false
set_option maxRecDepth 100000
namespace Mine
theorem jn_cat (sep : List Nat) : ∀ (a : List (List Nat)) (b : List (List Nat)), a ≠ [] → b ≠ [] → jn sep (a ++ b) = jn sep a ++ sep ++ jn sep b
  | [], _, h, _ => absurd rfl h
  | [x], b, _, hb => by
    cases b with
    | nil => exact absurd rfl hb
    | cons y b => rfl
  | x :: y :: a, b, _, hb => by
    have ih := jn_cat sep (y :: a) b (by simp) hb
    show x ++ sep ++ jn sep (y :: a ++ b) = x ++ sep ++ jn sep (y :: a) ++ sep ++ jn sep b
    rw [ih]
    simp [List.append_assoc]
theorem hdr_more (x : Nat) (f : Fo Nat) : hdrT (moreW x f) = moreT x f := by
  have v1 : valT [] = [34, 34] := rfl
  have v2 : valT signsL = 34 :: (esc signsL ++ [34]) := if_neg (fun h => by revert h; decide +kernel)
  have v3 : valT four = four := if_pos ⟨by decide, four_tok⟩
  show wordT (wordW x f, some []) ++ [59, 32] ++ (wordT ([x], some signsL) ++ [59, 32] ++ (wordT (wordW x f, some four) ++ [59, 32] ++ wordT ([x], none))) = _
  simp only [wordT]
  rw [v1, v2, v3, esc_signs]
  simp [moreT, four]
theorem joinT_lists {x : Nat} {f : Fo Nat} (hm : ∀ u ∈ secondF x f, u ≠ .nil) (hn : secondF x f ≠ []) (hf : f ≠ .nil) : joinT ([[]] ++ listsT x f ++ [[]]) = jn [44, 32] [wholeT x f, moreT x f, R f] := by
  have ne : ∀ u : Fo Nat, u ≠ .nil → words u ≠ [] := fun u hu => by cases u with | nil => exact absurd rfl hu | cons c k r => exact fun e => nomatch e
  have e1 : ([[]] ++ listsT x f ++ [[]]).filter (· ≠ []) = listsT x f := by
    have : (listsT x f).filter (· ≠ []) = listsT x f := by
      refine List.filter_eq_self.mpr fun ws hws => ?_
      rcases List.mem_append.mp hws with q | q
      · obtain ⟨u, hu, rfl⟩ := List.mem_map.mp q
        exact decide_eq_true (ne u (hm u hu))
      · rcases List.mem_cons.mp q with rfl | q
        · exact decide_eq_true (by simp [moreW])
        · rw [List.mem_singleton] at q; subst q; exact decide_eq_true (ne f hf)
    rw [List.filter_append, List.filter_append, this]
    simp
  unfold joinT
  rw [e1, listsT, List.map_append, List.map_map]
  have e2 : (secondF x f).map (hdrT ∘ words) = (secondF x f).map R := List.map_congr_left fun u _ => R_words u
  rw [e2, List.map_cons, List.map_cons, List.map_nil, hdr_more, R_words, jn_cat _ _ _ (by simpa using hn) (by simp)]
  show _ = wholeT x f ++ [44, 32] ++ (moreT x f ++ [44, 32] ++ R f)
  rfl
theorem text_law {f : Fo Nat} {x : Nat} (H : Sh x f) (h3 : f.nodes = 3) (h : f.all okL = true) (hx : okL x = true) : TextOk x f := by
  have hm := second_mem h3 h hx
  have hfn : f ≠ .nil := by intro e; rw [e] at h3; cases h3
  have hsm : ∀ t ∈ (secondF x f).map R, t.length ≤ 378 := by
    intro t ht
    obtain ⟨u, hu, rfl⟩ := List.mem_map.mp ht
    exact R_small (by have := (hm u hu).1; first | with_reducible assumption | decide | lia | omega)
  have hWl : (wordW x f).length = 4 := by rw [wordW, List.length_append, List.length_map, rowsOf_len, h3]; rfl
  have f2 := H.few2
  refine ⟨?_, joinT_lists (fun u hu => (hm u hu).2.2) H.ne hfn, ⟨?_, ?_⟩, ?_, ?_, ?_⟩
  · have r1 := run_whole (secondF x f) [] [] (.inl rfl) H.ne (fun u hu => (hm u hu).2)
    have r2 := run_more hx h ([] ++ (secondF x f).map words)
    have r3 := Run.nil (ps := []) (rs := [] ++ (secondF x f).map words ++ [moreW x f])
    rw [if_pos rfl] at r3
    have r4 := run_R f [] [] [] ([] ++ (secondF x f).map words ++ [moreW x f]) ([] ++ (secondF x f).map words ++ [moreW x f] ++ [words f]) h hfn (fun _ h => nomatch h) (fun a h => nomatch h) (by
      have hw : words f ≠ [] := by cases f with | nil => exact absurd rfl hfn | cons c k r => exact fun e => nomatch e
      have := Run.nil (ps := [] ++ words f) (rs := [] ++ (secondF x f).map words ++ [moreW x f])
      rw [List.nil_append, if_neg hw] at this
      exact this)
    rw [List.nil_append, List.append_nil] at r4
    have e : listsT x f = [] ++ (secondF x f).map words ++ [moreW x f] ++ [words f] := by simp [listsT]
    rw [e]
    exact .cons r1 (.cons r2 (.cons r3 (.cons r4 .nil)))
  · simp only [listsT, List.length_append, List.length_map, List.length_cons, List.length_nil]
    first | with_reducible assumption | decide | lia | omega
  · have small : ∀ u : Fo Nat, u.nodes = 3 → (words u).length ≤ 2 ^ 4 ∧ ∀ p ∈ words u, p.1.length ≤ 2 ^ 10 ∧ ∀ v, p.2 = some v → v.length ≤ 2 ^ 10 := fun u hu =>
      ⟨by rw [words_len]; have := len_nodes u; first | with_reducible assumption | decide | lia | omega, words_small (by first | with_reducible assumption | decide | lia | omega)⟩
    have emp : ([] : List Word).length ≤ 2 ^ 4 ∧ ∀ p ∈ ([] : List Word), p.1.length ≤ 2 ^ 10 ∧ ∀ v, p.2 = some v → v.length ≤ 2 ^ 10 := ⟨by decide, fun p hp => nomatch hp⟩
    intro ws hws
    rcases List.mem_append.mp hws with hws | hws
    · rcases List.mem_append.mp hws with hws | hws
      · rw [List.mem_singleton] at hws; subst hws; exact emp
      · rcases List.mem_append.mp hws with hws | hws
        · obtain ⟨u, hu, rfl⟩ := List.mem_map.mp hws
          exact small u (hm u hu).1
        · rcases List.mem_cons.mp hws with rfl | hws
          · refine ⟨by show 4 ≤ _; decide, ?_⟩
            intro p hp
            simp only [moreW, List.mem_cons, List.not_mem_nil, or_false] at hp
            rcases hp with rfl | rfl | rfl | rfl
            · exact ⟨by rw [hWl]; decide, fun v hv => by cases hv; decide⟩
            · exact ⟨by show 1 ≤ _; decide, fun v hv => by cases hv; decide⟩
            · exact ⟨by rw [hWl]; decide, fun v hv => by cases hv; decide⟩
            · exact ⟨by show 1 ≤ _; decide, fun v hv => by cases hv⟩
          · rw [List.mem_singleton] at hws; subst hws; exact small f h3
    · rw [List.mem_singleton] at hws; subst hws; exact emp
  · have := jn_len [44, 32] 378 _ hsm
    rw [List.length_map] at this
    unfold wholeT
    refine Nat.le_trans this (Nat.le_trans (Nat.mul_le_mul_right _ f2) (by decide))
  · have := sum_len 378 _ hsm
    rw [List.length_map, List.map_map] at this
    exact Nat.le_trans this (Nat.le_trans (Nat.mul_le_mul_right _ f2) (by decide))
  · have := R_small (f := f) (by first | with_reducible assumption | decide | lia | omega)
    first | with_reducible assumption | decide | lia | omega
theorem plain_law (f : Fo Nat) (x : Nat) (h3 : f.nodes = 3) (h : f.all okL = true) (hx : okL x = true) : Plain x f :=
  have H := shape_law h3 x
  ⟨sld_law H h3 h hx, text_law H h3 h hx, uld_law H, H.few1, H.few2⟩
end Mine
end
section
open PySem PySem.W PyProof.Rows PySem.Calls
set_option maxRecDepth 100000
set_option maxHeartbeats 8000000 in
theorem PySem.Challenge.cw_tv0037_01_holds : PySem.Challenge.rw_tv0037_01.Holds := by
  refine Mine.hd ?_
  k_go0
  rename_i w s0 s1 mg mb G Y fa o pm cd doc ho hcd hg X V T B TE TW ns hs hlay0 hL1 hr1 hl2 as1 as2 sl vs as3 hL ra w1 r0 hI hr hlen hc2 hD h1 tk1 oc right X0 X' T' K' F' c1 N' lt
  have S := Mine.start_sf (w := w) X' T' (by assumption) (by assumption) F' N' ⟨Nat.ne_of_gt (Nat.lt_succ_of_lt lt.1), Nat.ne_of_gt (Nat.lt_succ_of_lt lt.2)⟩ ⟨Nat.ne_of_gt lt.1, Nat.ne_of_gt lt.2⟩
  clear F' X0 T B TE TW T'
  obtain ⟨osl, e1, e2, nn, e3⟩ : (ghostOf s1.heap [(100, 96), (83, 79)]).IsList sl vs.toArray := by assumption
  refine Mine.figs (sl := sl) ((Mine.law_cx _).mono) S (by exact right) e1 e2 e3 hI.allInts ?z ?H ?hsw ?hclos
  case H =>
    intro F2 h2 tk2 D f0 f1 f2 t0 t1 t2 n le2 S2 hD2
    refine Mine.law_walk Mine.plain_law (A := callerA.deeper _) (by rfl) ((Mine.law_cx _).mono) S2 hD2 (by exact rfl) fun F3 h3 tk3 M3 V3 le3 S3 => ?_
    exact ⟨⟨.inl ⟨.bool true, .bool true, [], rfl, fun _ => by rfl, .bool true, postW_of (by wrow_shape) (by wtm_val) (by str_meet; first | done | w_fin), fun _ => ⟨List.nodup_nil, fun a ha => by cases ha⟩⟩, fun b o e => S3.f (le3 _ _ (le2 _ _ e)), rfl, hg⟩, Mine.end_tabs S3.st⟩
  case hsw => exact rfl
  case hclos => exact rfl
  case z =>
    have := hI.length
    rw [List.size_toArray]
    omega
end
