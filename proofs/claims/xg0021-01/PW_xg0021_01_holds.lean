import PyProof.Rows.All
import Wide.All
import OpenK.AllK
import Wide.FinOn
import Lean
import PySem.Challenge.RW_xg0021_01

set_option Elab.async false

section
set_option maxRecDepth 100000
set_option Elab.async false
set_option linter.unusedVariables false
set_option autoImplicit false
namespace Mine
open PySem PySem.Calls PySem.W

/-! ## a wp over heaps alone -/
section
variable {α β : Type} {prog : Program} {w : World} {A : Around}

/-- only the heap and the tokens have moved -/
inductive Post (P : α → Heap → Prop) (gs : Array GenState) (dr : Drawn) (os : OsState) (a : α) (s' : Shared) : Prop
  | mk (h' : Heap) (tk' : Nat) (e : s' = ⟨h', gs, dr, tk', os⟩) (p : P a h')
noncomputable def WP (prog : Program) (w : World) (A : Around) (t : Sem α) (h : Heap) (P : α → Heap → Prop) : Prop :=
  ∀ gs dr tk os, wpAny (model prog w) A t (Post P gs dr os) (fun _ _ => False) ⟨h, gs, dr, tk, os⟩
theorem run {t : Sem α} {P : α → Heap → Prop} {gs : Array GenState} {dr : Drawn} {os : OsState} {s : Shared} {Q : α → Shared → Prop} {E : Value → Shared → Prop} (x : wpAny (model prog w) A t (Post P gs dr os) (fun _ _ => False) s)
    (c : ∀ a h' tk', P a h' → Q a ⟨h', gs, dr, tk', os⟩) (_d : ∀ e s', False → E e s') : wpAny (model prog w) A t Q E s :=
  wpAny_mono x (fun a s' z => by obtain ⟨h', tk', e, p⟩ := z; subst e; exact c a h' tk' p) fun _ _ e => e.elim

theorem WP.pure {a : α} {h : Heap} {P : α → Heap → Prop} (q : P a h) : WP prog w A (pure a) h P :=
  fun _ _ tk _ => wpAny_pure ⟨h, tk, rfl, q⟩
theorem WP.mono {t : Sem α} {h : Heap} {P Q : α → Heap → Prop} (x : WP prog w A t h P) (q : ∀ a h', P a h' → Q a h') : WP prog w A t h Q :=
  fun gs dr tk os => run (x gs dr tk os) (fun _ h' tk' p => ⟨h', tk', rfl, q _ _ p⟩) fun _ _ e => e
theorem WP.bind {m : Sem α} {f : α → Sem β} {h : Heap} {P : β → Heap → Prop} (x : WP prog w A m h (fun a h' => WP prog w A (f a) h' P)) : WP prog w A (m >>= f) h P :=
  fun gs dr tk os => wpAny_bind (run (x gs dr tk os) (fun a h' tk' p => p gs dr tk' os) fun _ _ e => e)
/-- out of the library's rules: the tree's wp for every Q, E -/
theorem WP.of {t : Sem α} {h : Heap} {P : α → Heap → Prop}
    (x : ∀ (Q : α → Shared → Prop) (E : Value → Shared → Prop) gs dr tk os, (∀ a h' tk', P a h' → Q a ⟨h', gs, dr, tk', os⟩) → wpAny (model prog w) A t Q E ⟨h, gs, dr, tk, os⟩) : WP prog w A t h P :=
  fun gs dr tk os => x _ _ gs dr tk os fun a h' tk' p => ⟨h', tk', rfl, p⟩
/-- into a goal of the library's -/
theorem WP.to {t : Sem α} {s : Shared} {P : α → Heap → Prop} {Q : α → Shared → Prop} {E : Value → Shared → Prop} (x : WP prog w A t s.heap P)
    (q : ∀ a h' tk', P a h' → Q a { s with heap := h', toks := tk' }) : wpAny (model prog w) A t Q E s := by
  obtain ⟨h, gs, dr, tk, os⟩ := s
  exact run (x gs dr tk os) (fun a h' tk' p => q a h' tk' p) fun _ _ e => e.elim

noncomputable def WPC (prog : Program) (w : World) (A : Around) (c : Code) (h : Heap) (P : Flow → Heap → Prop) : Prop :=
  ∀ gs dr tk os, codeAny (model prog w) A c (fun r s' => match r with | .ok v => Post P gs dr os v s' | .error _ => False) ⟨h, gs, dr, tk, os⟩
theorem WPC.mono {c : Code} {h : Heap} {P Q : Flow → Heap → Prop} (x : WPC prog w A c h P) (q : ∀ a h', P a h' → Q a h') : WPC prog w A c h Q :=
  fun gs dr tk os => codeAny_mono (x gs dr tk os) fun r s' y => by
    cases r with
    | error e => exact y
    | ok v => obtain ⟨h', tk', e, p⟩ := y; exact ⟨h', tk', e, q _ _ p⟩
noncomputable def RetP (P : Value → Heap → Prop) (f : Flow) (h : Heap) : Prop := match f with
  | .ret v => P v h
  | _ => False
theorem WP.call {f : Value} {args : List Value} {h : Heap} {P : Value → Heap → Prop} (x : WPC prog w A (.call f ⟨args, []⟩) h (RetP P)) : WP prog w A (call f args []) h P :=
  fun gs dr tk os => wpAny_call (codeAny_mono (x gs dr tk os) fun r s' y => by
    cases r with
    | error e => exact y
    | ok v =>
      obtain ⟨h', tk', e, p⟩ := y
      cases v with
      | ret v => exact ⟨h', tk', e, p⟩
      | _ => exact p.elim)
end

/-! ## what is known of the heap -/
noncomputable abbrev Know := Addr → Option Obj
noncomputable def Know.or (a b : Know) : Know := fun x => match a x with
  | some o => some o
  | none => b x
noncomputable def Know.le (a b : Know) : Prop := ∀ x o, a x = some o → b x = some o
noncomputable def Know.ins (k : Know) (a : Addr) (o : Obj) : Know := fun x => if x = a then some o else k x
noncomputable def Know.nil : Know := fun _ => none
noncomputable def Sub (k : Know) (h : Heap) : Prop := ∀ a o, k a = some o → h.get? a = some o
noncomputable def KeepsH (h h' : Heap) : Prop := ∀ a o, h.get? a = some o → h'.get? a = some o
/-- what h' has beyond h -/
noncomputable def fresh (h h' : Heap) : Know := fun a => match h.get? a with
  | some _ => none
  | none => h'.get? a
theorem KeepsH.refl (h : Heap) : KeepsH h h := fun _ _ e => e
theorem KeepsH.trans {a b c : Heap} (x : KeepsH a b) (y : KeepsH b c) : KeepsH a c := fun _ _ e => y _ _ (x _ _ e)
theorem Know.le.refl (a : Know) : Know.le a a := fun _ _ e => e
theorem Know.le.trans {a b c : Know} (x : Know.le a b) (y : Know.le b c) : Know.le a c := fun _ _ e => y _ _ (x _ _ e)
theorem fresh_sub (h h' : Heap) : Sub (fresh h h') h' := fun a o e => by
  unfold fresh at e
  split at e
  · cases e
  · exact e
theorem fresh_none {h h' : Heap} {a : Addr} {o : Obj} (e : h.get? a = some o) : fresh h h' a = none := by
  unfold fresh; rw [e]

inductive Res where
  | obj (o : Obj)
  | lst (vs : List Value)
  | dct (kvs : List (Int × Value))
  | cell (v : Option Value)
noncomputable def DictO (prog : Program) (w : World) (kvs : List (Int × Value)) (o : Obj) : Prop :=
  ∃ es ep, o.ExactDict ∧ o.data = .dict es ep ∧ KeysOf (intKind prog w) es ∧ Pairs (intKind prog w) es.toList kvs ∧ (kvs.map (·.1)).Nodup
noncomputable def Res.is (prog : Program) (w : World) : Res → Obj → Prop
  | .obj o', o => o = o'
  | .lst vs, o => ∃ n, o = { cls := .type "list", data := .seq vs.toArray n }
  | .dct kvs, o => DictO prog w kvs o
  | .cell v, o => o.data = .cell v

noncomputable abbrev Loc := Str → Option Value
noncomputable def upd (m : Loc) (x : Str) (v : Value) : Loc := fun y => if y = x then some v else m y
theorem upd_self {m : Loc} {x : Str} {v : Value} : upd m x v x = some v := by simp [upd]
theorem upd_ne {m : Loc} {x y : Str} {v r : Value} (h : (y == x) = false) (e : m y = some r) : upd m x v y = some r := by
  unfold upd; rw [if_neg (by simpa using h)]; exact e

structure Sat (prog : Program) (w : World) (κ fr : Know) (L : Addr) (m : Loc) (own : List (Addr × Res)) (h : Heap) : Prop where
  base : Sub κ h
  frz : ∀ a o, fr a = some o → h.get? a = some o ∧ κ a = none
  ns : h.Ns L m
  kL : κ L = none ∧ fr L = none
  hown : ∀ p ∈ own, (∃ o, h.get? p.1 = some o ∧ p.2.is prog w o) ∧ κ p.1 = none ∧ fr p.1 = none ∧ p.1 ≠ L
  nd : (own.map (·.1)).Nodup

section
variable {prog : Program} {w : World} {κ fr : Know} {L : Addr} {m : Loc} {own own' : List (Addr × Res)} {h h' : Heap}
theorem Sat.fsub (S : Sat prog w κ fr L m own h) : Sub fr h := fun a o e => (S.frz a o e).1
theorem Sat.lt (S : Sat prog w κ fr L m own h) : L < h.objs.size := S.ns.lt
theorem Sat.at (S : Sat prog w κ fr L m own h) {a : Addr} {r : Res} (hm : (a, r) ∈ own) : ∃ o, h.get? a = some o ∧ r.is prog w o := (S.hown _ hm).1
/-- the heap grows, nothing old changes -/
theorem Sat.keeps (S : Sat prog w κ fr L m own h) (k : KeepsH h h') : Sat prog w κ fr L m own h' where
  base := fun a o e => k _ _ (S.base a o e)
  frz := fun a o e => ⟨k _ _ (S.frz a o e).1, (S.frz a o e).2⟩
  ns := S.ns.keeps k
  kL := S.kL
  hown := fun p hp => let ⟨⟨o, e, r⟩, x⟩ := S.hown p hp; ⟨⟨o, k _ _ e, r⟩, x⟩
  nd := S.nd
theorem Sat.none_of (S : Sat prog w κ fr L m own h) {a : Addr} (e : h.get? a = none) : κ a = none ∧ fr a = none := by
  constructor
  · cases q : κ a with
    | none => rfl
    | some o => rw [S.base _ _ q] at e; cases e
  · cases q : fr a with
    | none => rfl
    | some o => rw [(S.frz _ _ q).1] at e; cases e
theorem get?_size (h : Heap) : h.get? h.objs.size = none := by
  cases q : h.get? h.objs.size with
  | none => rfl
  | some o => exact absurd (Heap.lt_size q) (Nat.lt_irrefl _)
theorem keeps_push (h : Heap) (o : Obj) : KeepsH h (h.push o) := fun _ _ e => Heap.get?_push_of_some _ e
theorem Sat.push (S : Sat prog w κ fr L m own h) {o : Obj} (r : Res) (hr : r.is prog w o) (hf : o.isFreed = false) : Sat prog w κ fr L m ((h.objs.size, r) :: own) (h.push o) := by
  have S' := S.keeps (keeps_push h o)
  have hn := get?_size h
  refine ⟨S'.base, S'.frz, S'.ns, S'.kL, ?_, ?_⟩
  · intro p hp
    rcases List.mem_cons.mp hp with rfl | hp
    · exact ⟨⟨o, Heap.get?_push_size _ hf, hr⟩, (S.none_of hn).1, (S.none_of hn).2, Nat.ne_of_gt S.lt⟩
    · exact S'.hown p hp
  · rw [List.map_cons, List.nodup_cons]
    refine ⟨fun hm => ?_, S.nd⟩
    obtain ⟨q, hq, e⟩ := List.mem_map.mp hm
    obtain ⟨⟨o', g, _⟩, _⟩ := S.hown q hq
    rw [e, hn] at g; cases g
/-- a new object that is handed to nobody's care -/
theorem Sat.fpush (S : Sat prog w κ fr L m own h) {o : Obj} (hf : o.isFreed = false) : Sat prog w κ (fr.ins h.objs.size o) L m own (h.push o) := by
  have S' := S.keeps (keeps_push h o)
  have hn := get?_size h
  refine ⟨S'.base, ?_, S'.ns, ⟨S'.kL.1, ?_⟩, ?_, S.nd⟩
  · intro a o' e
    unfold Know.ins at e
    split at e
    · rename_i q; subst q; cases e; exact ⟨Heap.get?_push_size _ hf, (S.none_of hn).1⟩
    · exact S'.frz a o' e
  · unfold Know.ins; rw [if_neg (Nat.ne_of_lt S.lt)]; exact S.kL.2
  · intro p hp
    obtain ⟨x, y, z, u⟩ := S'.hown p hp
    refine ⟨x, y, ?_, u⟩
    unfold Know.ins
    rw [if_neg]
    · exact z
    · obtain ⟨⟨o', g, _⟩, _⟩ := S.hown p hp
      exact Nat.ne_of_lt (Heap.lt_size g)
theorem Sat.store (S : Sat prog w κ fr L m own h) {m' : Loc} (hn : h'.Ns L m') (hs : Heap.SameBut L h h') : Sat prog w κ fr L m' own h' where
  base := fun a o e => (hs.2 a (by rintro rfl; rw [S.kL.1] at e; cases e)).trans (S.base a o e)
  frz := fun a o e => ⟨(hs.2 a (by rintro rfl; rw [S.kL.2] at e; cases e)).trans (S.frz a o e).1, (S.frz a o e).2⟩
  ns := hn
  kL := S.kL
  hown := fun p hp => let ⟨⟨o, e, r⟩, x⟩ := S.hown p hp; ⟨⟨o, (hs.2 _ x.2.2).trans e, r⟩, x⟩
  nd := S.nd

inductive OwnUpd (a : Addr) (r r' : Res) : List (Addr × Res) → List (Addr × Res) → Prop
  | head {l} : OwnUpd a r r' ((a, r) :: l) ((a, r') :: l)
  | tail {p l l'} : OwnUpd a r r' l l' → OwnUpd a r r' (p :: l) (p :: l')
theorem OwnUpd.mem {a : Addr} {r r' : Res} : ∀ {l l' : List (Addr × Res)}, OwnUpd a r r' l l' → (a, r) ∈ l
  | _, _, .head => .head _
  | _, _, .tail x => .tail _ x.mem
theorem OwnUpd.map {a : Addr} {r r' : Res} : ∀ {l l' : List (Addr × Res)}, OwnUpd a r r' l l' → l'.map (·.1) = l.map (·.1)
  | _, _, .head => rfl
  | _, _, .tail x => by rw [List.map_cons, List.map_cons, x.map]
theorem OwnUpd.of {a : Addr} {r r' : Res} : ∀ {l l' : List (Addr × Res)}, OwnUpd a r r' l l' → (l.map (·.1)).Nodup → ∀ p ∈ l', p = (a, r') ∨ (p ∈ l ∧ p.1 ≠ a)
  | _, _, .head, nd, p, hp => by
    rcases List.mem_cons.mp hp with rfl | hp
    · exact .inl rfl
    · rw [List.map_cons, List.nodup_cons] at nd
      exact .inr ⟨.tail _ hp, fun e => nd.1 (List.mem_map.mpr ⟨p, hp, e⟩)⟩
  | _, _, .tail (p := q) x, nd, p, hp => by
    rw [List.map_cons, List.nodup_cons] at nd
    rcases List.mem_cons.mp hp with rfl | hp
    · exact .inr ⟨.head _, fun e => nd.1 (List.mem_map.mpr ⟨(a, r), x.mem, e.symm⟩)⟩
    · rcases x.of nd.2 p hp with h | h
      · exact .inl h
      · exact .inr ⟨.tail _ h.1, h.2⟩
theorem Sat.update (S : Sat prog w κ fr L m own h) {a : Addr} {r r' : Res} (U : OwnUpd a r r' own own') (hs : Heap.SameBut a h h') {o' : Obj} (ho : h'.get? a = some o') (hr : r'.is prog w o') :
    Sat prog w κ fr L m own' h' := by
  obtain ⟨⟨o, e, _⟩, k1, k2, k3⟩ := S.hown _ U.mem
  refine ⟨fun b o e' => (hs.2 b ?_).trans (S.base b o e'), fun b o e' => ⟨(hs.2 b ?_).trans (S.frz b o e').1, (S.frz b o e').2⟩, S.ns.sameBut hs (Ne.symm k3), S.kL, ?_, by rw [U.map]; exact S.nd⟩
  · rintro rfl; rw [k1] at e'; cases e'
  · rintro rfl; rw [k2] at e'; cases e'
  · intro p hp
    rcases U.of S.nd p hp with rfl | ⟨hq, hne⟩
    · exact ⟨⟨o', ho, hr⟩, k1, k2, k3⟩
    · obtain ⟨⟨o₂, e₂, r₂⟩, x⟩ := S.hown p hq
      exact ⟨⟨o₂, (hs.2 _ hne).trans e₂, r₂⟩, x⟩
theorem Sat.drop (S : Sat prog w κ fr L m own h) (hs : own'.Sublist own) : Sat prog w κ fr L m own' h :=
  ⟨S.base, S.frz, S.ns, S.kL, fun p hp => S.hown p (hs.subset hp), (hs.map _).nodup S.nd⟩
theorem Sat.loc (S : Sat prog w κ fr L m own h) {m' : Loc} (e : ∀ y, m' y = m y) : Sat prog w κ fr L m' own h := by
  have : m' = m := funext e
  rw [this]; exact S
/-- an object of the ledger is let go unchanged for good -/
theorem Sat.freeze (S : Sat prog w κ fr L m own h) {a : Addr} {r : Res} {pre post : List (Addr × Res)} (e : own = pre ++ (a, r) :: post) :
    ∃ o, r.is prog w o ∧ h.get? a = some o ∧ fr a = none ∧ Sat prog w κ (fr.ins a o) L m (pre ++ post) h := by
  subst e
  obtain ⟨⟨o, g, hr⟩, k1, k2, k3⟩ := S.hown (a, r) (List.mem_append_right _ (.head _))
  refine ⟨o, hr, g, k2, S.base, ?_, S.ns, ⟨S.kL.1, ?_⟩, ?_, ?_⟩
  · intro b o' e'
    unfold Know.ins at e'
    split at e'
    · rename_i q; subst q; cases e'; exact ⟨g, k1⟩
    · exact S.frz b o' e'
  · unfold Know.ins; rw [if_neg (Ne.symm k3)]; exact S.kL.2
  · intro p hp
    have hp' : p ∈ pre ++ (a, r) :: post := by
      rcases List.mem_append.mp hp with x | x
      · exact List.mem_append_left _ x
      · exact List.mem_append_right _ (.tail _ x)
    obtain ⟨x, y, z, u⟩ := S.hown p hp'
    refine ⟨x, y, ?_, u⟩
    unfold Know.ins
    rw [if_neg]
    · exact z
    · intro e
      have nd := S.nd
      rw [List.map_append, List.map_cons, List.nodup_append] at nd
      obtain ⟨n1, n2, n3⟩ := nd
      rw [List.nodup_cons] at n2
      rcases List.mem_append.mp hp with x | x
      · exact n3 p.1 (List.mem_map.mpr ⟨p, x, rfl⟩) a (.head _) e
      · exact n2.1 (List.mem_map.mpr ⟨p, x, e⟩)
  · have nd := S.nd
    rw [List.map_append, List.map_cons, List.nodup_append] at nd
    rw [List.map_append, List.nodup_append]
    obtain ⟨n1, n2, n3⟩ := nd
    rw [List.nodup_cons] at n2
    exact ⟨n1, n2.2, fun x hx y hy => n3 x hx y (.tail _ hy)⟩
/-- a call has made new things -/
theorem Sat.called (S : Sat prog w κ fr L m own h) (k : KeepsH h h') : Sat prog w κ (fr.or (fresh h h')) L m own h' := by
  have S' := S.keeps k
  refine ⟨S'.base, ?_, S'.ns, ⟨S'.kL.1, ?_⟩, ?_, S.nd⟩
  · intro a o e
    unfold Know.or at e
    split at e
    · rename_i q; cases e; exact S'.frz a _ q
    · refine ⟨fresh_sub h h' _ _ e, ?_⟩
      cases q : κ a with
      | none => rfl
      | some o' => rw [fresh_none (S.base _ _ q)] at e; cases e
  · obtain ⟨o, _, _, g, _⟩ := S.ns
    unfold Know.or; rw [S.kL.2, fresh_none g]
  · intro p hp
    obtain ⟨x, y, z, u⟩ := S'.hown p hp
    obtain ⟨⟨o, g, _⟩, _⟩ := S.hown p hp
    exact ⟨x, y, by unfold Know.or; rw [z, fresh_none g], u⟩
theorem Know.le_ins {k : Know} {a : Addr} {o : Obj} (e : k a = none) : Know.le k (k.ins a o) := fun x o' q => by
  unfold Know.ins
  rw [if_neg]
  · exact q
  · rintro rfl; rw [e] at q; cases q
theorem Know.ins_self {k : Know} {a : Addr} {o : Obj} : k.ins a o a = some o := by simp [Know.ins]
theorem Know.le_or (a b : Know) : Know.le a (a.or b) := fun x o e => by unfold Know.or; rw [e]
theorem Know.or_right {a b : Know} (d : ∀ x o, b x = some o → a x = none) : Know.le b (a.or b) := fun x o e => by unfold Know.or; rw [d x o e]; exact e
theorem Sat.right (S : Sat prog w κ fr L m own h) (h' : Heap) : Know.le (fresh h h') (fr.or (fresh h h')) := Know.or_right fun x o e => by
  cases q : fr x with
  | none => rfl
  | some o' => rw [fresh_none (S.frz _ _ q).1] at e; cases e
/-- what a def's own frame has laid down for good is fresh against the heap that it was called upon -/
theorem Sat.le_fresh (S : Sat prog w κ fr L m own h) {h₀ : Heap} (hk : ∀ a o, h₀.get? a = some o → κ a = some o) : Know.le fr (fresh h₀ h) := fun x o e => by
  unfold fresh
  split
  · rename_i q; have := hk _ _ q; rw [(S.frz x o e).2] at this; cases this
  · exact (S.frz x o e).1
end
end Mine
end

section
set_option maxRecDepth 100000
set_option Elab.async false
set_option linter.unusedVariables false
set_option autoImplicit false
namespace Mine
open PySem PySem.Calls PySem.W PyProof.Rows

section
variable {α β : Type} {prog : Program} {w : World} {A : Around} {env : Env} {h : Heap}
variable {P : Value → Heap → Prop} {PF : Flow → Heap → Prop} {PB : Bool → Heap → Prop}

theorem e_int {i : Int} {k : Nat} {pos : Pos} (q : ∀ t, P (.int i t) h) : WP prog w A (eval (.Constant (.int i) k pos) env) h P :=
  .of fun Q E gs dr tk os c => wpAny_Constant_int (c _ _ _ (q _))
theorem e_str {x : Str} {k : Nat} {pos : Pos} (q : ∀ t, P (.str x t) h) : WP prog w A (eval (.Constant (.str x) k pos) env) h P :=
  .of fun Q E gs dr tk os c => wpAny_Constant_str (c _ _ _ (q _))
theorem e_bytes {x : List UInt8} {k : Nat} {pos : Pos} (q : ∀ t, P (.bytes x.toArray t) h) : WP prog w A (eval (.Constant (.bytes x) k pos) env) h P :=
  .of fun Q E gs dr tk os c => fun Γ p hΓ => c _ _ _ (q _)
theorem e_bool {b : Bool} {k : Nat} {pos : Pos} (q : P (.bool b) h) : WP prog w A (eval (.Constant (.bool b) k pos) env) h P :=
  .of fun Q E gs dr tk os c => wpAny_Constant_bool (c _ _ _ q)
theorem e_none {k : Nat} {pos : Pos} (q : P .none h) : WP prog w A (eval (.Constant .none k pos) env) h P :=
  .of fun Q E gs dr tk os c => fun Γ p hΓ => c _ _ _ q
theorem e_bin {l r : Expr} {op : Operator} {pos : Pos} (q : WP prog w A (eval l env) h fun a h₁ => WP prog w A (eval r env) h₁ fun b h₂ => WP prog w A (binaryOp op a b) h₂ P) :
    WP prog w A (eval (.BinOp l op r pos) env) h P :=
  fun gs dr tk os => wpAny_BinOp (run (q gs dr tk os) (fun a h' tk' p => run (p gs dr tk' os) (fun b h' tk' p => p gs dr tk' os) fun _ _ e => e) fun _ _ e => e)
theorem e_un {x : Expr} {op : UnaryOp} {pos : Pos} (q : WP prog w A (eval x env) h fun a h₁ => WP prog w A (unaryOp op a) h₁ P) :
    WP prog w A (eval (.UnaryOp op x pos) env) h P :=
  fun gs dr tk os => wpAny_UnaryOp (run (q gs dr tk os) (fun a h' tk' p => p gs dr tk' os) fun _ _ e => e)
theorem e_cmp {l r : Expr} {op : CmpOp} {pos : Pos} (q : WP prog w A (eval l env) h fun a h₁ => WP prog w A (eval r env) h₁ fun b h₂ => WP prog w A (compareOp op a b) h₂ P)
    (hm : behindInMarks op r = false := by with_unfolding_all rfl) : WP prog w A (eval (.Compare l [op] [r] pos) env) h P :=
  fun gs dr tk os => wpAny_Compare1 (hm := hm) (run (q gs dr tk os) (fun a h' tk' p => run (p gs dr tk' os) (fun b h' tk' p => p gs dr tk' os) fun _ _ e => e) fun _ _ e => e)
theorem e_and {x y : Expr} {pos : Pos} (q : WP prog w A (eval x env) h fun v h₁ => WP prog w A (truthy v) h₁ fun t h₂ => if t then WP prog w A (eval y env) h₂ P else P v h₂) :
    WP prog w A (eval (.BoolOp .And [x, y] pos) env) h P :=
  fun gs dr tk os => wpAny_And2 (run (q gs dr tk os) (fun v h' tk' p => by
    exact run (p gs dr tk' os) (fun t h' tk' p => by
      cases t with
      | true => exact p gs dr tk' os
      | false => exact ⟨h', tk', rfl, p⟩) fun _ _ e => e) fun _ _ e => e)
/-- tests -/
theorem t_cmp {l r : Expr} {op : CmpOp} {pos : Pos} {whole : Sem Value} (q : WP prog w A (eval l env) h fun a h₁ => WP prog w A (eval r env) h₁ fun b h₂ => WP prog w A (compareOp op a b) h₂ fun c h₃ => WP prog w A (truthy c) h₃ PB)
    (hm : behindInMarks op r = false := by with_unfolding_all rfl) : WP prog w A (isTrue (.Compare l [op] [r] pos) env whole) h PB :=
  fun gs dr tk os => wpAny_isTrue_Compare1 (hm := hm) (run (q gs dr tk os) (fun a h' tk' p => run (p gs dr tk' os) (fun b h' tk' p => run (p gs dr tk' os) (fun b h' tk' p => p gs dr tk' os) fun _ _ e => e) fun _ _ e => e) fun _ _ e => e)
theorem t_call {f : Expr} {args : List Expr} {kws : List Keyword} {pos : Pos} (q : WP prog w A (eval (.Call f args kws pos) env) h fun v h₁ => WP prog w A (truthy v) h₁ PB) : WP prog w A (isTrue (.Call f args kws pos) env (eval (.Call f args kws pos) env)) h PB := by
  intro gs dr tk os
  have e : isTrue (.Call f args kws pos) env (eval (.Call f args kws pos) env) = (do
      let v ← eval (.Call f args kws pos) env
      standAt (Expr.Call f args kws pos).pos
      holding [v] (truthy v)) := rfl
  rw [e]
  exact wpAny_bind (run (q gs dr tk os) (fun a h' tk' p => wpAny_bind (wpAny_standAt (wpAny_holding (p gs dr tk' os)))) fun _ _ e => e)
theorem c_bool {b : Bool} (q : PB b h) : WP prog w A (truthy (.bool b)) h PB := .of fun Q E gs dr tk os c => wpAny_truthy_bool (c _ _ _ q)

/-! names -/
theorem e_name {x : Str} {pos : Pos} (q : WP prog w A (loadName env x) h P) (hd : (x == ("__debug__" : Str)) = false := by decide) : WP prog w A (eval (.Name x pos) env) h P :=
  fun gs dr tk os => wpAny_Name (hd := hd) (q gs dr tk os)
theorem l_local {x : Str} {m : Loc} {v : Value} (hn : h.Ns env.locals m) (hv : m x = some v) (q : P v h) (hk : env.scope.kind = .function := by rfl) (hl : env.kindOf x = some .local := by rfl) : WP prog w A (loadName env x) h P :=
  .of fun Q E gs dr tk os c => wpAny_loadName_local hk hl hn hv (c _ _ _ q)
theorem l_cell {x : Str} {a : Addr} {v : Value} (hv : h.IsCell a (some v)) (q : P v h) (hk : env.scope.kind = .function := by rfl) (hl : env.kindOf x = some .cell := by rfl) (hc : env.cells.lookup x = some a := by rfl) : WP prog w A (loadName env x) h P :=
  .of fun Q E gs dr tk os c => wpAny_loadName_cell hk hl hc hv (c _ _ _ q)
theorem l_free {x : Str} {a : Addr} {v : Value} (hv : h.IsCell a (some v)) (q : P v h) (hk : env.scope.kind = .function := by rfl) (hl : env.kindOf x = some .free := by rfl) (hc : env.cells.lookup x = some a := by rfl) (hn : (x == ("__classdict__" : Str)) = false := by decide) : WP prog w A (loadName env x) h P :=
  .of fun Q E gs dr tk os c => wpAny_loadName_free hk hl hc hv (c _ _ _ q) hn
theorem l_global {x : Str} {mg : Loc} {v : Value} (hn : h.Ns env.globals mg) (hv : mg x = some v) (q : P v h) (hk : env.scope.kind = .function := by rfl) (hl : env.kindOf x = some .globalImplicit := by rfl) : WP prog w A (loadName env x) h P := by
  have e : loadName env x = loadGlobal env x := by simp only [loadName, Env.blockKind, hk, hl, ScopeKind.isAnnotationScope, Bool.false_and, Bool.false_eq_true, if_false]
  rw [e]
  exact .of fun Q E gs dr tk os c => wpAny_bind (m := nsGet env.globals x) (wpAny_nsGet hn (by rw [hv]; exact wpAny_pure (c _ _ _ q)))
theorem l_builtin {x : Str} {mg mb : Loc} {v : Value} (hn : h.Ns env.globals mg) (hx : mg x = none) (hb : h.Ns env.builtins mb) (hv : mb x = some v) (q : P v h) (hk : env.scope.kind = .function := by rfl) (hl : env.kindOf x = some .globalImplicit := by rfl) : WP prog w A (loadName env x) h P := by
  have e : loadName env x = loadGlobal env x := by simp only [loadName, Env.blockKind, hk, hl, ScopeKind.isAnnotationScope, Bool.false_and, Bool.false_eq_true, if_false]
  rw [e]
  exact .of fun Q E gs dr tk os c => wpAny_bind (m := nsGet env.globals x) (wpAny_nsGet hn (by rw [hx]; exact wpAny_bind (m := nsGet env.builtins x) (wpAny_nsGet hb (by rw [hv]; exact wpAny_pure (c _ _ _ q)))))

/-! statements -/
theorem x_nil (q : PF .next h) : WP prog w A (execs [] env) h PF := .of fun Q E gs dr tk os c => wpAny_execs_nil (c _ _ _ q)
noncomputable def Nxt (prog : Program) (w : World) (A : Around) (env : Env) (rest : List Stmt) (PF : Flow → Heap → Prop) (f : Flow) (h : Heap) : Prop := match f with
  | .next => WP prog w A (execs rest env) h PF
  | f => PF f h
theorem x_cons {st : Stmt} {rest : List Stmt} (q : WP prog w A (exec st env) h (Nxt prog w A env rest PF)) : WP prog w A (execs (st :: rest) env) h PF :=
  fun gs dr tk os => wpAny_execs_cons (run (q gs dr tk os) (fun f h' tk' p => by
    cases f with
    | next => exact p gs dr tk' os
    | brk => exact ⟨h', tk', rfl, p⟩
    | cont => exact ⟨h', tk', rfl, p⟩
    | ret v => exact ⟨h', tk', rfl, p⟩) fun _ _ e => e)
theorem x_assign {x : Str} {pos' pos : Pos} {value : Expr} {rest : List Stmt} (q : WP prog w A (eval value env) h fun v h₁ => WP prog w A (storeName env x v) h₁ fun _ h₂ => WP prog w A (execs rest env) h₂ PF)
    (hs : swapsWith value (some (.Name x pos')) pos.line env = pure false := by rfl) : WP prog w A (execs (.Assign [.Name x pos'] value pos :: rest) env) h PF :=
  x_cons fun gs dr tk os => wpAny_Assign_Name (hs := hs) (run (q gs dr tk os) (fun a h' tk' p => run (p gs dr tk' os) (fun b h' tk' p => ⟨h', tk', rfl, p⟩) fun _ _ e => e) fun _ _ e => e)
theorem x_aug {x : Str} {pos' pos : Pos} {op : Operator} {value : Expr} {rest : List Stmt} (q : WP prog w A (loadName env x) h fun old h₀ => WP prog w A (eval value env) h₀ fun v h₁ => WP prog w A (inplaceOp op old v) h₁ fun r h₂ => WP prog w A (storeName env x r) h₂ fun _ h₃ => WP prog w A (execs rest env) h₃ PF) :
    WP prog w A (execs (.AugAssign (.Name x pos') op value pos :: rest) env) h PF :=
  x_cons fun gs dr tk os => wpAny_AugAssign_Name (run (q gs dr tk os) (fun a h' tk' p => run (p gs dr tk' os) (fun a h' tk' p => run (p gs dr tk' os) (fun a h' tk' p => run (p gs dr tk' os) (fun b h' tk' p => ⟨h', tk', rfl, p⟩) fun _ _ e => e) fun _ _ e => e) fun _ _ e => e) fun _ _ e => e)
theorem x_ret {e : Expr} {pos : Pos} {rest : List Stmt} (q : WP prog w A (eval e env) h fun v h₁ => PF (.ret v) h₁) : WP prog w A (execs (.Return (some e) pos :: rest) env) h PF :=
  x_cons fun gs dr tk os => wpAny_Return_some (run (q gs dr tk os) (fun a h' tk' p => ⟨h', tk', rfl, p⟩) fun _ _ e => e)
theorem x_if {test : Expr} {body orelse rest : List Stmt} {pos : Pos} (q : WP prog w A (isTrue test env (eval test env)) h fun b h₁ => if b = true then WP prog w A (execs body env) h₁ (Nxt prog w A env rest PF) else WP prog w A (execs orelse env) h₁ (Nxt prog w A env rest PF)) :
    WP prog w A (execs (.If test body orelse pos :: rest) env) h PF :=
  x_cons fun gs dr tk os => wpAny_If (run (q gs dr tk os) (fun b h' tk' p => by
    cases b with
    | true => exact p gs dr tk' os
    | false => exact p gs dr tk' os) fun _ _ e => e)
theorem x_expr {e : Expr} {pos : Pos} {rest : List Stmt} (q : WP prog w A (eval e env) h fun _ h₁ => WP prog w A (execs rest env) h₁ PF) (hi : interactive env = false := by rfl) (hs : swapsWith e none pos.line env = pure false := by rfl) :
    WP prog w A (execs (.Expr e pos :: rest) env) h PF :=
  x_cons fun gs dr tk os => wpAny_Expr_any (run (q gs dr tk os) (fun a h' tk' p => ⟨h', tk', rfl, p⟩) fun _ _ e => e) hi hs
theorem x_assign_sub {o i value : Expr} {pos' pos : Pos} {rest : List Stmt} (q : WP prog w A (eval value env) h fun v h₁ => WP prog w A (eval o env) h₁ fun ov h₂ => WP prog w A (eval i env) h₂ fun iv h₃ => WP prog w A (setItem ov iv v) h₃ fun _ h₄ => WP prog w A (execs rest env) h₄ PF)
    (hs : swapsWith value (some (.Subscript o i pos')) pos.line env = pure false := by rfl) : WP prog w A (execs (.Assign [.Subscript o i pos'] value pos :: rest) env) h PF :=
  x_cons fun gs dr tk os => wpAny_Assign_Subscript (hs := hs) (run (q gs dr tk os) (fun a h' tk' p => run (p gs dr tk' os) (fun a h' tk' p => run (p gs dr tk' os) (fun a h' tk' p => run (p gs dr tk' os) (fun b h' tk' p => ⟨h', tk', rfl, p⟩) fun _ _ e => e) fun _ _ e => e) fun _ _ e => e) fun _ _ e => e)
theorem x_aug_sub {o value : Expr} {x : Str} {px pos' pos : Pos} {op : Operator} {rest : List Stmt} (q : WP prog w A (eval o env) h fun ov h₁ => WP prog w A (eval (.Name x px) env) h₁ fun iv h₂ => WP prog w A (getItem ov iv) h₂ fun old h₃ => WP prog w A (eval value env) h₃ fun v h₄ => WP prog w A (inplaceOp op old v) h₄ fun nw h₅ => WP prog w A (setItem ov iv nw) h₅ fun _ h₆ => WP prog w A (execs rest env) h₆ PF) :
    WP prog w A (execs (.AugAssign (.Subscript o (.Name x px) pos') op value pos :: rest) env) h PF :=
  x_cons fun gs dr tk os => wpAny_AugAssign_Subscript (run (q gs dr tk os) (fun a h' tk' p => run (p gs dr tk' os) (fun a h' tk' p => run (p gs dr tk' os) (fun a h' tk' p => run (p gs dr tk' os) (fun a h' tk' p => run (p gs dr tk' os) (fun a h' tk' p => run (p gs dr tk' os) (fun b h' tk' p => ⟨h', tk', rfl, p⟩) fun _ _ e => e) fun _ _ e => e) fun _ _ e => e) fun _ _ e => e) fun _ _ e => e) fun _ _ e => e)

/-! calls by a name, displays -/
/-- a list of trees, one behind the other -/
noncomputable def WPs (prog : Program) (w : World) (A : Around) (env : Env) : List Expr → List Value → Heap → (List Value → Heap → Prop) → Prop
  | [], vs, h, P => P vs.reverse h
  | e :: r, vs, h, P => WP prog w A (eval e env) h fun v h' => WPs prog w A env r (v :: vs) h' P
noncomputable def plainArgs : List Expr → Bool
  | [] => true
  | .Starred _ _ :: _ => false
  | _ :: r => plainArgs r
theorem starEach_plain : ∀ {es : List Expr}, plainArgs es = true → starEach es env = es.map fun e => (false, eval e env)
  | [], _ => rfl
  | e :: r, hp => by
    cases e <;> first | (cases hp; done) | (show (false, _) :: starEach r env = _; rw [starEach_plain (es := r) hp]; rfl)
theorem backTo_plain {pos : Pos} : ∀ {es : List Expr}, backTo pos (es.map fun e => (false, eval e env)) = es.map fun e => (false, eval e env)
  | [] => rfl
  | e :: r => by
    show (false, eval e env) :: backTo pos (r.map fun e => (false, eval e env)) = _
    rw [backTo_plain (es := r)]; rfl
theorem WPs.spliced {PL : List Value → Heap → Prop} : ∀ {es : List Expr} {vs : List Value} {h : Heap}, WPs prog w A env es vs h PL →
    WP prog w A (spliced (es.map fun e => (false, eval e env))) h fun ws h' => PL (vs.reverse ++ ws) h'
  | [], vs, h, q => fun gs dr tk os => spliced_nil ⟨h, tk, rfl, by show PL (vs.reverse ++ []) h; rw [List.append_nil]; exact q⟩
  | e :: r, vs, h, q => fun gs dr tk os => spliced_cons (run (q gs dr tk os) (fun v h' tk' p => by
      exact wpAny_mono (WPs.spliced p gs dr tk' os) (fun ws s' ⟨h', tk', e, p⟩ => ⟨h', tk', e, by simpa using p⟩) fun _ _ e => e) fun _ _ e => e)
theorem e_tuple {es : List Expr} {k : Nat} {pos : Pos} (q : WPs prog w A env es [] h fun vs h' => vs.length ≤ 1000 ∧ P (.ref h'.objs.size) (h'.push { cls := .type "tuple", data := .seq vs.toArray })) (hp : plainArgs es = true := by rfl) :
    WP prog w A (eval (.Tuple es k pos) env) h P := fun gs dr tk os => by
  refine wpAny_Tuple ?_
  rw [starEach_plain hp, backTo_plain]
  refine run (WPs.spliced q gs dr tk os) (fun vs h' tk' p => ?_) fun _ _ e => e
  exact ⟨Nat.le_trans p.1 (by rw [sizeLine_eq]; omega), _, _, rfl, p.2⟩
theorem e_list {es : List Expr} {pos : Pos} (q : WPs prog w A env es [] h fun vs h' => vs.length ≤ 1000 ∧ P (.ref h'.objs.size) (h'.push { cls := .type "list", data := .seq vs.toArray })) (hp : plainArgs es = true := by rfl) :
    WP prog w A (eval (.List es pos) env) h P := fun gs dr tk os => by
  refine wpAny_List ?_
  rw [starEach_plain hp, backTo_plain]
  refine run (WPs.spliced q gs dr tk os) (fun vs h' tk' p => ?_) fun _ _ e => e
  exact ⟨Nat.le_trans p.1 (by rw [sizeLine_eq]; omega), _, _, rfl, p.2⟩
theorem e_dict0 {pos : Pos} (q : P (.ref h.objs.size) (h.push { cls := .type "dict", data := .dict #[] })) : WP prog w A (eval (.Dict [] [] pos) env) h P :=
  .of fun Q E gs dr tk os c => wpAny_Dict_empty (c _ _ _ q)
/-- f(a, b, ..) for a built-in -/
theorem e_call_b {id : String} {x : Str} {px pos : Pos} {e : Expr} {es : List Expr} (q : WP prog w A (eval (.Name x px) env) h fun f h₁ => f = .builtin id ∧ WPs prog w A env (e :: es) [] h₁ fun vs h₂ => WP prog w A (call (.builtin id) vs []) h₂ P)
    (hp : plainArgs (e :: es) = true := by rfl) : WP prog w A (eval (.Call (.Name x px) (e :: es) [] pos) env) h P := fun gs dr tk os => by
  refine wpAny_Call_NameR (run (q gs dr tk os) (fun f h' tk' p => ?_) fun _ _ e => e)
  obtain ⟨rfl, p⟩ := p
  rw [starEach_plain hp, backTo_plain]
  refine callWith_builtin (by rw [List.any_map]; simp) (evalArgs_plain (run (WPs.spliced p gs dr tk' os) (fun vs h' tk' p => ?_) fun _ _ e => e))
  exact p gs dr tk' os
/-- a class of the interpreter's: range, list, str, int -/
theorem e_call_t {T : String} {x : Str} {px pos : Pos} {e : Expr} {es : List Expr} (q : WP prog w A (eval (.Name x px) env) h fun f h₁ => f = .type T ∧ WPs prog w A env (e :: es) [] h₁ fun vs h₂ => WP prog w A (call (.type T) vs []) h₂ P)
    (hp : plainArgs (e :: es) = true := by rfl) : WP prog w A (eval (.Call (.Name x px) (e :: es) [] pos) env) h P := fun gs dr tk os => by
  refine wpAny_Call_NameR (run (q gs dr tk os) (fun f h' tk' p => ?_) fun _ _ e => e)
  obtain ⟨rfl, p⟩ := p
  rw [starEach_plain hp, backTo_plain]
  refine callWith_of (P := fun _ => True) (by rw [List.any_map]; simp) (fun h _ => ⟨.machine, .inr (.inl rfl), Looks.of_pure rfl⟩) (evalArgs_plain (run (WPs.spliced p gs dr tk' os) (fun vs h' tk' p => ?_) fun _ _ e => e))
  exact ⟨trivial, p gs dr tk' os⟩
/-- a def of the text's -/
theorem e_call_d {f : Addr} {x : Str} {px pos : Pos} {e : Expr} {es : List Expr} (q : WP prog w A (eval (.Name x px) env) h fun g h₁ => g = .ref f ∧ WPs prog w A env (e :: es) [] h₁ fun vs h₂ => (∃ o fd, h₂.get? f = some o ∧ o.data = .func fd) ∧ WP prog w A (call (.ref f) vs []) h₂ P)
    (hp : plainArgs (e :: es) = true := by rfl) : WP prog w A (eval (.Call (.Name x px) (e :: es) [] pos) env) h P := fun gs dr tk os => by
  refine wpAny_Call_NameR (run (q gs dr tk os) (fun f h' tk' p => ?_) fun _ _ e => e)
  obtain ⟨rfl, p⟩ := p
  rw [starEach_plain hp, backTo_plain]
  refine callWith_of (P := fun h => ∃ o fd, h.get? f = some o ∧ o.data = .func fd) (by rw [List.any_map]; simp) (fun h hP => ⟨.frame, .inl rfl, ?_⟩) (evalArgs_plain (wpAny_mono (WPs.spliced p gs dr tk' os) (fun vs s' ⟨h', tk', e, p⟩ => ?_) fun _ _ e => e))
  · obtain ⟨o, fd, ho, hd⟩ := hP
    intro A' Q E s k q
    unfold keeperOf
    refine wpAny_bind (wpAny_load (k _ _ ho) ?_)
    rw [hd]; exact wpAny_pure q
  · subst e
    exact ⟨p.1, p.2 gs dr tk' os⟩
end
end Mine
end

section
set_option maxRecDepth 100000
set_option Elab.async false
set_option linter.unusedVariables false
set_option autoImplicit false
namespace Mine
open PySem PySem.Calls PySem.W PyProof.Rows

/-! ## the text's defs by their place -/
noncomputable def stOf (i : Nat) : Stmt := match PySem.Challenge.pw_xg0021_01.main.body.drop i with
  | s :: _ => s
  | [] => .Pass ⟨0, 0, 0, 0⟩
noncomputable def bodyOf (i : Nat) : List Stmt := match stOf i with
  | .FunctionDef _ _ b _ _ _ _ _ _ _ => b
  | _ => []
noncomputable def scopeOf (i : Nat) : Scope := match stOf i with
  | .FunctionDef _ _ _ _ _ _ sc _ _ _ => sc
  | _ => default
noncomputable def paramsOf (i : Nat) : Arguments := match stOf i with
  | .FunctionDef _ a _ _ _ _ _ _ _ _ => a
  | _ => default
noncomputable def nameOf (i : Nat) : Str := match stOf i with
  | .FunctionDef n _ _ _ _ _ _ _ _ _ => n
  | _ => Str.empty
noncomputable abbrev fdAt (i : Nat) (dV kV doc pm : Value) (an : Option Addr) (cdv ct : Value) : FuncData := fnOf (nameOf i) (nameOf i) (paramsOf i) (bodyOf i) (scopeOf i) dV kV doc pm an cdv ct
noncomputable def FnAt (h : Heap) (a : Addr) (i : Nat) (dV kV : Value) : Prop :=
  ∃ oc od osl doc pm an cdv ct, h.get? a = some ⟨oc, od, .func (fdAt i dV kV doc pm an cdv ct), osl⟩ ∧ h.CodeRec cdv (nameOf i)
theorem FnAt.keeps {h h' : Heap} {a : Addr} {i : Nat} {dV kV : Value} (x : FnAt h a i dV kV) (k : KeepsH h h') : FnAt h' a i dV kV := by
  obtain ⟨oc, od, osl, doc, pm, an, cdv, ct, g, c⟩ := x
  exact ⟨oc, od, osl, doc, pm, an, cdv, ct, k _ _ g, c.keeps k⟩
theorem FnAt.fn {h : Heap} {a : Addr} {i : Nat} {dV kV : Value} (x : FnAt h a i dV kV) : ∃ o fd, h.get? a = some o ∧ o.data = .func fd := by
  obtain ⟨oc, od, osl, doc, pm, an, cdv, ct, g, c⟩ := x
  exact ⟨_, _, g, rfl⟩
noncomputable abbrev fenv (i : Nat) (L a : Addr) (cd : Value) : Env := envOf (nameOf i) (scopeOf i) L a cd
noncomputable def nil : Loc := fun _ => none
noncomputable def mapOf (l : List (Str × Value)) : Loc := l.foldl (fun m p => upd m p.1 p.2) nil
theorem foldl_upd (l : List (Str × Value)) : ∀ (m : Loc) y, l.foldl (fun m p => upd m p.1 p.2) m y = match l.reverse.lookup y with
    | some v => some v
    | none => m y := by
  induction l with
  | nil => intro m y; rfl
  | cons p r ih =>
    intro m y
    rw [List.foldl_cons, ih, List.reverse_cons, List.lookup_append]
    cases r.reverse.lookup y with
    | some v => rfl
    | none =>
      obtain ⟨n, v⟩ := p
      simp only [Option.none_or]
      unfold upd
      by_cases e : y = n
      · simp [e, List.lookup]
      · have : (y == n) = false := beq_eq_false_iff_ne.mpr e
        simp [e, this, List.lookup]
theorem mapOf_eq (l : List (Str × Value)) : (fun y => l.reverse.lookup y) = mapOf l := by
  funext y
  unfold mapOf
  rw [foldl_upd]
  cases l.reverse.lookup y <;> rfl

/-- the rooms that a walk needs -/
structure Lv (A : Around) (d : Nat) : Prop where
  hh : A.handled = none
  dep : A.depth ≤ d + 400
  un : A.units ≤ 10 * d
theorem Lv.deeper {A : Around} {d : Nat} (x : Lv A d) (env : Env) : Lv (A.deeper env) (d + 1) :=
  ⟨x.hh, by show A.depth + 1 ≤ _; have := x.dep; omega, by show A.units + 3 ≤ _; have := x.un; omega⟩
theorem Lv.mono {A : Around} {d d' : Nat} (x : Lv A d) (h : d ≤ d') : Lv A d' := ⟨x.hh, by have := x.dep; omega, by have := x.un; omega⟩
theorem Lv.units {A : Around} {d : Nat} (x : Lv A d) (h : d ≤ 200) : A.units < cLine := by have := x.un; unfold cLine; omega
theorem Lv.depth {A : Around} {d : Nat} (x : Lv A d) (h : d ≤ 200) : A.depth < recursionLimit := by have := x.dep; unfold recursionLimit; omega

section
variable {prog : Program} {w : World} {A : Around} {h : Heap}
variable {P : Value → Heap → Prop}
noncomputable def retOf (f : Flow) : Value := match f with
  | .ret v => v
  | _ => .none
theorem call_def {a : Addr} {i : Nat} {dV kV : Value} {vals : List Value} {binds : List (Str × Value)} (F : FnAt h a i dV kV) (hl : h.NoLimit) (hroom : A.depth < recursionLimit)
    (hb : ∀ doc pm an cdv ct (s : Shared), s.heap = h → BindsTo s (fdAt i dV kV doc pm an cdv ct) ⟨vals, []⟩ binds)
    (hloc : ((binds.map (·.1)).all fun x => decide ((scopeOf i).names.lookup x = some .local)) = true)
    (q : ∀ L h₁ cd, KeepsH h h₁ → Sat prog w h.get? Know.nil L (mapOf binds) [] h₁ → WP prog w (A.deeper (fenv i L a cd)) (execs (bodyOf i) (fenv i L a cd)) h₁ fun f h' => P (retOf f) h')
    (hcell : ∀ x ∈ (scopeOf i).names, x.2 ≠ .cell) (hco : (scopeOf i).isCoroutine = false := by rfl) (hgen : (scopeOf i).isGenerator = false := by rfl) (hk : (scopeOf i).kind = .function := by rfl) :
    WP prog w A (call (.ref a) vals []) h P := by
  refine WP.call fun gs dr tk os => ?_
  obtain ⟨oc, od, osl, doc, pm, an, cdv, ct, g, hcd⟩ := F
  refine codeAny_call_function hroom g rfl hco hgen rfl hcd ?_
  refine hb doc pm an cdv ct ⟨h, gs, dr, tk, os⟩ rfl _ _ _ _ ?_
  refine wpAny_newFunctionEnv hcell (locs (by rw [List.all_map] at hloc; exact hloc)) (fun h₁ hns hsb => ⟨hl.fresh _ hsb, ?_⟩) hk
  rw [mapOf_eq] at hns
  have hkp : KeepsH h h₁ := fun b o e => hsb.extBut b o (Nat.ne_of_lt (Heap.lt_size e)) (Heap.get?_push_of_some _ e)
  refine codeAny_func ?_
  refine wpAny_mono (q h.objs.size h₁ cdv hkp ?_ gs dr _ os) (fun f s' ⟨h', tk', e, p⟩ => ⟨h', tk', e, ?_⟩) fun _ _ e => e.elim
  · exact ⟨hkp, fun _ _ e => (by cases e), hns, ⟨get?_size h, rfl⟩, fun _ hp => (by cases hp), List.nodup_nil⟩
  · cases f <;> exact p
theorem binds_of {fd : FuncData} {args : Args} {binds : List (Str × Value)} (e : bindArgs fd args = pure binds) (s : Shared) : BindsTo s fd args binds := fun M A E Q q => by rw [e]; exact wpAny_pure q
theorem store {env : Env} {x : Str} {v : Value} {κ fr : Know} {L : Addr} {m : Loc} {own : List (Addr × Res)} {PU : Unit → Heap → Prop} (S : Sat prog w κ fr L m own h)
    (q : ∀ h', Sat prog w κ fr L (upd m x v) own h' → PU () h') (hL : env.locals = L := by rfl) (hl : env.kindOf x = some .local := by rfl)
    (hp : (env.scope.kind == .class || (env.scope.kind == .module && env.locals != env.globals)) = false := by rfl) : WP prog w A (storeName env x v) h PU :=
  .of fun Q E gs dr tk os c => wpAny_storeName_local hl (by rw [hL]; exact S.ns) (fun h' hn hs => c _ _ _ (q h' (S.store (by rw [← hL]; exact hn) (by rw [← hL]; exact hs)))) hp
theorem store_cell {env : Env} {x : Str} {v : Value} {κ fr : Know} {L a : Addr} {m : Loc} {own own' : List (Addr × Res)} {v₀ : Option Value} {PU : Unit → Heap → Prop} (S : Sat prog w κ fr L m own h) (U : OwnUpd a (.cell v₀) (.cell (some v)) own own')
    (q : ∀ h', Sat prog w κ fr L m own' h' → PU () h') (hk : env.scope.kind = .function := by rfl) (hl : env.kindOf x = some .cell := by rfl) (hc : env.cells.lookup x = some a := by rfl) : WP prog w A (storeName env x v) h PU :=
  .of fun Q E gs dr tk os c => by
    obtain ⟨o, g, hr⟩ := S.at U.mem
    exact wpAny_storeName_cell hk hl hc ⟨o, g, hr⟩ (fun h' ⟨o', g', hr'⟩ hs => c _ _ _ (q h' (S.update U hs g' hr')))
/-- a name of the frame -/
theorem v_local {env : Env} {x : Str} {pos : Pos} {v : Value} {κ fr : Know} {L : Addr} {m : Loc} {own : List (Addr × Res)} (S : Sat prog w κ fr L m own h) (hv : m x = some v) (q : P v h)
    (hL : env.locals = L := by rfl) (hk : env.scope.kind = .function := by rfl) (hl : env.kindOf x = some .local := by rfl) (hd : (x == ("__debug__" : Str)) = false := by decide) : WP prog w A (eval (.Name x pos) env) h P :=
  e_name (l_local (by rw [hL]; exact S.ns) hv q hk hl) hd
theorem v_cell {env : Env} {x : Str} {pos : Pos} {v : Value} {κ fr : Know} {L a : Addr} {m : Loc} {own : List (Addr × Res)} (S : Sat prog w κ fr L m own h) (hv : (a, Res.cell (some v)) ∈ own) (q : P v h)
    (hk : env.scope.kind = .function := by rfl) (hl : env.kindOf x = some .cell := by rfl) (hc : env.cells.lookup x = some a := by rfl) (hd : (x == ("__debug__" : Str)) = false := by decide) : WP prog w A (eval (.Name x pos) env) h P := by
  obtain ⟨o, g, hr⟩ := S.at hv
  exact e_name (l_cell ⟨o, g, hr⟩ q hk hl hc) hd
end

/-! ## what the interpreter's own part of the heap holds -/
/-- names of the text that are objects of the heap, names that are the interpreter's -/
structure Glo (κ : Know) (gl : List (Str × Value)) (bi : List (Str × Value)) : Prop where
  ns : ∀ h, Sub κ h → ∃ mg mb, h.Ns mainGlobals mg ∧ h.Ns builtinsNs mb ∧ (∀ p ∈ gl, mg p.1 = some p.2) ∧ (∀ p ∈ bi, mg p.1 = none ∧ mb p.1 = some p.2)
section
variable {prog : Program} {w : World} {A : Around} {h : Heap}
variable {P : Value → Heap → Prop}
theorem v_global {κ : Know} {gl bi : List (Str × Value)} {env : Env} {x : Str} {pos : Pos} {v : Value} (G : Glo κ gl bi) (S : Sub κ h) (hv : (x, v) ∈ gl) (q : P v h)
    (hG : env.globals = mainGlobals := by rfl) (hk : env.scope.kind = .function := by rfl) (hl : env.kindOf x = some .globalImplicit := by rfl) (hd : (x == ("__debug__" : Str)) = false := by decide) : WP prog w A (eval (.Name x pos) env) h P := by
  obtain ⟨mg, mb, n1, n2, g1, g2⟩ := G.ns h S
  exact e_name (l_global (by rw [hG]; exact n1) (g1 _ hv) q hk hl) hd
theorem v_builtin {κ : Know} {gl bi : List (Str × Value)} {env : Env} {x : Str} {pos : Pos} {v : Value} (G : Glo κ gl bi) (S : Sub κ h) (hv : (x, v) ∈ bi) (q : P v h)
    (hG : env.globals = mainGlobals := by rfl) (hB : env.builtins = builtinsNs := by rfl) (hk : env.scope.kind = .function := by rfl) (hl : env.kindOf x = some .globalImplicit := by rfl) (hd : (x == ("__debug__" : Str)) = false := by decide) : WP prog w A (eval (.Name x pos) env) h P := by
  obtain ⟨mg, mb, n1, n2, g1, g2⟩ := G.ns h S
  exact e_name (l_builtin (by rw [hG]; exact n1) (g2 _ hv).1 (by rw [hB]; exact n2) (g2 _ hv).2 q hk hl) hd
end

/-! ## ints -/
section
variable {prog : Program} {w : World} {A : Around} {h : Heap} {a b : Int} {t u : Tok}
variable {P : Value → Heap → Prop}
theorem i_add (q : ∀ t', P (.int (a + b) t') h) : WP prog w A (binaryOp .Add (.int a t) (.int b u)) h P := .of fun Q E gs dr tk os c => PyProof.Rows.add_int (c _ _ _ (q _))
theorem i_sub (q : ∀ t', P (.int (a - b) t') h) : WP prog w A (binaryOp .Sub (.int a t) (.int b u)) h P := .of fun Q E gs dr tk os c => PyProof.Rows.sub_int (c _ _ _ (q _))
theorem i_mul (hm : IntMulOk a b) (q : ∀ t', P (.int (a * b) t') h) : WP prog w A (binaryOp .Mult (.int a t) (.int b u)) h P := .of fun Q E gs dr tk os c => PyProof.Rows.mul_int (c _ _ _ (q _)) hm
theorem i_mod (hb : b ≠ 0) (q : ∀ t', P (.int (a.fmod b) t') h) : WP prog w A (binaryOp .Mod (.int a t) (.int b u)) h P := .of fun Q E gs dr tk os c => PyProof.Rows.mod_int hb (c _ _ _ (q _))
theorem i_div (hb : b ≠ 0) (hp : Builtin.divisionGoesByPylong a b = false) (q : ∀ t', P (.int (a.fdiv b) t') h) : WP prog w A (binaryOp .FloorDiv (.int a t) (.int b u)) h P := .of fun Q E gs dr tk os c => PyProof.Rows.floordiv_int hb (c _ _ _ (q _)) (.inl hp)
theorem i_neg (q : ∀ t', P (.int (-a) t') h) : WP prog w A (unaryOp .USub (.int a t)) h P := .of fun Q E gs dr tk os c => PyProof.Rows.neg_int (c _ _ _ (q _))
theorem i_iadd (q : ∀ t', P (.int (a + b) t') h) : WP prog w A (inplaceOp .Add (.int a t) (.int b u)) h P := .of fun Q E gs dr tk os c => wpAny_iadd_int (c _ _ _ (q _))
theorem i_imul (hm : IntMulOk a b) (q : ∀ t', P (.int (a * b) t') h) : WP prog w A (inplaceOp .Mult (.int a t) (.int b u)) h P := .of fun Q E gs dr tk os c => PySem.P.imul_int (c _ _ _ (q _)) hm
theorem i_lt (q : P (.bool (decide (a < b))) h) : WP prog w A (compareOp .Lt (.int a t) (.int b u)) h P := .of fun Q E gs dr tk os c => PyProof.Rows.lt_int (c _ _ _ q)
theorem i_eq (q : P (.bool (a == b)) h) : WP prog w A (compareOp .Eq (.int a t) (.int b u)) h P := .of fun Q E gs dr tk os c => PyProof.Rows.eq_int (c _ _ _ q)
theorem i_ne (q : P (.bool (a != b)) h) : WP prog w A (compareOp .NotEq (.int a t) (.int b u)) h P := .of fun Q E gs dr tk os c => PyProof.Rows.ne_int (c _ _ _ q)
end
end Mine
end

section
set_option maxRecDepth 100000
set_option Elab.async false
set_option linter.unusedVariables false
set_option autoImplicit false
namespace Mine
open PySem PySem.Calls PySem.W PyProof.Rows

/-! ## data, and how the heap bears it -/
inductive D where
  | int (i : Int)
  | str (s : Str)
  | tup (l : List D)
  | lst (l : List D)
  | dct (l : List (Int × Int))
noncomputable abbrev D.ints (l : List Int) : D := .lst (l.map .int)

noncomputable def LO (vs : List Value) (n : Nat) : Obj := { cls := .type "list", data := .seq vs.toArray n }
noncomputable def TO (vs : List Value) (n : Nat) : Obj := { cls := .type "tuple", data := .seq vs.toArray n }
/-- int values under int keys -/
noncomputable def IntVals : List (Int × Value) → List (Int × Int) → Prop
  | [], [] => True
  | (k, v) :: r, (k', i) :: r' => k = k' ∧ (∃ t, v = .int i t) ∧ IntVals r r'
  | _, _ => False

mutual
inductive Rep (prog : Program) (w : World) (k : Know) : Value → D → Prop
  | int {i : Int} {t : Tok} : Rep prog w k (.int i t) (.int i)
  | str {s : Str} {t : Tok} : Rep prog w k (.str s t) (.str s)
  | tup {a : Addr} {vs : List Value} {n : Nat} {ds : List D} : k a = some (TO vs n) → Reps prog w k vs ds → Rep prog w k (.ref a) (.tup ds)
  | lst {a : Addr} {vs : List Value} {n : Nat} {ds : List D} : k a = some (LO vs n) → Reps prog w k vs ds → Rep prog w k (.ref a) (.lst ds)
  | dct {a : Addr} {o : Obj} {kvs : List (Int × Value)} {ds : List (Int × Int)} : k a = some o → DictO prog w kvs o → IntVals kvs ds → (a == sysModules) = false → Rep prog w k (.ref a) (.dct ds)
inductive Reps (prog : Program) (w : World) (k : Know) : List Value → List D → Prop
  | nil : Reps prog w k [] []
  | cons {v : Value} {d : D} {vs : List Value} {ds : List D} : Rep prog w k v d → Reps prog w k vs ds → Reps prog w k (v :: vs) (d :: ds)
end

section
variable {prog : Program} {w : World} {k k' : Know}
mutual
theorem Rep.mono (l : Know.le k k') : ∀ {v : Value} {d : D}, Rep prog w k v d → Rep prog w k' v d
  | _, _, .int => .int
  | _, _, .str => .str
  | _, _, .tup e r => .tup (l _ _ e) (Reps.mono l r)
  | _, _, .lst e r => .lst (l _ _ e) (Reps.mono l r)
  | _, _, .dct e r i hs => .dct (l _ _ e) r i hs
theorem Reps.mono (l : Know.le k k') : ∀ {vs : List Value} {ds : List D}, Reps prog w k vs ds → Reps prog w k' vs ds
  | _, _, .nil => .nil
  | _, _, .cons h r => .cons (Rep.mono l h) (Reps.mono l r)
end
theorem Reps.length : ∀ {vs : List Value} {ds : List D}, Reps prog w k vs ds → vs.length = ds.length
  | _, _, .nil => rfl
  | _, _, .cons _ r => by rw [List.length_cons, List.length_cons, r.length]
theorem Reps.get : ∀ {vs : List Value} {ds : List D}, Reps prog w k vs ds → ∀ {i : Nat} {d : D}, ds[i]? = some d → ∃ v, vs[i]? = some v ∧ Rep prog w k v d
  | _, _, .cons h r, 0, d, e => by cases e; exact ⟨_, rfl, h⟩
  | _, _, .cons h r, i + 1, d, e => r.get (i := i) e
theorem Reps.at : ∀ {vs : List Value} {ds : List D}, Reps prog w k vs ds → ∀ {i : Nat} {v : Value}, vs[i]? = some v → ∃ d, ds[i]? = some d ∧ Rep prog w k v d
  | _, _, .cons h r, 0, d, e => by cases e; exact ⟨_, rfl, h⟩
  | _, _, .cons h r, i + 1, d, e => r.at (i := i) e
theorem Reps.append : ∀ {vs ws : List Value} {ds es : List D}, Reps prog w k vs ds → Reps prog w k ws es → Reps prog w k (vs ++ ws) (ds ++ es)
  | _, _, _, _, .nil, y => y
  | _, _, _, _, .cons h r, y => .cons h (r.append y)
theorem Reps.take : ∀ {vs : List Value} {ds : List D}, Reps prog w k vs ds → ∀ n, Reps prog w k (vs.take n) (ds.take n)
  | _, _, _, 0 => by simpa using Reps.nil
  | _, _, .nil, n + 1 => .nil
  | _, _, .cons h r, n + 1 => .cons h (r.take n)
theorem Reps.drop : ∀ {vs : List Value} {ds : List D}, Reps prog w k vs ds → ∀ n, Reps prog w k (vs.drop n) (ds.drop n)
  | _, _, x, 0 => x
  | _, _, .nil, n + 1 => .nil
  | _, _, .cons h r, n + 1 => r.drop n
theorem Reps.set : ∀ {vs : List Value} {ds : List D}, Reps prog w k vs ds → ∀ (n : Nat) {v : Value} {d : D}, Rep prog w k v d → Reps prog w k (vs.set n v) (ds.set n d)
  | _, _, .nil, _, _, _, _ => .nil
  | _, _, .cons h r, 0, _, _, y => .cons y r
  | _, _, .cons h r, n + 1, _, _, y => .cons h (r.set n y)
theorem Reps.erase : ∀ {vs : List Value} {ds : List D}, Reps prog w k vs ds → ∀ (n : Nat), Reps prog w k (vs.eraseIdx n) (ds.eraseIdx n)
  | _, _, .nil, _ => .nil
  | _, _, .cons h r, 0 => r
  | _, _, .cons h r, n + 1 => .cons h (r.erase n)
theorem Reps.one {v : Value} {d : D} (h : Rep prog w k v d) : Reps prog w k [v] [d] := .cons h .nil
theorem Reps.ints {vs : List Value} : ∀ {ns : List Int}, Reps prog w k vs (ns.map .int) → IntsAre vs ns := by
  intro ns
  induction ns generalizing vs with
  | nil => intro h; cases h; exact .nil
  | cons n r ih =>
    intro h
    cases h with
    | cons a b => cases a; exact .cons _ _ (ih b)
theorem Reps.of_ints {vs : List Value} {ns : List Int} (h : IntsAre vs ns) : Reps prog w k vs (ns.map .int) := by
  induction h with
  | nil => exact .nil
  | cons _ _ _ ih => exact .cons .int ih
theorem Reps.strs {vs : List Value} : ∀ {ns : List Str}, Reps prog w k vs (ns.map .str) → StrsAre vs ns := by
  intro ns
  induction ns generalizing vs with
  | nil => intro h; cases h; exact .nil
  | cons n r ih =>
    intro h
    cases h with
    | cons a b => cases a; exact .cons _ _ (ih b)
/-- what a list is, read off its representation -/
theorem Rep.list {v : Value} {ds : List D} (h : Rep prog w k v (.lst ds)) : ∃ a vs n, v = .ref a ∧ k a = some (LO vs n) ∧ Reps prog w k vs ds := by
  cases h with
  | lst e r => exact ⟨_, _, _, rfl, e, r⟩
theorem Rep.tuple {v : Value} {ds : List D} (h : Rep prog w k v (.tup ds)) : ∃ a vs n, v = .ref a ∧ k a = some (TO vs n) ∧ Reps prog w k vs ds := by
  cases h with
  | tup e r => exact ⟨_, _, _, rfl, e, r⟩
theorem Rep.dict {v : Value} {ds : List (Int × Int)} (h : Rep prog w k v (.dct ds)) : ∃ a o kvs, v = .ref a ∧ k a = some o ∧ DictO prog w kvs o ∧ IntVals kvs ds ∧ (a == sysModules) = false := by
  cases h with
  | dct e r i hs => exact ⟨_, _, _, rfl, e, r, i, hs⟩
theorem Rep.intv {v : Value} {i : Int} (h : Rep prog w k v (.int i)) : ∃ t, v = .int i t := by cases h; exact ⟨_, rfl⟩
theorem Rep.strv {v : Value} {i : Str} (h : Rep prog w k v (.str i)) : ∃ t, v = .str i t := by cases h; exact ⟨_, rfl⟩
end
theorem LO.isList {h : Heap} {a : Addr} {vs : List Value} {n : Nat} (e : h.get? a = some (LO vs n)) : h.IsList a vs.toArray := ⟨_, e, rfl, n, rfl⟩
theorem TO.isTuple {h : Heap} {a : Addr} {vs : List Value} {n : Nat} (e : h.get? a = some (TO vs n)) : h.IsTuple a vs.toArray := ⟨_, e, rfl, n, rfl⟩
theorem TO.isTup {h : Heap} {a : Addr} {vs : List Value} {n : Nat} (e : h.get? a = some (TO vs n)) : IsTup h a vs.toArray := ⟨_, e, rfl, n, rfl⟩
theorem LO.plain {h : Heap} {a : Addr} {vs : List Value} {n : Nat} (e : h.get? a = some (LO vs n)) : h.PlainList a vs.toArray := ⟨n, e⟩
theorem DictO.dictOf {prog : Program} {w : World} {h : Heap} {a : Addr} {o : Obj} {kvs : List (Int × Value)} (e : h.get? a = some o) (x : DictO prog w kvs o) : h.DictOf (intKind prog w) a kvs := by
  obtain ⟨es, ep, a1, a2, a3, a4, a5⟩ := x
  exact ⟨o, es, ep, e, a1, a2, a3, a4, a5⟩
theorem DictO.of {prog : Program} {w : World} {h : Heap} {a : Addr} {kvs : List (Int × Value)} (x : h.DictOf (intKind prog w) a kvs) : ∃ o, h.get? a = some o ∧ DictO prog w kvs o := by
  obtain ⟨o, es, ep, e, a1, a2, a3, a4, a5⟩ := x
  exact ⟨o, e, es, ep, a1, a2, a3, a4, a5⟩
/-- a list of the ledger's -/
theorem Sat.lst {prog : Program} {w : World} {κ fr : Know} {L : Addr} {m : Loc} {own : List (Addr × Res)} {h : Heap} (S : Sat prog w κ fr L m own h) {a : Addr} {vs : List Value} (hm : (a, Res.lst vs) ∈ own) : ∃ n, h.get? a = some (LO vs n) := by
  obtain ⟨o, e, n, rfl⟩ := S.at hm
  exact ⟨n, e⟩

/-! ## items -/
noncomputable def TyH (h : Heap) (v : Value) (T : String) : Prop := ({ heap := h } : Shared).TypeIs v T
theorem TyH.to {h : Heap} {v : Value} {T : String} (x : TyH h v T) (s : Shared) (e : s.heap = h) : s.TypeIs v T := by
  subst e
  cases v <;> exact x
theorem TyH.ref {h : Heap} {a : Addr} {o : Obj} {T : String} (e : h.get? a = some o) (c : o.cls = .type T) : TyH h (.ref a) T := ⟨o, e, c⟩
theorem TyH.str {h : Heap} {x : Str} {t : Tok} : TyH h (.str x t) "str" := rfl
/-- o[i], o of a type of the library -/
inductive GetQ (prog : Program) (w : World) (A : Around) (o i : Value) (h : Heap) (P : Value → Heap → Prop) : Prop
  | mk (T id : String) (ty : TyH h o T) (l : typeLookup (.type T) "__getitem__" = pure (some (.builtin id))) (q : WP prog w A (getItem o i) h P)
theorem sub_ops (slice : Expr) (o i : Value) : ∃ ops, subscripted slice false o i = operate ops (getItem o i) := by
  unfold subscripted
  split
  · exact ⟨_, rfl⟩
  · contradiction
  · exact ⟨_, rfl⟩
section
variable {prog : Program} {w : World} {A : Around} {env : Env} {h : Heap}
variable {P : Value → Heap → Prop} {PU : Unit → Heap → Prop}
theorem e_sub {value slice : Expr} {pos : Pos} (q : WP prog w A (eval value env) h fun o h₁ => WP prog w A (eval slice env) h₁ fun i h₂ => GetQ prog w A o i h₂ P) :
    WP prog w A (eval (.Subscript value slice pos) env) h P :=
  fun gs dr tk os => Subscript_ (run (q gs dr tk os) (fun o h' tk' p => by
    exact run (p gs dr tk' os) (fun i h' tk' p => by
      obtain ⟨T, id, hT, hl, p⟩ := p
      obtain ⟨ops, he⟩ := sub_ops slice o i
      exact tail_any (hT.to _ rfl) hl (p gs dr tk' os) he) fun _ _ e => e) fun _ _ e => e)
theorem g_list {a : Addr} {vs : List Value} {n : Nat} {i : Int} {t : Tok} {x : Value} (e : h.get? a = some (LO vs n)) (h0 : 0 ≤ i) (hx : vs[i.toNat]? = some x) (hf : i < 2 ^ 63) (q : P x h) :
    GetQ prog w A (.ref a) (.int i t) h P :=
  ⟨"list", _, TyH.ref e rfl, slot_list_getitem.lookup, .of fun Q E gs dr tk os c => wpAny_getItem_list (LO.isList e) h0 hf (by simpa using hx) (c _ _ _ q)⟩
theorem gi_list {a : Addr} {vs : List Value} {n : Nat} {i : Int} {t : Tok} {x : Value} (e : h.get? a = some (LO vs n)) (h0 : 0 ≤ i) (hx : vs[i.toNat]? = some x) (hf : i < 2 ^ 63) (q : P x h) :
    WP prog w A (getItem (.ref a) (.int i t)) h P := .of fun Q E gs dr tk os c => wpAny_getItem_list (LO.isList e) h0 hf (by simpa using hx) (c _ _ _ q)
theorem g_tuple {a : Addr} {vs : List Value} {n : Nat} {i : Int} {t : Tok} {x : Value} (e : h.get? a = some (TO vs n)) (h0 : 0 ≤ i) (hx : vs[i.toNat]? = some x) (hf : i < 2 ^ 63) (q : P x h) :
    GetQ prog w A (.ref a) (.int i t) h P := by
  refine ⟨"tuple", _, TyH.ref e rfl, F.slot_tuple_getitem.lookup, .of fun Q E gs dr tk os c => PyProof.Rows.getItem_tuple (TO.isTup e) (by omega) hf (j := i.toNat) ?_ (by simpa using hx) (c _ _ _ q)⟩
  have hl : i.toNat < vs.length := by
    rcases Nat.lt_or_ge i.toNat vs.length with x | x
    · exact x
    · rw [List.getElem?_eq_none x] at hx; cases hx
  unfold seqIndex?
  have hi : ¬ i < 0 := by omega
  simp only [List.size_toArray]
  rw [if_neg hi]
  first | (rw [if_neg (by omega)]; done) | (rw [if_pos (by omega)]; done) | simp <;> omega
/-- an item of a list that is known -/
theorem r_list {k : Know} {v : Value} {ds : List D} {i : Int} {t : Tok} {d : D} (hk : Sub k h) (r : Rep prog w k v (.lst ds)) (h0 : 0 ≤ i) (hx : ds[i.toNat]? = some d) (hf : i < 2 ^ 63) (q : ∀ x, Rep prog w k x d → P x h) :
    GetQ prog w A v (.int i t) h P := by
  obtain ⟨a, vs, n, rfl, e, rs⟩ := r.list
  obtain ⟨x, hv, rx⟩ := rs.get hx
  exact g_list (hk _ _ e) h0 hv hf (q x rx)
theorem r_tuple {k : Know} {v : Value} {ds : List D} {i : Int} {t : Tok} {d : D} (hk : Sub k h) (r : Rep prog w k v (.tup ds)) (h0 : 0 ≤ i) (hx : ds[i.toNat]? = some d) (hf : i < 2 ^ 63) (q : ∀ x, Rep prog w k x d → P x h) :
    GetQ prog w A v (.int i t) h P := by
  obtain ⟨a, vs, n, rfl, e, rs⟩ := r.tuple
  obtain ⟨x, hv, rx⟩ := rs.get hx
  exact g_tuple (hk _ _ e) h0 hv hf (q x rx)
end

/-! ## lists of the ledger's -/
section
variable {prog : Program} {w : World} {A : Around} {env : Env} {h : Heap}
variable {P : Value → Heap → Prop} {PU : Unit → Heap → Prop} {κ fr : Know} {L : Addr} {m : Loc} {own own' : List (Addr × Res)}
theorem set_list {a : Addr} {vs : List Value} {i : Int} {t : Tok} {v : Value} (S : Sat prog w κ fr L m own h) (U : OwnUpd a (.lst vs) (.lst (vs.set i.toNat v)) own own') (h0 : 0 ≤ i) (hn : i.toNat < vs.length) (hf : i < 2 ^ 63)
    (q : ∀ h', Sat prog w κ fr L m own' h' → PU () h') : WP prog w A (setItem (.ref a) (.int i t) v) h PU := by
  obtain ⟨n, e⟩ := S.lst U.mem
  refine .of fun Q E gs dr tk os c => ki_setAt (items := vs.toArray) (n := n) (s := ⟨h, gs, dr, tk, os⟩) e h0 hf (by simpa using (by omega : i < vs.length)) ?_
  refine c _ _ _ (q _ (S.update U (Heap.SameBut.update ..) (Heap.get?_update_self _ e ?_) ?_))
  · unfold Obj.mapSeq LO; rfl
  · refine ⟨n, ?_⟩
    unfold Obj.mapSeq LO
    simp
theorem append_list {a : Addr} {vs : List Value} {v : Value} (S : Sat prog w κ fr L m own h) (U : OwnUpd a (.lst vs) (.lst (vs ++ [v])) own own') (hn : vs.length ≤ 10000)
    (q : ∀ h', Sat prog w κ fr L m own' h' → P .none h') : WP prog w A (call (.builtin "list.append") [.ref a, v] []) h P := by
  obtain ⟨n, e⟩ := S.lst U.mem
  refine .of fun Q E gs dr tk os c => wpAny_list_append_plain (LO.plain e) (fun h' ⟨n', e'⟩ hs => c _ _ _ (q h' (S.update U hs e' ⟨n', ?_⟩))) (by simp; rw [sizeLine_eq]; omega)
  simp
end
end Mine
end

section
set_option maxRecDepth 100000
set_option Elab.async false
set_option linter.unusedVariables false
set_option autoImplicit false
namespace Mine
open PySem PySem.Calls PySem.W PyProof.Rows

section
variable {prog : Program} {w : World} {A : Around} {env : Env} {h : Heap}
variable {P : Value → Heap → Prop} {PU : Unit → Heap → Prop} {κ fr : Know} {L : Addr} {m : Loc} {own own' : List (Addr × Res)}

/-! ## a method of a built-in type -/
theorem e_meth {T id : String} {name : Str} {o : Expr} {args : List Expr} {apos pos : Pos} (pa : PlainAttrs T) (slot : Slot T name id) (hty : typeOf (.builtin id) = pure (.type "method_descriptor"))
    (q : WP prog w A (eval o env) h fun ov h₁ => TyH h₁ ov T ∧ (∀ a, ov = .ref a → ∃ ob, h₁.get? a = some ob ∧ ob.dict = none) ∧ WPs prog w A env args [] h₁ fun vs h₂ => WP prog w A (call (.builtin id) (ov :: vs) []) h₂ P)
    (hbase : attributeBase o name env (eval o env) = eval o env := by rfl) (hp : plainArgs args = true := by rfl) (hlen : decide (args.length + 0 + 0 < 30) = true := by rfl)
    (hline : (apos.endLine == pos.line) = true := by rfl) : WP prog w A (eval (.Call (.Attribute o name apos) args [] pos) env) h P := fun gs dr tk os => by
  refine wpAny_Call_method hbase ?_ hline pa slot hty (wpAny_mono (q gs dr tk os) (fun ov s' ⟨h', tk', e, p⟩ => ?_) fun _ _ e => e)
  · rw [starEach_plain hp, backTo_plain, List.all_map]
    have e1 : (args.all ((fun x => !x.1) ∘ fun e => (false, eval e env))) = true := by simp
    have e2 : ((backToKw pos (keywordEach [] env)).all (fun x => x.1.isSome)) = true := rfl
    rw [e1, e2]
    exact hlen
  · subst e
    obtain ⟨hT, hd, p⟩ := p
    refine ⟨hT.to _ rfl, hd, ?_⟩
    rw [starEach_plain hp, backTo_plain]
    cases args with
    | nil =>
      exact callWith_builtin rfl (PyProof.Rows.evalArgs_none (p gs dr tk' os))
    | cons e es =>
      refine callWith_builtin (by rw [List.any_map]; simp) (evalArgs_plain (run (WPs.spliced p gs dr tk' os) (fun vs h' tk' p => ?_) fun _ _ e => e))
      exact p gs dr tk' os

/-! ## new lists -/
theorem LOp (vs : List Value) : ({ cls := .type "list", data := .seq vs.toArray } : Obj) = LO vs 0 := rfl
theorem TOp (vs : List Value) : ({ cls := .type "tuple", data := .seq vs.toArray } : Obj) = TO vs 0 := rfl
theorem own_list (S : Sat prog w κ fr L m own h) (vs : List Value) (n : Nat) : Sat prog w κ fr L m ((h.objs.size, .lst vs) :: own) (h.push (LO vs n)) := S.push (.lst vs) ⟨n, rfl⟩ rfl
/-- a new list, its items known, let go at once -/
theorem frz_list {ds : List D} {vs : List Value} {n : Nat} (S : Sat prog w κ fr L m own h) (r : Reps prog w fr vs ds) :
    ∃ fr', Know.le fr fr' ∧ Rep prog w fr' (.ref h.objs.size) (.lst ds) ∧ Sat prog w κ fr' L m own (h.push (LO vs n)) :=
  ⟨_, Know.le_ins (S.none_of (get?_size h)).2, .lst Know.ins_self (r.mono (Know.le_ins (S.none_of (get?_size h)).2)), S.fpush rfl⟩
theorem frz_tuple {ds : List D} {vs : List Value} {n : Nat} (S : Sat prog w κ fr L m own h) (r : Reps prog w fr vs ds) :
    ∃ fr', Know.le fr fr' ∧ Rep prog w fr' (.ref h.objs.size) (.tup ds) ∧ Sat prog w κ fr' L m own (h.push (TO vs n)) :=
  ⟨_, Know.le_ins (S.none_of (get?_size h)).2, .tup Know.ins_self (r.mono (Know.le_ins (S.none_of (get?_size h)).2)), S.fpush rfl⟩
/-- a list of the ledger's is let go -/
theorem frz_own {ds : List D} {vs : List Value} {a : Addr} {pre post : List (Addr × Res)} (S : Sat prog w κ fr L m own h) (e : own = pre ++ (a, .lst vs) :: post) (r : Reps prog w fr vs ds) :
    ∃ fr', Know.le fr fr' ∧ Rep prog w fr' (.ref a) (.lst ds) ∧ Sat prog w κ fr' L m (pre ++ post) h := by
  obtain ⟨o, ⟨n, rfl⟩, g, hn, S'⟩ := S.freeze e
  exact ⟨_, Know.le_ins hn, .lst Know.ins_self (r.mono (Know.le_ins hn)), S'⟩
theorem frz_dict {ds : List (Int × Int)} {kvs : List (Int × Value)} {a : Addr} {pre post : List (Addr × Res)} (S : Sat prog w κ fr L m own h) (e : own = pre ++ (a, .dct kvs) :: post) (r : IntVals kvs ds) (hs : (a == sysModules) = false) :
    ∃ fr', Know.le fr fr' ∧ Rep prog w fr' (.ref a) (.dct ds) ∧ Sat prog w κ fr' L m (pre ++ post) h := by
  obtain ⟨o, hd, g, hn, S'⟩ := S.freeze e
  exact ⟨_, Know.le_ins hn, .dct Know.ins_self hd r hs, S'⟩

/-- a + b of two lists -/
theorem add_list {a b : Addr} {vs ws : List Value} {n n' : Nat} (ea : h.get? a = some (LO vs n)) (eb : h.get? b = some (LO ws n')) (hsz : vs.length + ws.length ≤ 10000)
    (q : P (.ref h.objs.size) (h.push (LO (vs ++ ws) 0))) : WP prog w A (binaryOp .Add (.ref a) (.ref b)) h P :=
  .of fun Q E gs dr tk os c => by
    have e : vs.toArray ++ ws.toArray = (vs ++ ws).toArray := by simp
    refine concat_meets ⟨_, ea, rfl⟩ ⟨_, eb, rfl⟩ noFill_list_add seq_list_add PySem.F.slot_list_add PySem.F.entry_list_add (PySem.F.args_list_add_2 _ _) (list_addW a b vs.toArray ws.toArray n n' none none #[] #[] (by simp; rw [sizeLine_eq]; omega)) ⟨ea, eb, ?_⟩
    rw [e]
    exact c _ _ _ q
/-- [x] * n -/
theorem mul_one_list {a : Addr} {x : Value} {n : Nat} {i : Int} {t : Tok} (ea : h.get? a = some (LO [x] n)) (h0 : 0 ≤ i) (h1 : i ≤ 10000)
    (q : P (.ref h.objs.size) (h.push (LO (List.replicate i.toNat x) 0))) : WP prog w A (binaryOp .Mult (.ref a) (.int i t)) h P :=
  .of fun Q E gs dr tk os c => by
    refine wpAny_binaryOp_repeat_ref (T := "list") (U := "int") (by decide) ⟨_, ea, rfl⟩ (fun s' => typeIs_int s' i t) noFill_list_mul PySem.F.fills_int_mul PySem.F.slot_int_rmul repeat_list PySem.F.slot_int_index.lookup
      (call_meets PySem.F.slot_int_rmul (typeIs_int _ i t) PySem.F.entry_int_rmul (PySem.F.args_int_rmul_2 _ _) (int___rmul___int_list i t a [x].toArray n)
        ⟨ea, rfl, ⟨_, ea, rfl⟩, call_meets PySem.F.slot_list_mul ⟨_, ea, rfl⟩ PySem.F.entry_list_mul (PySem.F.args_list_mul_2 _ _)
          (AutoListH.list___mul___list_int_3 a [x].toArray n i t (by simp [Builtin.List.listFitsIndex]; omega) (by simp; omega) (by simp [Builtin.List.listTooLong, sizeLine]; omega))
          ⟨ea, ?_⟩⟩)
    have e : ∀ (k : Nat) (acc : Array Value), List.foldl (fun x1 x2 => x1 ++ x2) acc (List.replicate k [x].toArray) = acc ++ (List.replicate k x).toArray := by
      intro k
      induction k with
      | zero => intro acc; simp
      | succ k ih => intro acc; rw [List.replicate_succ, List.foldl_cons, ih, List.replicate_succ]; apply Array.toList_inj.mp; simp
    have e2 : (List.foldl (fun x1 x2 => x1 ++ x2) #[] (List.replicate (if ([x].toArray).isEmpty = true then 0 else i.toNat) [x].toArray)) = (List.replicate i.toNat x).toArray := by
      rw [show ([x].toArray).isEmpty = false from rfl, if_neg Bool.false_ne_true, e]; simp
    rw [e2]
    exact c _ _ _ q
/-- list(x) of a list -/
theorem copy_list {a : Addr} {vs : List Value} {n : Nat} (ea : h.get? a = some (LO vs n)) (hsz : vs.length ≤ 10000)
    (q : ∀ h' n', KeepsH h h' → h'.get? h.objs.size = some (LO vs n') → P (.ref h.objs.size) h') : WP prog w A (call (.type "list") [.ref a] []) h P :=
  .of fun Q E gs dr tk os c => call_list_seq a (.inl rfl) ea rfl rfl (fun h' c' hk hD => c _ _ _ (q h' c' hk hD)) (by simp; rw [sizeLine_eq]; omega)
theorem len_l {a : Addr} {vs : List Value} {n : Nat} (ea : h.get? a = some (LO vs n)) (hsz : vs.length ≤ 10000) (q : ∀ t, P (.int vs.length t) h) : WP prog w A (call (.builtin "len") [.ref a] []) h P :=
  .of fun Q E gs dr tk os c => call_len_list (LO.isList ea) (by simp; omega) (by have := c _ _ (tk + 1 + 1) (q (tk + 1)); simpa using this)
theorem len_s {x : Str} {t : Tok} (hsz : x.length ≤ 10000) (q : ∀ t', P (.int x.length t') h) : WP prog w A (call (.builtin "len") [.str x t] []) h P :=
  .of fun Q E gs dr tk os c => PyProof.Rows.len_str (by omega) (c _ _ _ (q _))
noncomputable def RO (a b : Int) (t u v : Tok) : Obj := { cls := .type "range", data := .fields #[.int a t, .int b u, .int 1 v] }
theorem range1 {i : Int} {t : Tok} (q : ∀ t u v, P (.ref h.objs.size) (h.push (RO 0 i t u v))) : WP prog w A (call (.type "range") [.int i t] []) h P :=
  .of fun Q E gs dr tk os c => call_range_1 (c _ _ _ (q _ _ _))
theorem range2 {i j : Int} {t u : Tok} (q : ∀ t u v, P (.ref h.objs.size) (h.push (RO i j t u v))) : WP prog w A (call (.type "range") [.int i t, .int j u] []) h P :=
  .of fun Q E gs dr tk os c => call_range_2 (c _ _ _ (q _ _ _))
/-- two lists of ints compared -/
theorem eq_ints {a b : Addr} {vs us : List Value} {n n' : Nat} {d : Nat} {ns ms : List Int} (lv : Lv A d) (hd : d ≤ 200) (ea : h.get? a = some (LO vs n)) (eb : h.get? b = some (LO us n')) (hi : IntsAre vs ns) (hj : IntsAre us ms) (q : P (.bool (decide (ns = ms))) h) :
    WP prog w A (compareOp .Eq (.ref a) (.ref b)) h P :=
  .of fun Q E gs dr tk os c => eq_intsK (LO.isList ea) hi (LO.isList eb) hj (by have := lv.un; unfold cLine; omega) (c _ _ _ q)
/-- xs.pop(i) -/
theorem pop_list {a : Addr} {vs : List Value} {i : Int} {t : Tok} {v : Value} (S : Sat prog w κ fr L m own h) (U : OwnUpd a (.lst vs) (.lst (vs.eraseIdx i.toNat)) own own') (h0 : 0 ≤ i) (hv : vs[i.toNat]? = some v) (hn : vs.length ≤ 10000)
    (q : ∀ h', Sat prog w κ fr L m own' h' → P v h') : WP prog w A (call (.builtin "list.pop") [.ref a, .int i t] []) h P := by
  obtain ⟨n, e⟩ := S.lst U.mem
  have hl : i.toNat < vs.length := by
    rcases Nat.lt_or_ge i.toNat vs.length with x | x
    · exact x
    · rw [List.getElem?_eq_none x] at hv; cases hv
  refine .of fun Q E gs dr tk os c => ?_
  have hk : seqIndex? i vs.toArray.size = some i.toNat := by
    unfold seqIndex?
    rw [List.size_toArray]
    have h1 : ¬ i < 0 := by omega
    have h2 : i < (vs.length : Int) := by omega
    simp [h1, h0, h2]
  refine call_meets PySem.F.slot_list_pop ⟨_, e, rfl⟩ PySem.F.entry_list_pop (PySem.F.args_list_pop_2 _ _) (PySem.MeetsSeq.list_pop_at a vs.toArray n i t i.toNat v (by simp [Builtin.List.listFitsIndex]; omega) hk (by simpa using hv) (by simp; rw [sizeLine_eq]; omega)) ⟨e, ?_⟩
  refine c _ _ _ (q _ (S.update U (Heap.SameBut.update ..) (Heap.get?_update_self _ e ?_) ?_))
  · unfold Obj.mapSeq LO; rfl
  · have e2 : vs.toArray.eraseIdxIfInBounds i.toNat = (vs.eraseIdx i.toNat).toArray := by
      unfold Array.eraseIdxIfInBounds
      rw [dif_pos (by simpa using hl)]
      apply Array.toList_inj.mp
      rw [Array.toList_eraseIdx]
    refine ⟨if (vs.eraseIdx i.toNat).length == vs.length then n else n + 1, ?_⟩
    unfold Obj.mapSeq LO
    simp only [e2, List.size_toArray]
/-- slices -/
noncomputable def SlO (l u st : Value) : Obj := { cls := .type "slice", data := .fields #[l, u, st] }
theorem e_slice {lower upper step : Option Expr} {pos : Pos} (q : WP prog w A (evalPart lower env) h fun l h₁ => WP prog w A (evalPart upper env) h₁ fun u h₂ => WP prog w A (evalPart step env) h₂ fun st h₃ => P (.ref h₃.objs.size) (h₃.push (SlO l u st))) :
    WP prog w A (eval (.Slice lower upper step pos) env) h P := fun gs dr tk os =>
  wpAny_Slice (run (q gs dr tk os) (fun l h' tk' p => run (p gs dr tk' os) (fun l h' tk' p => run (p gs dr tk' os) (fun l h' tk' p => ⟨_, _, rfl, p⟩) fun _ _ e => e) fun _ _ e => e) fun _ _ e => e)
theorem p_none (q : P .none h) : WP prog w A (evalPart none env) h P := .of fun Q E gs dr tk os c => wpAny_evalPart_none (c _ _ _ q)
theorem p_some {e : Expr} (q : WP prog w A (eval e env) h P) : WP prog w A (evalPart (some e) env) h P := fun gs dr tk os => wpAny_evalPart_some (q gs dr tk os)
theorem slice_list {a sl : Addr} {vs : List Value} {n : Nat} {vl vu vt : Value} {lo hi st : Option Int} (ea : h.get? a = some (LO vs n)) (es : h.get? sl = some (SlO vl vu vt)) (pl : IsPart vl lo) (pu : IsPart vu hi) (ps : IsPart vt st) (h0 : st ≠ some 0) (hsz : vs.length ≤ 10000)
    (q : P (.ref h.objs.size) (h.push (LO (slicePick vs.toArray lo hi st).toList 0))) :
    GetQ prog w A (.ref a) (.ref sl) h P :=
  ⟨"list", _, TyH.ref ea rfl, slot_list_getitem.lookup, .of fun Q E gs dr tk os c => wpAny_getItem_list_slice (LO.isList ea) ⟨_, es, rfl, rfl⟩ pl pu ps h0 (c _ _ _ q) (by simp; rw [sizeLine_eq]; omega)⟩
theorem slice_str {x : Str} {t : Tok} {sl : Addr} {l u st : Option (Int × Tok)} (es : h.get? sl = some (SlO (partValue l) (partValue u) (partValue st))) (h0 : ((st.map (·.1)).getD 1 == 0) = false)
    (q : ∀ (Q : Value → Shared → Prop) (s : Shared), s.heap = h → (∀ v tk, P v h → Q v { s with toks := tk }) → (sliceMade x t l u st).post Q s) :
    GetQ prog w A (.str x t) (.ref sl) h P :=
  ⟨"str", _, TyH.str, PySem.F.slot_str_getitem.lookup, .of fun Q E gs dr tk os c => wpAny_getItem_str_slice ⟨_, es, rfl, rfl⟩ h0 (q _ _ rfl fun v tk p => c _ _ _ p)⟩
end
end Mine
end

section
set_option maxRecDepth 100000
set_option Elab.async false
set_option linter.unusedVariables false
set_option autoImplicit false
namespace Mine
open PySem PySem.Calls PySem.W PyProof.Rows

section
variable {prog : Program} {w : World} {A : Around} {env : Env} {h : Heap}
variable {P : Value → Heap → Prop} {PF : Flow → Heap → Prop} {κ fr : Know} {L : Addr} {m : Loc} {own own' : List (Addr × Res)}

theorem forLoop {target : Expr} {it : Value} {body : List Stmt} (I : Nat → Heap → Prop)
    (turn : ∀ n h, I n h → WP prog w A (pyNext it) h fun r h₁ => match r with
      | none => PF .next h₁
      | some v => WP prog w A (letOwnedTupleGo target it v) h₁ fun _ h₁ => WP prog w A (assign target env v) h₁ fun _ h₂ => WP prog w A (execs body env) h₂ fun f h₃ => match f with
          | .next => ∃ m, m < n ∧ I m h₃
          | .ret v => PF (.ret v) h₃
          | _ => False)
    (n : Nat) (q : I n h) : WPC prog w A (.forLoop target it body [] env) h PF := by
  intro gs dr tk os
  refine codeAny_forLoop_any (fun n => Post (fun (_ : Unit) h => I n h) gs dr os ()) ?_ n ⟨h, tk, rfl, q⟩
  rintro n s ⟨h', tk', rfl, hI⟩
  refine run (turn n h' hI gs dr tk' os) (fun r h₁ tk₁ p => ?_) fun _ _ e => e.elim
  cases r with
  | none => exact wpAny_execs_nil ⟨h₁, tk₁, rfl, p⟩
  | some v =>
    refine run (p gs dr tk₁ os) (fun _ h₂ tk₂ p => ?_) fun _ _ e => e.elim
    refine run (p gs dr tk₂ os) (fun _ h₂ tk₂ p => ?_) fun _ _ e => e.elim
    refine run (p gs dr tk₂ os) (fun f h₃ tk₃ p => ?_) fun _ _ e => e.elim
    cases f with
    | next => obtain ⟨k, hk, hI⟩ := p; exact ⟨k, hk, h₃, tk₃, rfl, hI⟩
    | ret v => exact ⟨h₃, tk₃, rfl, p⟩
    | brk => exact p.elim
    | cont => exact p.elim

theorem x_for0 {target iter : Expr} {body rest : List Stmt} {pos : Pos} (q : WP prog w A (eval iter env) h fun x h₁ => WP prog w A (pyIter x) h₁ fun it h₂ => WPC prog w A (.forLoop target it body [] env) h₂ (Nxt prog w A env rest PF))
    (hs : ∀ x, foldedSetIterable iter env x = pure x := by intro _; rfl) : WP prog w A (execs (.For target iter body [] pos :: rest) env) h PF :=
  x_cons fun gs dr tk os => wpAny_For (hs := hs) (run (q gs dr tk os) (fun x h₁ tk₁ p => by
    exact run (p gs dr tk₁ os) (fun it h₂ tk₂ p => by
      refine codeAny_mono (p gs dr tk₂ os) fun r s' y => ?_
      cases r with
      | error e => exact y.elim
      | ok v => exact y) fun _ _ e => e) fun _ _ e => e)

/-- what a turn of a loop leaves -/
inductive TurnQ (prog : Program) (w : World) (κ fr : Know) (L I : Addr) (o : Obj) (J : Loc → Know → List (Addr × Res) → Prop) (h : Heap) : Prop
  | mk (m' : Loc) (fr' : Know) (own' : List (Addr × Res)) (le : Know.le fr fr') (j : J m' fr' own') (S : Sat prog w κ fr' L m' ((I, .obj o) :: own') h)
noncomputable def TurnP (prog : Program) (w : World) (κ fr : Know) (L I : Addr) (o : Obj) (J : Loc → Know → List (Addr × Res) → Prop) (PF : Flow → Heap → Prop) (f : Flow) (h : Heap) : Prop := match f with
  | .next => TurnQ prog w κ fr L I o J h
  | .ret v => PF (.ret v) h
  | _ => False
/-- an iterator's object has moved, nothing else -/
theorem Sat.moved {h' : Heap} {I : Addr} {o o' : Obj} (S : Sat prog w κ fr L m ((I, .obj o) :: own) h) (ho' : h'.get? I = some o') (hk : ∀ b ob, b ≠ I → h.get? b = some ob → h'.get? b = some ob) : Sat prog w κ fr L m ((I, .obj o') :: own) h' := by
  obtain ⟨⟨oo, hoo, hoe⟩, k1, k2, k3⟩ := S.hown (I, .obj o) (.head _)
  have nd := S.nd
  rw [List.map_cons, List.nodup_cons] at nd
  refine ⟨fun a ob e => hk a ob (by rintro rfl; rw [k1] at e; cases e) (S.base a ob e), fun a ob e => ⟨hk a ob (by rintro rfl; rw [k2] at e; cases e) (S.frz a ob e).1, (S.frz a ob e).2⟩,
    S.ns.at' fun ob e => hk _ ob (Ne.symm k3) e, S.kL, fun p hp => ?_, ?_⟩
  · rcases List.mem_cons.mp hp with rfl | hp
    · exact ⟨⟨o', ho', rfl⟩, k1, k2, k3⟩
    · obtain ⟨⟨ob, e, r⟩, x⟩ := S.hown p (.tail _ hp)
      exact ⟨⟨ob, hk _ _ (fun e => nd.1 (List.mem_map.mpr ⟨p, hp, e⟩)) e, r⟩, x⟩
  · rw [List.map_cons, List.nodup_cons]; exact nd
theorem Sat.goneI {h' : Heap} {I : Addr} {o : Obj} (S : Sat prog w κ fr L m ((I, .obj o) :: own) h) (hk : ∀ b ob, b ≠ I → h.get? b = some ob → h'.get? b = some ob) : Sat prog w κ fr L m own h' := by
  obtain ⟨⟨oo, hoo, hoe⟩, k1, k2, k3⟩ := S.hown (I, .obj o) (.head _)
  have nd := S.nd
  rw [List.map_cons, List.nodup_cons] at nd
  refine ⟨fun a ob e => hk a ob (by rintro rfl; rw [k1] at e; cases e) (S.base a ob e), fun a ob e => ⟨hk a ob (by rintro rfl; rw [k2] at e; cases e) (S.frz a ob e).1, (S.frz a ob e).2⟩,
    S.ns.at' fun ob e => hk _ ob (Ne.symm k3) e, S.kL, fun p hp => ?_, nd.2⟩
  obtain ⟨⟨ob, e, r⟩, x⟩ := S.hown p (.tail _ hp)
  exact ⟨⟨ob, hk _ _ (fun e => nd.1 (List.mem_map.mpr ⟨p, hp, e⟩)) e, r⟩, x⟩

theorem loop_core {target : Expr} {body : List Stmt} {I : Addr} {fp : List Addr} {n : Nat} {Pv : Nat → Value → Heap → Prop} {St : Nat → Heap → Prop} {m₀ : Loc} {fr₀ : Know} {own₀ : List (Addr × Res)} {o₀ : Obj}
    (hfp : ∀ b ∈ fp, b = I ∨ (∃ o, κ b = some o) ∨ (∃ o, fr₀ b = some o)) (hst : St 0 h) (hIt : ∀ i h, St i h → ∃ o, h.get? I = some o)
    (frame : ∀ i h h', St i h → (∀ b ∈ fp, ∀ o, h.get? b = some o → h'.get? b = some o) → St i h')
    (step : ∀ i h, i < n → St i h → WP prog w A (pyNext (.ref I)) h fun r h₁ => ∃ v, r = some v ∧ WP prog w A (letOwnedTupleGo target (.ref I) v) h₁ fun _ h₂ => Pv i v h₂ ∧ St (i + 1) h₂ ∧ ∀ b o, b ≠ I → h.get? b = some o → h₂.get? b = some o)
    (fin : ∀ h, St n h → WP prog w A (pyNext (.ref I)) h fun r h₁ => r = none ∧ ∀ b o, b ≠ I → h.get? b = some o → h₁.get? b = some o)
    (S₀ : Sat prog w κ fr₀ L m₀ ((I, .obj o₀) :: own₀) h) (J : Nat → Loc → Know → List (Addr × Res) → Prop) (hj : J 0 m₀ fr₀ own₀)
    (turn : ∀ i v m fr own o h₁, i < n → Pv i v h₁ → J i m fr own → Know.le fr₀ fr → Sat prog w κ fr L m ((I, .obj o) :: own) h₁ →
      WP prog w A (assign target env v) h₁ fun _ h₂ => WP prog w A (execs body env) h₂ (TurnP prog w κ fr L I o (J (i + 1)) PF))
    (done : ∀ m fr own h', J n m fr own → Know.le fr₀ fr → Sat prog w κ fr L m own h' → PF .next h') : WPC prog w A (.forLoop target (.ref I) body [] env) h PF := by
  refine forLoop (fun k h => ∃ i m fr own o, k = n - i ∧ i ≤ n ∧ St i h ∧ J i m fr own ∧ Know.le fr₀ fr ∧ Sat prog w κ fr L m ((I, .obj o) :: own) h) ?_ n ⟨0, m₀, fr₀, own₀, o₀, rfl, Nat.zero_le _, hst, hj, Know.le.refl _, S₀⟩
  rintro k h ⟨i, m, fr, own, o, rfl, hi, hst, hJ, hle, S⟩
  by_cases hlt : i < n
  · refine (step i h hlt hst).mono fun r h₁ y => ?_
    obtain ⟨v, rfl, y⟩ := y
    refine y.mono fun _ h' y => ?_
    obtain ⟨hP, hst', hk⟩ := y
    obtain ⟨o', ho'⟩ := hIt _ _ hst'
    refine (turn i v m fr own o' h' hlt hP hJ hle (S.moved ho' hk)).mono fun _ h₂ y => y.mono fun f h₃ z => ?_
    cases f with
    | next =>
      obtain ⟨m', fr', own', hle', hJ', S'⟩ := z
      refine ⟨n - (i + 1), by omega, i + 1, m', fr', own', o', rfl, hlt, ?_, hJ', hle.trans hle', S'⟩
      refine frame _ _ _ hst' fun b hb ob e => ?_
      rcases hfp b hb with rfl | ⟨ob', x⟩ | ⟨ob', x⟩
      · obtain ⟨o3, e3, e4⟩ := S'.at (.head _)
        cases e4
        rw [ho'] at e; cases e; exact e3
      · have e1 := (S.moved ho' hk).base _ _ x
        rw [e1] at e; cases e; exact S'.base _ _ x
      · have e1 := ((S.moved ho' hk).frz _ _ (hle _ _ x)).1
        rw [e1] at e; cases e; exact (S'.frz _ _ (hle' _ _ (hle _ _ x))).1
    | ret v => exact z
    | brk => exact z
    | cont => exact z
  · have hn : i = n := by omega
    subst hn
    refine (fin h hst).mono fun r h' y => ?_
    obtain ⟨rfl, hk⟩ := y
    exact done m fr own h' hJ hle (S.goneI hk)
theorem loop_walk {target : Expr} {body : List Stmt} {I : Addr} {fp : List Addr} {n : Nat} {Pv : Nat → Value → Prop} {St : Nat → Heap → Prop} {m₀ : Loc} {fr₀ : Know} {own₀ : List (Addr × Res)} {o₀ : Obj}
    (W : Walks prog w A I fp [I] n Pv St) (hfp : ∀ b ∈ fp, b = I ∨ (∃ o, κ b = some o) ∨ (∃ o, fr₀ b = some o)) (hst : St 0 h) (hIt : ∀ i h, St i h → ∃ o, h.get? I = some o)
    (hlet : ∀ i v h, Pv i v → St (i + 1) h → WP prog w A (letOwnedTupleGo target (.ref I) v) h fun _ h' => h' = h)
    (S₀ : Sat prog w κ fr₀ L m₀ ((I, .obj o₀) :: own₀) h) (J : Nat → Loc → Know → List (Addr × Res) → Prop) (hj : J 0 m₀ fr₀ own₀)
    (turn : ∀ i v m fr own o h₁, i < n → Pv i v → J i m fr own → Know.le fr₀ fr → Sat prog w κ fr L m ((I, .obj o) :: own) h₁ →
      WP prog w A (assign target env v) h₁ fun _ h₂ => WP prog w A (execs body env) h₂ (TurnP prog w κ fr L I o (J (i + 1)) PF))
    (done : ∀ m fr own h', J n m fr own → Know.le fr₀ fr → Sat prog w κ fr L m own h' → PF .next h') : WPC prog w A (.forLoop target (.ref I) body [] env) h PF := by
  refine loop_core (Pv := fun i v _ => Pv i v) hfp hst hIt W.frame ?_ ?_ S₀ J hj turn done
  · intro i h hi st
    refine .of fun Q E gs dr tk os c => W.item i _ _ _ hi st fun v h' tk' hP st' hk => c _ _ _ ⟨v, rfl, (hlet i v h' hP st').mono fun _ h'' e => ?_⟩
    subst e
    exact ⟨hP, st', fun b o hb e => hk b o (by simpa using hb) e⟩
  · intro h st
    exact .of fun Q E gs dr tk os c => W.done _ _ _ st fun h' tk' hk => c _ _ _ ⟨rfl, fun b o hb e => hk b o (by simpa using hb) e⟩
/-- the loop's own look at its target: nothing for a name, a look at the iterator for a tuple -/
theorem let_list {target : Expr} {I a : Addr} {i : Nat} {v : Value} {PU : Unit → Heap → Prop} (hit : h.IsListIter I a i) (q : PU () h) : WP prog w A (letOwnedTupleGo target (.ref I) v) h PU := by
  obtain ⟨o, ho, hc, hd⟩ := hit
  refine .of fun Q E gs dr tk os c => ?_
  unfold letOwnedTupleGo
  cases target <;> first | exact wpAny_pure (c _ _ _ q) | skip
  all_goals
    cases v <;> first | exact wpAny_pure (c _ _ _ q) | skip
  all_goals
    refine wpAny_bind (wpAny_load ho ?_)
    rw [hc, hd]
    exact wpAny_pure (c _ _ _ q)

inductive ListQ (prog : Program) (w : World) (A : Around) (env : Env) (κ : Know) (L : Addr) (target : Expr) (body rest : List Stmt) (J : Nat → Loc → Know → List (Addr × Res) → Prop) (PF : Flow → Heap → Prop) (x : Value) (h₁ : Heap) : Prop
  | mk (kn : Know) (ds : List D) (fr : Know) (m : Loc) (own : List (Addr × Res)) (r : Rep prog w kn x (.lst ds)) (hkn : kn = κ ∨ kn = fr) (S : Sat prog w κ fr L m own h₁) (hj : J 0 m fr own)
      (turn : ∀ i I d v m fr' own o h₁, ds[i]? = some d → Rep prog w kn v d → J i m fr' own → Know.le fr fr' → Sat prog w κ fr' L m ((I, .obj o) :: own) h₁ →
        WP prog w A (assign target env v) h₁ fun _ h₂ => WP prog w A (execs body env) h₂ (TurnP prog w κ fr' L I o (J (i + 1)) (Nxt prog w A env rest PF)))
      (done : ∀ m fr' own h', J ds.length m fr' own → Know.le fr fr' → Sat prog w κ fr' L m own h' → WP prog w A (execs rest env) h' PF)
inductive RangeQ (prog : Program) (w : World) (A : Around) (env : Env) (κ : Know) (L : Addr) (target : Expr) (body rest : List Stmt) (J : Nat → Loc → Know → List (Addr × Res) → Prop) (PF : Flow → Heap → Prop) (x : Value) (h₁ : Heap) : Prop
  | mk (fr : Know) (m : Loc) (own : List (Addr × Res)) (r : Addr) (a b : Int) (t u v : Tok) (ex : x = .ref r) (er : h₁.get? r = some (RO a b t u v)) (ha : -(10000 : Int) ≤ a) (ha' : a ≤ 10000) (hb : -(10000 : Int) ≤ b) (hb' : b ≤ 10000) (S : Sat prog w κ fr L m own h₁) (hj : J 0 m fr own)
      (turn : ∀ (i : Nat) I t m fr' own o h₁, a + (i : Int) < b → J i m fr' own → Know.le fr fr' → Sat prog w κ fr' L m ((I, .obj o) :: own) h₁ →
        WP prog w A (assign target env (.int (a + (i : Int)) t)) h₁ fun _ h₂ => WP prog w A (execs body env) h₂ (TurnP prog w κ fr' L I o (J (i + 1)) (Nxt prog w A env rest PF)))
      (done : ∀ m fr' own h', J (b - a).toNat m fr' own → Know.le fr fr' → Sat prog w κ fr' L m own h' → WP prog w A (execs rest env) h' PF)
/-- for x in xs, xs a list that nobody changes -/
theorem x_for_list {target iter : Expr} {body rest : List Stmt} {pos : Pos} (lv : A.handled = none) {fr₀ : Know} {m₀ : Loc} {own₀ : List (Addr × Res)} (_S₀ : Sat prog w κ fr₀ L m₀ own₀ h) (J : Nat → Loc → Know → List (Addr × Res) → Prop)
    (q : WP prog w A (eval iter env) h (ListQ prog w A env κ L target body rest J PF))
    (hs : ∀ x, foldedSetIterable iter env x = pure x := by intro _; rfl) :
    WP prog w A (execs (.For target iter body [] pos :: rest) env) h PF := by
  refine x_for0 (q.mono fun x h₁ y => ?_) hs
  obtain ⟨kn, ds, fr, m, own, r, hkn, S, hj, turn, done⟩ := y
  obtain ⟨a, vs, n, rfl, e, rs⟩ := r.list
  have hsub : Sub kn h₁ := by rcases hkn with rfl | rfl; exact S.base; exact S.fsub
  have ea := hsub _ _ e
  refine .of fun Q E gs dr tk os c => wpAny_pyIter_list (LO.isList ea) (c _ _ _ ?_)
  have hne : a ≠ h₁.objs.size := Nat.ne_of_lt (Heap.lt_size ea)
  have S' := S.push (o := { cls := .type "list_iterator", data := .fields #[.ref a, .int 0 0] }) (.obj _) rfl rfl
  have W := Walks.list (prog := prog) (w := w) lv h₁.objs.size a hne vs.toArray
  have hlen : vs.toArray.size = ds.length := by rw [List.size_toArray]; exact rs.length
  rw [hlen] at W
  refine loop_walk W ?_ ⟨⟨_, Heap.get?_push_size _ rfl, rfl, rfl⟩, LO.isList (Heap.get?_push_of_some _ ea)⟩ (fun i h st => by obtain ⟨⟨o, e, _⟩, _⟩ := st; exact ⟨o, e⟩) (fun i v h _ st => let_list st.1 rfl) S' J hj ?_ ?_
  · intro b hb
    rcases List.mem_cons.mp hb with rfl | hb
    · exact .inl rfl
    · rw [List.mem_singleton.mp hb]
      rcases hkn with rfl | rfl
      · exact .inr (.inl ⟨_, e⟩)
      · exact .inr (.inr ⟨_, e⟩)
  · intro i v m fr' own o h₂ hi hP hJ hle S₂
    obtain ⟨d, hd, rd⟩ := rs.at (i := i) (v := v) (by simpa using hP)
    exact turn i _ d v m fr' own o h₂ hd rd hJ hle S₂
  · intro m fr' own h' hJ hle S₂
    exact done m fr' own h' hJ hle S₂
/-- for i in range(a, b) -/
theorem x_for_range {target iter : Expr} {body rest : List Stmt} {pos : Pos} (lv : A.handled = none) {fr₀ : Know} {m₀ : Loc} {own₀ : List (Addr × Res)} (_S₀ : Sat prog w κ fr₀ L m₀ own₀ h) (J : Nat → Loc → Know → List (Addr × Res) → Prop)
    (q : WP prog w A (eval iter env) h (RangeQ prog w A env κ L target body rest J PF))
    (hs : ∀ x, foldedSetIterable iter env x = pure x := by intro _; rfl) (ht : ∀ I v, letOwnedTupleGo target (.ref I) v = pure () := by intro _ _; rfl) :
    WP prog w A (execs (.For target iter body [] pos :: rest) env) h PF := by
  refine x_for0 (q.mono fun x h₁ y => ?_) hs
  obtain ⟨fr, m, own, r, a, b, t, u, v, rfl, er, ha, ha', hb, hb', S, hj, turn, done⟩ := y
  have hn : Builtin.Range.rangeSize a b 1 = ((b - a).toNat : Int) := by
    unfold Builtin.Range.rangeSize
    simp
    omega
  refine .of fun Q E gs dr tk os c => wpAny_pyIter_range er ?_ (c _ _ _ ?_)
  · unfold Builtin.Range.small Builtin.Range.rangeFitsLong
    rw [hn]
    simp
    omega
  have S' := S.push (o := { cls := .type "range_iterator", data := .fields #[rawInt a, rawInt (Builtin.Range.rangeSize a b 1), rawInt 1] }) (.obj _) rfl rfl
  have W := (Walks.range (prog := prog) (w := w) lv h₁.objs.size a 1 (b - a).toNat).bound
  refine loop_walk W ?_ ?_ (fun i h st => ⟨_, st⟩) (fun i v h _ _ => by rw [ht]; exact .pure rfl) S' J hj ?_ ?_
  · intro b hb; exact .inl (List.mem_singleton.mp hb)
  · show IsRangeIter _ _ _ _ _
    rw [hn]; simpa using Heap.get?_push_size _ rfl
  · rintro i v m fr' own o h₂ hi ⟨_, t', rfl⟩ hJ hle S₂
    have e1 : a + (i : Int) * 1 = a + (i : Int) := by omega
    rw [e1]
    exact turn i _ t' m fr' own o h₂ (by omega) hJ hle S₂
  · intro m fr' own h' hJ hle S₂
    exact done m fr' own h' hJ hle S₂

/-! targets -/
theorem a_name {x : Str} {pos : Pos} {v : Value} {PU : Unit → Heap → Prop} (q : WP prog w A (storeName env x v) h PU) : WP prog w A (assign (.Name x pos) env v) h PU :=
  fun gs dr tk os => wpAny_assign_Name (q gs dr tk os)
/-- a, b = t -/
theorem a_tuple2 {x y : Str} {p1 p2 pos : Pos} {k : Nat} {a : Addr} {v u : Value} {n : Nat} {PU : Unit → Heap → Prop} (lv : A.handled = none) (S : Sat prog w κ fr L m own h) (e : h.get? a = some (TO [v, u] n))
    (q : ∀ h', Sat prog w κ fr L m own h' → WP prog w A (storeName env x v) h' fun _ h₂ => WP prog w A (storeName env y u) h₂ PU) :
    WP prog w A (assign (.Tuple [.Name x p1, .Name y p2] k pos) env (.ref a)) h PU := fun gs dr tk os => by
  refine wpAny_assign_Tuple lv (TO.isTuple e) rfl rfl fun h' hk => ?_
  have hS : Sat prog w κ fr L m own h' := by
    refine S.keeps fun b o e => hk b o (Nat.ne_of_lt (Heap.lt_size e)) e
  refine wpAny_assignInOrder_more (run (wpAny_assign_Name (q h' hS gs dr tk os)) (fun _ h₂ tk₂ p => ?_) fun _ _ e => e)
  refine wpAny_assignInOrder_more (wpAny_mono (wpAny_assign_Name (p gs dr tk₂ os)) (fun _ s' z => ?_) fun _ _ e => e)
  exact wpAny_assignInOrder_none z
end
end Mine
end

section
set_option maxRecDepth 100000
set_option Elab.async false
set_option linter.unusedVariables false
set_option autoImplicit false
namespace Mine
open PySem PySem.Calls PySem.W PyProof.Rows

/-! ## dicts of ints under ints -/
noncomputable def dget (ds : List (Int × Int)) (k : Int) : Option Int := (ds.find? fun p => decide (p.1 = k)).map (·.2)
noncomputable def dput (ds : List (Int × Int)) (k v : Int) : List (Int × Int) := if ds.any (fun p => decide (p.1 = k)) then ds.map (fun p => if p.1 = k then (p.1, v) else p) else ds ++ [(k, v)]
theorem IntVals.at : ∀ {kvs : List (Int × Value)} {ds : List (Int × Int)}, IntVals kvs ds → ∀ k, (∃ i t, dget ds k = some i ∧ valueAt kvs k = some (.int i t)) ∨ (dget ds k = none ∧ valueAt kvs k = none)
  | [], [], _, k => .inr ⟨rfl, rfl⟩
  | (k₁, v) :: r, (k₂, i) :: r', ⟨e, ⟨t, hv⟩, x⟩, k => by
    subst e hv
    unfold dget valueAt
    by_cases h : k₁ = k
    · exact .inl ⟨i, t, by simp [h], by simp [h]⟩
    · rcases IntVals.at x k with ⟨i', t', a, b⟩ | ⟨a, b⟩
      · exact .inl ⟨i', t', by simpa [dget, h] using a, by simpa [valueAt, h] using b⟩
      · exact .inr ⟨by simpa [dget, h] using a, by simpa [valueAt, h] using b⟩
  | [], _ :: _, x, _ => x.elim
  | _ :: _, [], x, _ => x.elim
theorem IntVals.any : ∀ {kvs : List (Int × Value)} {ds : List (Int × Int)}, IntVals kvs ds → ∀ k, (kvs.any fun kv => decide (kv.1 = k)) = ds.any fun p => decide (p.1 = k)
  | [], [], _, k => rfl
  | (k₁, v) :: r, (k₂, i) :: r', ⟨e, ⟨t, hv⟩, x⟩, k => by
    subst e
    rw [List.any_cons, List.any_cons, IntVals.any x k]
  | [], _ :: _, x, _ => x.elim
  | _ :: _, [], x, _ => x.elim
theorem IntVals.map : ∀ {kvs : List (Int × Value)} {ds : List (Int × Int)}, IntVals kvs ds → ∀ k i t, IntVals (kvs.map fun kv => if kv.1 = k then (kv.1, .int i t) else kv) (ds.map fun p => if p.1 = k then (p.1, i) else p)
  | [], [], _, k, i, t => True.intro
  | (k₁, v) :: r, (k₂, j) :: r', ⟨e, hv, x⟩, k, i, t => by
    subst e
    rw [List.map_cons, List.map_cons]
    by_cases h : k₁ = k
    · simp only [h, if_true]; exact ⟨rfl, ⟨t, rfl⟩, x.map k i t⟩
    · simp only [h, if_false]; exact ⟨rfl, hv, x.map k i t⟩
  | [], _ :: _, x, _, _, _ => x.elim
  | _ :: _, [], x, _, _, _ => x.elim
theorem IntVals.snoc : ∀ {kvs : List (Int × Value)} {ds : List (Int × Int)}, IntVals kvs ds → ∀ k i t, IntVals (kvs ++ [(k, .int i t)]) (ds ++ [(k, i)])
  | [], [], _, k, i, t => ⟨rfl, ⟨t, rfl⟩, True.intro⟩
  | (k₁, v) :: r, (k₂, j) :: r', ⟨e, hv, x⟩, k, i, t => ⟨e, hv, x.snoc k i t⟩
  | [], _ :: _, x, _, _, _ => x.elim
  | _ :: _, [], x, _, _, _ => x.elim
theorem IntVals.put {kvs : List (Int × Value)} {ds : List (Int × Int)} (x : IntVals kvs ds) (k i : Int) (t : Tok) : IntVals (stored kvs k (.int i t)) (dput ds k i) := by
  unfold stored dput
  rw [x.any]
  split
  · exact x.map k i t
  · exact x.snoc k i t
theorem IntVals.length : ∀ {kvs : List (Int × Value)} {ds : List (Int × Int)}, IntVals kvs ds → kvs.length = ds.length
  | [], [], _ => rfl
  | (k₁, v) :: r, (k₂, j) :: r', ⟨e, hv, x⟩ => by rw [List.length_cons, List.length_cons, x.length]
  | [], _ :: _, x => x.elim
  | _ :: _, [], x => x.elim
theorem IntVals.get : ∀ {kvs : List (Int × Value)} {ds : List (Int × Int)}, IntVals kvs ds → ∀ {i : Nat} {k : Int} {v : Value}, kvs[i]? = some (k, v) → ∃ j t, ds[i]? = some (k, j) ∧ v = .int j t
  | (k₁, v) :: r, (k₂, j) :: r', ⟨e, ⟨t, hv⟩, x⟩, 0, k, u, h => by cases h; subst e; exact ⟨j, t, rfl, hv⟩
  | (k₁, v) :: r, (k₂, j) :: r', ⟨e, hv, x⟩, i + 1, k, u, h => x.get (i := i) h
  | [], _ :: _, x, _, _, _, _ => x.elim
  | _ :: _, [], x, _, _, _, _ => x.elim
  | [], [], _, i, _, _, h => by simp at h
theorem is_int {prog : Program} {w : World} (k : Int) (t : Tok) : (intKind prog w).is k (.int k t) = true := by simp [intKind, Value.isInt]

section
variable {prog : Program} {w : World} {A : Around} {env : Env} {h : Heap}
variable {P : Value → Heap → Prop} {PU : Unit → Heap → Prop} {PF : Flow → Heap → Prop} {κ fr : Know} {L : Addr} {m : Loc} {own own' : List (Addr × Res)}
noncomputable def NoSys (d : Addr) : Prop := (d == sysModules) = false

theorem Sat.dct (S : Sat prog w κ fr L m own h) {a : Addr} {kvs : List (Int × Value)} (hm : (a, Res.dct kvs) ∈ own) : ∃ o, h.get? a = some o ∧ DictO prog w kvs o := S.at hm
theorem own_dict (S : Sat prog w κ fr L m own h) : Sat prog w κ fr L m ((h.objs.size, .dct []) :: own) (h.push { cls := .type "dict", data := .dict #[] }) := by
  refine S.push (.dct []) ?_ rfl
  obtain ⟨o, e, x⟩ := DictO.of (Heap.DictOf.new (knd := intKind prog w) h)
  rw [Heap.get?_push_size _ rfl] at e
  cases e; exact x
theorem d_get {a : Addr} {o : Obj} {kvs : List (Int × Value)} {ds : List (Int × Int)} {k i : Int} {t : Tok} (e : h.get? a = some o) (x : DictO prog w kvs o) (y : IntVals kvs ds) (hk : dget ds k = some i) (q : ∀ t', P (.int i t') h) :
    GetQ prog w A (.ref a) (.int k t) h P := by
  have hd := DictO.dictOf e x
  rcases y.at k with ⟨i', t', a1, a2⟩ | ⟨a1, _⟩
  · rw [hk] at a1; cases a1
    obtain ⟨es, ep, ex, _⟩ := x
    exact ⟨"dict", _, TyH.ref e ex.1, F.slot_dict_getitem.lookup, .of fun Q E gs dr tk os c => wpAny_getItem_of (knd := intKind prog w) (is_int k t) hd.mapOf a2 (c _ _ _ (q _))⟩
  · rw [hk] at a1; cases a1
theorem d_geti {a : Addr} {o : Obj} {kvs : List (Int × Value)} {ds : List (Int × Int)} {k i : Int} {t : Tok} (e : h.get? a = some o) (x : DictO prog w kvs o) (y : IntVals kvs ds) (hk : dget ds k = some i) (q : ∀ t', P (.int i t') h) : WP prog w A (getItem (.ref a) (.int k t)) h P := by
  obtain ⟨_, _, _, _, z⟩ := d_get (A := A) (t := t) e x y hk q
  exact z
theorem d_in {a : Addr} {o : Obj} {kvs : List (Int × Value)} {ds : List (Int × Int)} {k : Int} {t : Tok} (hs : NoSys a) (e : h.get? a = some o) (x : DictO prog w kvs o) (y : IntVals kvs ds) (q : P (.bool (dget ds k).isSome) h) : WP prog w A (compareOp .In (.int k t) (.ref a)) h P := by
  have hd := DictO.dictOf e x
  refine .of fun Q E gs dr tk os c => wpAny_in_of (knd := intKind prog w) (is_int k t) hs hd.mapOf (c _ _ _ ?_)
  rcases y.at k with ⟨i', t', a1, a2⟩ | ⟨a1, a2⟩
  · rw [a2]; rw [a1] at q; exact q
  · rw [a2]; rw [a1] at q; exact q
theorem d_set {a : Addr} {kvs : List (Int × Value)} {k : Int} {t : Tok} {v : Value} (S : Sat prog w κ fr L m own h) (U : OwnUpd a (.dct kvs) (.dct (stored kvs k v)) own own') (hn : kvs.length ≤ 10000)
    (q : ∀ h', Sat prog w κ fr L m own' h' → PU () h') : WP prog w A (setItem (.ref a) (.int k t) v) h PU := by
  obtain ⟨o, e, x⟩ := S.dct U.mem
  refine .of fun Q E gs dr tk os c => wpAny_setItem_pairs (knd := intKind prog w) (is_int k t) (DictO.dictOf e x) (fun h' hd hs => ?_) (by rw [sizeLine_eq]; omega)
  obtain ⟨o', e', x'⟩ := DictO.of hd
  exact c _ _ _ (q h' (S.update U hs e' x'))
theorem d_getdef {a : Addr} {o : Obj} {kvs : List (Int × Value)} {ds : List (Int × Int)} {k j : Int} {t u : Tok} (hs : NoSys a) (e : h.get? a = some o) (x : DictO prog w kvs o) (y : IntVals kvs ds) (q : ∀ t', P (.int ((dget ds k).getD j) t') h) :
    WP prog w A (call (.builtin "dict.get") [.ref a, .int k t, .int j u] []) h P := by
  have hd := DictO.dictOf e x
  refine .of fun Q E gs dr tk os c => call_meetsIn F.slot_dict_get hd.mapOf.typeIs F.entry_dict_get (F.args_dict_get_3 _ _ _) (meets_dict_get_default (intKind prog w) a (is_int k t) hs (.int j u)) ⟨_, hd.mapOf, ?_⟩
  show Q _ _
  rcases y.at k with ⟨i', t', a1, a2⟩ | ⟨a1, a2⟩
  · rw [a2]; have := q t'; rw [a1] at this; exact c _ _ _ this
  · rw [a2]; have := q u; rw [a1] at this; exact c _ _ _ this
noncomputable def ViO (T : String) (d : Addr) : Obj := { cls := .type T, data := .fields #[.ref d] }
theorem d_items {a : Addr} {o : Obj} {kvs : List (Int × Value)} (hs : NoSys a) (e : h.get? a = some o) (x : DictO prog w kvs o) (q : P (.ref h.objs.size) (h.push (ViO "dict_items" a))) : WP prog w A (call (.builtin "dict.items") [.ref a] []) h P := by
  have hd := DictO.dictOf e x
  exact .of fun Q E gs dr tk os c => call_meetsIn F.slot_dict_items hd.mapOf.typeIs F.entry_dict_items (F.args_dict_items_1 _) (meets_dict_items (intKind prog w) a hs) ⟨⟨_, hd⟩, c _ _ _ q⟩
theorem d_values {a : Addr} {o : Obj} {kvs : List (Int × Value)} (hs : NoSys a) (e : h.get? a = some o) (x : DictO prog w kvs o) (q : P (.ref h.objs.size) (h.push (ViO "dict_values" a))) : WP prog w A (call (.builtin "dict.values") [.ref a] []) h P := by
  have hd := DictO.dictOf e x
  exact .of fun Q E gs dr tk os c => call_meetsIn F.slot_dict_values hd.mapOf.typeIs F.entry_dict_values (F.args_dict_values_1 _) (meets_dict_values (intKind prog w) a hs) ⟨⟨_, hd⟩, c _ _ _ q⟩

inductive ValuesQ (prog : Program) (w : World) (A : Around) (env : Env) (κ : Know) (L : Addr) (target : Expr) (body rest : List Stmt) (J : Nat → Loc → Know → List (Addr × Res) → Prop) (PF : Flow → Heap → Prop) (x : Value) (h₁ : Heap) : Prop
  | mk (fr : Know) (m : Loc) (own : List (Addr × Res)) (v d : Addr) (o : Obj) (kvs : List (Int × Value)) (ds : List (Int × Int)) (ex : x = .ref v) (ev : h₁.get? v = some (ViO "dict_values" d)) (ed : κ d = some o) (xo : DictO prog w kvs o) (y : IntVals kvs ds) (S : Sat prog w κ fr L m own h₁) (hj : J 0 m fr own)
      (turn : ∀ (i : Nat) I k j t m fr' own o h₁, ds[i]? = some (k, j) → J i m fr' own → Know.le fr fr' → Sat prog w κ fr' L m ((I, .obj o) :: own) h₁ →
        WP prog w A (assign target env (.int j t)) h₁ fun _ h₂ => WP prog w A (execs body env) h₂ (TurnP prog w κ fr' L I o (J (i + 1)) (Nxt prog w A env rest PF)))
      (done : ∀ m fr' own h', J ds.length m fr' own → Know.le fr fr' → Sat prog w κ fr' L m own h' → WP prog w A (execs rest env) h' PF)
inductive ItemsQ (prog : Program) (w : World) (A : Around) (env : Env) (κ : Know) (L : Addr) (xk xv : Str) (body rest : List Stmt) (J : Nat → Loc → Know → List (Addr × Res) → Prop) (PF : Flow → Heap → Prop) (x : Value) (h₁ : Heap) : Prop
  | mk (fr : Know) (m : Loc) (own : List (Addr × Res)) (v d : Addr) (o : Obj) (kvs : List (Int × Value)) (ds : List (Int × Int)) (ex : x = .ref v) (ev : h₁.get? v = some (ViO "dict_items" d)) (ed : κ d = some o) (xo : DictO prog w kvs o) (y : IntVals kvs ds) (S : Sat prog w κ fr L m own h₁) (hj : J 0 m fr own)
      (turn : ∀ (i : Nat) I k j t u m fr' own o h₁, ds[i]? = some (k, j) → J i m fr' own → Know.le fr fr' → Sat prog w κ fr' L m ((I, .obj o) :: own) h₁ →
        WP prog w A (storeName env xk (.int k u)) h₁ fun _ h₂ => WP prog w A (storeName env xv (.int j t)) h₂ fun _ h₂ => WP prog w A (execs body env) h₂ (TurnP prog w κ fr' L I o (J (i + 1)) (Nxt prog w A env rest PF)))
      (done : ∀ m fr' own h', J ds.length m fr' own → Know.le fr fr' → Sat prog w κ fr' L m own h' → WP prog w A (execs rest env) h' PF)
/-- for v in d.values(), d known -/
theorem x_for_values {target iter : Expr} {body rest : List Stmt} {pos : Pos} (lv : A.handled = none) {fr₀ : Know} {m₀ : Loc} {own₀ : List (Addr × Res)} (_S₀ : Sat prog w κ fr₀ L m₀ own₀ h) (J : Nat → Loc → Know → List (Addr × Res) → Prop)
    (q : WP prog w A (eval iter env) h (ValuesQ prog w A env κ L target body rest J PF))
    (hs : ∀ x, foldedSetIterable iter env x = pure x := by intro _; rfl) (ht : ∀ I v, letOwnedTupleGo target (.ref I) v = pure () := by intro _ _; rfl) :
    WP prog w A (execs (.For target iter body [] pos :: rest) env) h PF := by
  refine x_for0 (q.mono fun x h₁ y => ?_) hs
  obtain ⟨fr, m, own, v, d, o, kvs, ds, rfl, ev, ed, x, y, S, hj, turn, done⟩ := y
  have ed' := S.base _ _ ed
  obtain ⟨ep, hat⟩ := (DictO.dictOf ed' x).dictAt
  refine .of fun Q E gs dr tk os c => wpAny_pyIter_values (knd := intKind prog w) ⟨_, ev, rfl, rfl⟩ hat (c _ _ _ ?_)
  have hne : d ≠ h₁.objs.size := Nat.ne_of_lt (Heap.lt_size ed')
  have S' := S.push (o := { cls := .type "dict_valueiterator", data := .fields #[.ref d, .int 0 0, .int kvs.length 0, .int ep 0] }) (.obj _) rfl rfl
  have W := Walks.dictValues (prog := prog) (w := w) (knd := intKind prog w) lv h₁.objs.size d hne kvs ep
  rw [y.length] at W
  refine loop_walk W ?_ ?_ (fun i h st => by obtain ⟨⟨o, e, _⟩, _⟩ := st; exact ⟨o, e⟩) (fun i v h _ _ => by rw [ht]; exact .pure rfl) S' J hj ?_ ?_
  · intro b hb
    rcases List.mem_cons.mp hb with rfl | hb
    · exact .inl rfl
    · rw [List.mem_singleton.mp hb]; exact .inr (.inl ⟨_, ed⟩)
  · refine ⟨⟨_, Heap.get?_push_size _ rfl, rfl, ?_⟩, ?_⟩
    · rw [← y.length]; rfl
    · obtain ⟨o', es, g, r⟩ := hat; exact ⟨o', es, Heap.get?_push_of_some _ g, r⟩
  · rintro i v m fr' own o h₂ hi ⟨k, hP⟩ hJ hle S₂
    obtain ⟨j, t, hd, rfl⟩ := y.get hP
    exact turn i _ k j t m fr' own o h₂ hd hJ hle S₂
  · intro m fr' own h' hJ hle S₂
    exact done m fr' own h' hJ hle S₂

/-- for k, v in d.items(), d known -/
theorem x_for_items {x1 : Nat} {xk xv : Str} {pk pv pt : Pos} {iter : Expr} {body rest : List Stmt} {pos : Pos} (lv : A.handled = none) {fr₀ : Know} {m₀ : Loc} {own₀ : List (Addr × Res)} (_S₀ : Sat prog w κ fr₀ L m₀ own₀ h) (J : Nat → Loc → Know → List (Addr × Res) → Prop)
    (q : WP prog w A (eval iter env) h (ItemsQ prog w A env κ L xk xv body rest J PF))
    (hs : ∀ x, foldedSetIterable iter env x = pure x := by intro _; rfl) :
    WP prog w A (execs (.For (.Tuple [.Name xk pk, .Name xv pv] x1 pt) iter body [] pos :: rest) env) h PF := by
  refine x_for0 (q.mono fun x h₁ y => ?_) hs
  obtain ⟨fr, m, own, v, d, o, kvs, ds, rfl, ev, ed, x, y, S, hj, turn, done⟩ := y
  have ed' := S.base _ _ ed
  obtain ⟨ep, hat⟩ := (DictO.dictOf ed' x).dictAt
  refine .of fun Q E gs dr tk os c => wpAny_pyIter_items (knd := intKind prog w) ⟨_, ev, rfl, rfl⟩ hat (c _ _ _ ?_)
  have hne : d ≠ h₁.objs.size := Nat.ne_of_lt (Heap.lt_size ed')
  have S' := S.push (o := { cls := .type "dict_itemiterator", data := .fields #[.none, .bool false, .ref d, .int 0 0, .int kvs.length 0, .int ep 0, .none, .none] }) (.obj _) rfl rfl
  refine loop_core (I := h₁.objs.size) (fp := [h₁.objs.size, d]) (n := ds.length) (St := fun i h => ∃ ok ov, IsItemIter h h₁.objs.size d i kvs.length ep ok ov ∧ h.DictAt (intKind prog w) d kvs ep)
    (Pv := fun i v h => ∃ k j t u a, ds[i]? = some (k, j) ∧ v = .ref a ∧ h.get? a = some (TO [.int k u, .int j t] 0)) ?_ ?_ ?_ ?_ ?_ ?_ S' J hj ?_ ?_
  · intro b hb
    rcases List.mem_cons.mp hb with rfl | hb
    · exact .inl rfl
    · rw [List.mem_singleton.mp hb]; exact .inr (.inl ⟨_, ed⟩)
  · refine ⟨_, _, Heap.get?_push_size _ rfl, ?_⟩
    obtain ⟨o', es, g, r⟩ := hat; exact ⟨o', es, Heap.get?_push_of_some _ g, r⟩
  · rintro i h ⟨ok, ov, e, _⟩; exact ⟨_, e⟩
  · rintro i h h' ⟨ok, ov, e, o', es, g, r⟩ hk
    exact ⟨ok, ov, hk _ (by simp) _ e, o', es, hk _ (by simp) _ g, r⟩
  · rintro i h hi ⟨ok, ov, hit, hm⟩
    have hlt : i < kvs.length := by rw [y.length]; exact hi
    obtain ⟨⟨k, v⟩, hkv⟩ : ∃ kv, kvs[i]? = some kv := ⟨_, List.getElem?_eq_getElem hlt⟩
    obtain ⟨j, t, hd, rfl⟩ := y.get hkv
    refine .of fun Q E gs dr tk os c => wpAny_pyNext_items_item hit hm hkv fun key h₁' hkey heo ht₁ hz₁ hk₁ => c _ _ _ ⟨_, rfl, ?_⟩
    obtain ⟨u, rfl⟩ := Value.isInt_shape hkey
    refine .of fun Q E gs dr tk os c => wpAny_letOwnedTupleGo_items heo fun h₂ he₂ hs₂ => c _ _ _ ?_
    replace hs₂ : Heap.SameBut _ h₁' h₂ := hs₂
    have hii : h₁.objs.size < h.objs.size := Heap.lt_size hit
    refine ⟨⟨k, j, t, u, _, hd, rfl, (hs₂.2 _ (Nat.ne_of_gt hii)).trans ht₁⟩, ⟨_, _, he₂, ?_⟩, fun b o hb e => hs₂.extBut b o hb (hk₁ b o hb e)⟩
    obtain ⟨o', es, g, r⟩ := hm
    exact ⟨o', es, hs₂.extBut _ _ hne (hk₁ _ _ hne g), r⟩
  · rintro h ⟨ok, ov, hit, hm⟩
    refine .of fun Q E gs dr tk os c => wpAny_pyNext_items_end lv (by rw [← y.length] at hit; exact hit) hm (by simp) fun h' he => c _ _ _ ⟨rfl, fun b o hb e => he b o hb e⟩
  · rintro i v m fr' own o h₂ hi ⟨k, j, t, u, a, hd, rfl, ht⟩ hJ hle S₂
    exact a_tuple2 lv S₂ ht fun h' S' => turn i _ k j t u m fr' own o h' hd hJ hle S' |>.mono fun _ _ z => z.mono fun _ _ z => z
  · intro m fr' own h' hJ hle S₂
    exact done m fr' own h' hJ hle S₂
end
end Mine
end

section
set_option maxRecDepth 100000
set_option Elab.async false
set_option linter.unusedVariables false
set_option autoImplicit false
namespace Mine
open PySem PySem.Calls PySem.W PyProof.Rows

/-! ## what stands when law is called -/
structure Ad where
  stats : Addr
  callers : Addr
  count : Addr
  bisect : Addr
  parse : Addr
  paren : Addr
  table : Addr
  ways : Addr
  pieces : Addr
  read : Addr
  due : Addr
  det : Addr
  quoted : Addr
  bisD : Value
  bisK : Value
  parD : Value
noncomputable def Ad.gl (a : Ad) : List (Str × Value) := [
  ("add_func_stats", .ref a.stats), ("add_callers", .ref a.callers), ("count_calls", .ref a.count), ("bisect_right", .ref a.bisect), ("parse229", .ref a.parse), ("_paren_depth", .ref a.paren),
  ("_law_table", .ref a.table), ("_law_ways", .ref a.ways), ("_law_pieces", .ref a.pieces), ("_law_read", .ref a.read), ("_law_due", .ref a.due), ("_law_determinant", .ref a.det), ("_quoted", .ref a.quoted)]
noncomputable def biNames : List (Str × Value) := [
  ("range", .type "range"), ("sum", .builtin "sum"), ("len", .builtin "len"), ("list", .type "list"), ("str", .type "str"), ("int", .type "int"), ("isinstance", .builtin "isinstance"), ("tuple", .type "tuple")]
/-- the words of the quoted strings' pattern -/
noncomputable def qcode : Array Nat := #[14, 8, 1, 2, 4294967295, 1, 1, 34, 0, 16, 34, 28, 22, 0, 4294967295, 7, 11, 13, 7, 21, 16, 34, 16, 92, 0, 15, 8, 6, 16, 92, 2, 15, 2, 0, 1, 16, 34, 1]
/-- the compiled pattern -/
noncomputable def PatO (k : Know) (a : Addr) : Prop := ∃ o fs cA co cv n, k a = some o ∧ o.cls = .type "re.Pattern" ∧ o.dict = none ∧ o.data = .fields fs ∧ Builtin.Re.reRawNat (fs.getD 6 .none) = 1 ∧ Builtin.Re.reRawNat (fs.getD 2 .none) = 0 ∧ fs.getD 5 .none = .ref cA ∧ k cA = some co ∧ co.data = .seq cv n ∧ (cv.map Builtin.Re.reRawOf).map (·.toNat) = qcode
theorem PatO.mono {k k' : Know} {a : Addr} (x : PatO k a) (l : Know.le k k') : PatO k' a := by
  obtain ⟨o, fs, cA, co, cv, n, e1, c1, d0, d1, k6, k2, k5, e2, d2, hc⟩ := x
  exact ⟨o, fs, cA, co, cv, n, l _ _ e1, c1, d0, d1, k6, k2, k5, l _ _ e2, d2, hc⟩
structure Base (prog : Program) (w : World) (a : Ad) (κ : Know) : Prop where
  glo : Glo κ a.gl biNames
  sysm : ∃ o, κ sysModules = some o
  lim : ∀ h, Sub κ h → h.NoLimit
  stats : ∀ h, Sub κ h → FnAt h a.stats 2 .none .none
  callers : ∀ h, Sub κ h → FnAt h a.callers 3 .none .none
  count : ∀ h, Sub κ h → FnAt h a.count 4 .none .none
  bisect : ∀ h, Sub κ h → FnAt h a.bisect 6 a.bisD a.bisK
  parse : ∀ h, Sub κ h → FnAt h a.parse 11 .none .none
  paren : ∀ h, Sub κ h → FnAt h a.paren 14 a.parD .none
  table : ∀ h, Sub κ h → FnAt h a.table 16 .none .none
  ways : ∀ h, Sub κ h → FnAt h a.ways 17 .none .none
  pieces : ∀ h, Sub κ h → FnAt h a.pieces 18 .none .none
  read : ∀ h, Sub κ h → FnAt h a.read 19 .none .none
  due : ∀ h, Sub κ h → FnAt h a.due 20 .none .none
  det : ∀ h, Sub κ h → FnAt h a.det 21 .none .none
  bisd : ∃ T n t, a.bisD = .ref T ∧ κ T = some (TO [.int 0 t, .none] n)
  bisk : ∃ T mk, a.bisK = .ref T ∧ mk ("key" : Str) = some .none ∧ ∀ h, Sub κ h → h.Ns T mk
  pard : ∃ T n t, a.parD = .ref T ∧ κ T = some (TO [.int 0 t] n)
  pat : PatO κ a.quoted
theorem Base.mono {prog : Program} {w : World} {a : Ad} {κ κ' : Know} (B : Base prog w a κ) (l : Know.le κ κ') : Base prog w a κ' := by
  have s : ∀ h, Sub κ' h → Sub κ h := fun h x a o e => x a o (l a o e)
  obtain ⟨o, e⟩ := B.sysm
  obtain ⟨T1, n1, t1, q1, w1⟩ := B.bisd
  obtain ⟨T2, mk, q2, p2, w2⟩ := B.bisk
  obtain ⟨T3, n3, t3, q3, w3⟩ := B.pard
  exact ⟨⟨fun h x => B.glo.ns h (s h x)⟩, ⟨o, l _ _ e⟩, fun h x => B.lim h (s h x), fun h x => B.stats h (s h x), fun h x => B.callers h (s h x), fun h x => B.count h (s h x), fun h x => B.bisect h (s h x), fun h x => B.parse h (s h x),
    fun h x => B.paren h (s h x), fun h x => B.table h (s h x), fun h x => B.ways h (s h x), fun h x => B.pieces h (s h x), fun h x => B.read h (s h x), fun h x => B.due h (s h x), fun h x => B.det h (s h x), ⟨T1, n1, t1, q1, l _ _ w1⟩, ⟨T2, mk, q2, p2, fun h x => w2 h (s h x)⟩, ⟨T3, n3, t3, q3, l _ _ w3⟩, B.pat.mono l⟩
theorem Base.noSysF {prog : Program} {w : World} {a : Ad} {κ : Know} (B : Base prog w a κ) {d : Addr} (e : κ d = none) : NoSys d := by
  obtain ⟨o', e'⟩ := B.sysm
  by_cases h : d = sysModules
  · subst h; rw [e'] at e; cases e
  · exact beq_eq_false_iff_ne.mpr h
theorem Base.all {prog : Program} {w : World} {a : Ad} {κ : Know} {h : Heap} (B : Base prog w a κ) (s : Sub κ h) : Base prog w a h.get? := B.mono s

/-! words for the walk: looking a name up -/
local macro_rules | `(tactic| walk_at "lk") => `(tactic| first | assumption | exact upd_self | (refine' upd_ne (by decide) ?lkE; case lkE => walk_at "lk"))

section
variable {prog : Program} {w : World} {A : Around} {h : Heap} {a : Ad} {d : Nat}
variable {P : Value → Heap → Prop}

noncomputable def sumVals (ds : List (Int × Int)) : Int := (ds.map (·.2)).sum
theorem count_calls_spec (lv : Lv A d) (hd : d ≤ 100) (B : Base prog w a h.get?) {v : Value} {ds : List (Int × Int)} (r : Rep prog w h.get? v (.dct ds))
    (q : ∀ h' t, KeepsH h h' → P (.int (sumVals ds) t) h') : WP prog w A (call (.ref a.count) [v] []) h P := by
  refine call_def (B.count h fun _ _ e => e) (B.lim h fun _ _ e => e) (lv.depth (by omega)) (binds := [("callers", v)]) (fun _ _ _ _ _ s _ => binds_of (by with_unfolding_all rfl) s) (by rfl) (fun L h₁ cd hk S => ?_) (by decide +kernel)
  have lv' := lv.deeper (fenv 4 L a.count cd)
  generalize hA : A.deeper (fenv 4 L a.count cd) = A' at lv' ⊢
  obtain ⟨ad, o, kvs, rfl, e, x, y, hs⟩ := r.dict
  dsimp only [mapOf, List.foldl_cons, List.foldl_nil] at S
  refine x_assign (e_int fun t => store S fun h₂ S => ?_)
  refine x_for_values lv'.hh S (fun i m fr own => ∃ t, m "nc" = some (.int (sumVals (ds.take i)) t) ∧ own = []) (e_meth F.plainAttrs_dict F.slot_dict_values F.type_dict_values ?_)
  refine v_local S (by walk_at "lk") ?_
  have e2 := S.base _ _ e
  refine ⟨TyH.ref e2 (by obtain ⟨_, _, z, _⟩ := x; exact z.1), fun _ z => by cases z; exact ⟨_, e2, by obtain ⟨_, _, z, _⟩ := x; exact z.2.1⟩, ?_⟩
  refine d_values hs e2 x ?_
  have S2 := S.push (.obj (ViO "dict_values" ad)) rfl rfl
  refine ⟨Know.nil, _, [], _, ad, o, kvs, ds, rfl, Heap.get?_push_size _ rfl, e, x, y, S2.drop (by simp), ⟨t, by show upd _ _ _ _ = _; simp [upd_self, sumVals], rfl⟩, ?_, ?_⟩
  · rintro i I k j t' m fr' own o' h₁ hds ⟨t, hm, rfl⟩ hle S
    refine a_name (store S fun h₂ S => ?_)
    refine x_aug (l_local S.ns (by walk_at "lk") (v_local S (by walk_at "lk") (i_iadd fun t => store S fun h₃ S => x_nil ?_)))
    refine ⟨_, _, _, Know.le.refl _, ⟨t, ?_, rfl⟩, S⟩
    rw [upd_self]
    have : sumVals (ds.take (i + 1)) = sumVals (ds.take i) + j := by
      unfold sumVals
      rw [List.take_add_one, hds]; simp
    rw [this]
  · rintro m fr' own h' ⟨t, hm, rfl⟩ hle S
    refine x_ret (v_local S (by walk_at "lk") ?_)
    rw [List.take_length]
    exact q _ _ fun _ _ e => S.base _ _ e
end
end Mine
end

section
set_option maxRecDepth 100000
set_option Elab.async false
set_option linter.unusedVariables false
set_option autoImplicit false
namespace Mine
open PySem PySem.Calls PySem.W PyProof.Rows
section
variable {prog : Program} {w : World} {A : Around} {env : Env} {h : Heap}
variable {P : Value → Heap → Prop} {PU : Unit → Heap → Prop} {PF : Flow → Heap → Prop} {κ fr : Know} {L : Addr} {m : Loc} {own own' : List (Addr × Res)}
noncomputable def WPa (prog : Program) (w : World) (A : Around) (env : Env) (PU : Unit → Heap → Prop) : List Expr → List Value → Heap → Prop
  | [], [], h => PU () h
  | t :: ts, v :: vs, h => WP prog w A (assign t env v) h fun _ h' => WPa prog w A env PU ts vs h'
  | _, _, _ => False
theorem assignEach_plain : ∀ {es : List Expr}, plainArgs es = true → assignEach es env = es.map fun e => (false, assign e env)
  | [], _ => rfl
  | e :: r, hp => by
    cases e <;> first | (cases hp; done) | (show (false, _) :: assignEach r env = _; rw [assignEach_plain (es := r) hp]; rfl)
theorem WPa.order : ∀ {es : List Expr} {vs : List Value} {h : Heap}, WPa prog w A env PU es vs h → WP prog w A (assignInOrder (es.map fun e => assign e env) vs) h PU := by
  intro es
  induction es with
  | nil =>
    intro vs h q
    cases vs with
    | nil => exact fun gs dr tk os => wpAny_assignInOrder_none ⟨h, tk, rfl, q⟩
    | cons => exact False.elim q
  | cons t ts ih =>
    intro vs h q
    cases vs with
    | nil => exact False.elim q
    | cons v vs => exact fun gs dr tk os => wpAny_assignInOrder_more (run (q gs dr tk os) (fun _ h' tk' p => ih p gs dr tk' os) fun _ _ e => e)
theorem WPa.len : ∀ {es : List Expr} {vs : List Value} {h : Heap}, WPa prog w A env PU es vs h → True := fun _ => trivial
theorem a_tuple {es : List Expr} {pos : Pos} {k : Nat} {a : Addr} {vs : List Value} {n : Nat} (lv : A.handled = none) (S : Sat prog w κ fr L m own h) (e : h.get? a = some (TO vs n)) (hl : es.length = vs.length)
    (q : ∀ h', Sat prog w κ fr L m own h' → WPa prog w A env PU es vs h') (hp : plainArgs es = true := by rfl) : WP prog w A (assign (.Tuple es k pos) env (.ref a)) h PU := fun gs dr tk os => by
  have e0 := assignEach_plain (env := env) hp
  refine wpAny_assign_Tuple lv (TO.isTuple e) (by rw [e0]; simpa using hl) ?_ fun h' hk => ?_
  · rw [e0]
    induction es with
    | nil => rfl
    | cons x r ih => simp
  · have hS : Sat prog w κ fr L m own h' := S.keeps fun b o e => hk b o (Nat.ne_of_lt (Heap.lt_size e)) e
    rw [e0, List.map_map]
    exact (q h' hS).order gs dr tk os
theorem a_sub {o i : Expr} {pos : Pos} {v : Value} (q : WP prog w A (eval o env) h fun ov h₁ => WP prog w A (eval i env) h₁ fun iv h₂ => WP prog w A (setItem ov iv v) h₂ PU) : WP prog w A (assign (.Subscript o i pos) env v) h PU := fun gs dr tk os => by
  rw [arm_assign_Subscript]
  refine wpAny_bind (wpAny_holding (run (q gs dr tk os) (fun ov h' tk' p => ?_) fun _ _ e => e))
  refine wpAny_bind (wpAny_holding (run (p gs dr tk' os) (fun iv h' tk' p => ?_) fun _ _ e => e))
  refine wpAny_bind (wpAny_standAt (wpAny_bind (wpAny_holding (wpAny_mono (p gs dr tk' os) (fun u s' z => ?_) fun _ _ e => e))))
  exact wpAny_release z
theorem x_assign_tuple {es : List Expr} {k : Nat} {tpos pos : Pos} {value : Expr} {rest : List Stmt} (q : WP prog w A (eval value env) h fun v h₁ => WP prog w A (assign (.Tuple es k tpos) env v) h₁ fun _ h₂ => WP prog w A (execs rest env) h₂ PF)
    (hs : swapsWithSole [.Tuple es k tpos] value pos.line env = pure false := by rfl) (hw : swappedStores [.Tuple es k tpos] value env = pure none := by rfl) : WP prog w A (execs (.Assign [.Tuple es k tpos] value pos :: rest) env) h PF :=
  x_cons fun gs dr tk os => Assign_Tuple (hs := hs) (hw := hw) (run (q gs dr tk os) (fun a h' tk' p => run (p gs dr tk' os) (fun b h' tk' p => ⟨h', tk', rfl, p⟩) fun _ _ e => e) fun _ _ e => e)
theorem isi_int_tuple {i : Int} {t : Tok} (q : P (.bool false) h) : WP prog w A (call (.builtin "isinstance") [.int i t, .type "tuple"] []) h P := .of fun Q E gs dr tk os c => IsiPair.int_tuple (c _ _ _ q)
/-- {k: v} of two ints -/
theorem e_dict1 {ke ve : Expr} {pos : Pos} (S : Sat prog w κ fr L m own h) (q : ∀ h₀, Sat prog w κ fr L m ((h.objs.size, .dct []) :: own) h₀ → WP prog w A (eval ke env) h₀ fun kv h₁ => WP prog w A (eval ve env) h₁ fun vv h₂ => ∃ k t, kv = .int k t ∧ Sat prog w κ fr L m ((h.objs.size, .dct []) :: own) h₂ ∧
      ∀ h₃, Sat prog w κ fr L m ((h.objs.size, .dct [(k, vv)]) :: own) h₃ → P (.ref h.objs.size) h₃) : WP prog w A (eval (.Dict [some ke] [ve] pos) env) h P := fun gs dr tk os => by
  refine wpAny_Dict_walk (knd := intKind prog w) rfl rfl (by simp) (by simp) ?_
  have S0 := own_dict S
  show wpAny _ _ (evalPairs [(eval ke env, do let x ← eval ve env; standAt pos; pure x)]) _ _ _
  unfold evalPairs
  refine wpAny_bind (run (q _ S0 gs dr tk os) (fun kv h₁ tk₁ p => ?_) fun _ _ e => e)
  refine wpAny_bind (wpAny_holding (wpAny_bind (run (p gs dr tk₁ os) (fun vv h₂ tk₂ p => ?_) fun _ _ e => e)))
  obtain ⟨k, t, rfl, S2, p⟩ := p
  refine wpAny_bind (wpAny_standAt (wpAny_pure ?_))
  refine wpAny_bind (wpAny_holding ?_)
  unfold evalPairs
  refine wpAny_pure (wpAny_pure ?_)
  obtain ⟨o, e, x⟩ := S2.dct (.head _)
  refine ⟨[(k, vv)], ⟨is_int k t, rfl, True.intro⟩, DictO.dictOf e x, fun h' hd hs => ?_⟩
  obtain ⟨o', e', x'⟩ := DictO.of hd
  exact ⟨h', _, rfl, p h' (S2.update .head hs e' x')⟩
end
end Mine
end

section
set_option maxRecDepth 100000
set_option Elab.async false
set_option linter.unusedVariables false
set_option autoImplicit false
namespace Mine
open PySem PySem.Calls PySem.W PyProof.Rows

section
variable {prog : Program} {w : World} {A : Around} {env : Env} {h : Heap}
variable {P : Value → Heap → Prop} {PU : Unit → Heap → Prop} {PF : Flow → Heap → Prop} {κ fr : Know} {L : Addr} {m : Loc} {own own' : List (Addr × Res)}

/-! ## loops, whatever their body -/
noncomputable def Loop (prog : Program) (w : World) (A : Around) (c : Code) (target : Expr) (it : Value) (env : Env) (B : Heap → (Heap → Prop) → Prop) (PF : Flow → Heap → Prop) : Prop :=
  ∀ (I : Nat → Heap → Prop), (∀ n h, I n h → WP prog w A (pyNext it) h fun r h₁ => match r with
      | none => PF .next h₁
      | some v => WP prog w A (letOwnedTupleGo target it v) h₁ fun _ h₁ => WP prog w A (assign target env v) h₁ fun _ h₂ => B h₂ fun h₃ => ∃ m, m < n ∧ I m h₃) → ∀ n h, I n h → WPC prog w A c h PF

theorem Loop.core {c : Code} {B : Heap → (Heap → Prop) → Prop} (hB : ∀ h P Q, (∀ h, P h → Q h) → B h P → B h Q)
    {target : Expr} {I : Addr} (lp : Loop prog w A c target (.ref I) env B PF) {fp : List Addr} {n : Nat} {Pv : Nat → Value → Heap → Prop} {St : Nat → Heap → Prop} {m₀ : Loc} {fr₀ : Know} {own₀ : List (Addr × Res)} {o₀ : Obj}
    (hfp : ∀ b ∈ fp, b = I ∨ (∃ o, κ b = some o) ∨ (∃ o, fr₀ b = some o)) (hst : St 0 h) (hIt : ∀ i h, St i h → ∃ o, h.get? I = some o)
    (frame : ∀ i h h', St i h → (∀ b ∈ fp, ∀ o, h.get? b = some o → h'.get? b = some o) → St i h')
    (step : ∀ i h, i < n → St i h → WP prog w A (pyNext (.ref I)) h fun r h₁ => ∃ v, r = some v ∧ WP prog w A (letOwnedTupleGo target (.ref I) v) h₁ fun _ h₂ => Pv i v h₂ ∧ St (i + 1) h₂ ∧ ∀ b o, b ≠ I → h.get? b = some o → h₂.get? b = some o)
    (fin : ∀ h, St n h → WP prog w A (pyNext (.ref I)) h fun r h₁ => r = none ∧ ∀ b o, b ≠ I → h.get? b = some o → h₁.get? b = some o)
    (S₀ : Sat prog w κ fr₀ L m₀ ((I, .obj o₀) :: own₀) h) (J : Nat → Loc → Know → List (Addr × Res) → Prop) (hj : J 0 m₀ fr₀ own₀)
    (turn : ∀ i v m fr own o h₁, i < n → Pv i v h₁ → J i m fr own → Know.le fr₀ fr → Sat prog w κ fr L m ((I, .obj o) :: own) h₁ →
      WP prog w A (assign target env v) h₁ fun _ h₂ => B h₂ (TurnQ prog w κ fr L I o (J (i + 1))))
    (done : ∀ m fr own h', J n m fr own → Know.le fr₀ fr → Sat prog w κ fr L m own h' → PF .next h') : WPC prog w A c h PF := by
  refine lp (fun k h => ∃ i m fr own o, k = n - i ∧ i ≤ n ∧ St i h ∧ J i m fr own ∧ Know.le fr₀ fr ∧ Sat prog w κ fr L m ((I, .obj o) :: own) h) ?_ n _ ⟨0, m₀, fr₀, own₀, o₀, rfl, Nat.zero_le _, hst, hj, Know.le.refl _, S₀⟩
  rintro k h ⟨i, m, fr, own, o, rfl, hi, hst, hJ, hle, S⟩
  by_cases hlt : i < n
  · refine (step i h hlt hst).mono fun r h₁ y => ?_
    obtain ⟨v, rfl, y⟩ := y
    refine y.mono fun _ h' y => ?_
    obtain ⟨hP, hst', hk⟩ := y
    obtain ⟨o', ho'⟩ := hIt _ _ hst'
    refine (turn i v m fr own o' h' hlt hP hJ hle (S.moved ho' hk)).mono fun _ h₂ y => hB _ _ _ (fun h₃ z => ?_) y
    obtain ⟨m', fr', own', hle', hJ', S'⟩ := z
    refine ⟨n - (i + 1), by omega, i + 1, m', fr', own', o', rfl, hlt, ?_, hJ', hle.trans hle', S'⟩
    refine frame _ _ _ hst' fun b hb ob e => ?_
    rcases hfp b hb with rfl | ⟨ob', x⟩ | ⟨ob', x⟩
    · obtain ⟨o3, e3, e4⟩ := S'.at (.head _)
      cases e4
      rw [ho'] at e; cases e; exact e3
    · have e1 := (S.moved ho' hk).base _ _ x
      rw [e1] at e; cases e; exact S'.base _ _ x
    · have e1 := ((S.moved ho' hk).frz _ _ (hle _ _ x)).1
      rw [e1] at e; cases e; exact (S'.frz _ _ (hle' _ _ (hle _ _ x))).1
  · have hn : i = n := by omega
    subst hn
    refine (fin h hst).mono fun r h' y => ?_
    obtain ⟨rfl, hk⟩ := y
    exact done m fr own h' hJ hle (S.goneI hk)
theorem Loop.walk {c : Code} {B : Heap → (Heap → Prop) → Prop} (hB : ∀ h P Q, (∀ h, P h → Q h) → B h P → B h Q)
    {target : Expr} {I : Addr} (lp : Loop prog w A c target (.ref I) env B PF) {fp : List Addr} {n : Nat} {Pv : Nat → Value → Prop} {St : Nat → Heap → Prop} {m₀ : Loc} {fr₀ : Know} {own₀ : List (Addr × Res)} {o₀ : Obj}
    (W : Walks prog w A I fp [I] n Pv St) (hfp : ∀ b ∈ fp, b = I ∨ (∃ o, κ b = some o) ∨ (∃ o, fr₀ b = some o)) (hst : St 0 h) (hIt : ∀ i h, St i h → ∃ o, h.get? I = some o)
    (hlet : ∀ i v h, Pv i v → St (i + 1) h → WP prog w A (letOwnedTupleGo target (.ref I) v) h fun _ h' => h' = h)
    (S₀ : Sat prog w κ fr₀ L m₀ ((I, .obj o₀) :: own₀) h) (J : Nat → Loc → Know → List (Addr × Res) → Prop) (hj : J 0 m₀ fr₀ own₀)
    (turn : ∀ i v m fr own o h₁, i < n → Pv i v → J i m fr own → Know.le fr₀ fr → Sat prog w κ fr L m ((I, .obj o) :: own) h₁ →
      WP prog w A (assign target env v) h₁ fun _ h₂ => B h₂ (TurnQ prog w κ fr L I o (J (i + 1))))
    (done : ∀ m fr own h', J n m fr own → Know.le fr₀ fr → Sat prog w κ fr L m own h' → PF .next h') : WPC prog w A c h PF := by
  refine lp.core hB (Pv := fun i v _ => Pv i v) hfp hst hIt W.frame ?_ ?_ S₀ J hj turn done
  · intro i h hi st
    refine .of fun Q E gs dr tk os c => W.item i _ _ _ hi st fun v h' tk' hP st' hk => c _ _ _ ⟨v, rfl, (hlet i v h' hP st').mono fun _ h'' e => ?_⟩
    subst e
    exact ⟨hP, st', fun b o hb e => hk b o (by simpa using hb) e⟩
  · intro h st
    exact .of fun Q E gs dr tk os c => W.done _ _ _ st fun h' tk' hk => c _ _ _ ⟨rfl, fun b o hb e => hk b o (by simpa using hb) e⟩

/-! ## comprehensions -/
noncomputable def WPT (prog : Program) (w : World) (A : Around) (env : Env) (ifs : List Expr) (h : Heap) (PB : Bool → Heap → Prop) : Prop :=
  WP prog w A (forIn ifs true fun c r => if r = true then do let ok ← isTrue c env (eval c env); pure (ForInStep.yield ok) else pure (ForInStep.yield r)) h PB
theorem WPT.nil {PB : Bool → Heap → Prop} (q : PB true h) : WPT prog w A env [] h PB := .of fun Q E gs dr tk os c => wpAny_tests_nil (c _ _ _ q)
theorem WPT.one {PB : Bool → Heap → Prop} {t : Expr} (q : WP prog w A (isTrue t env (eval t env)) h PB) : WPT prog w A env [t] h PB := fun gs dr tk os => wpAny_tests_one (q gs dr tk os)

/-- the body of a list comprehension's turn -/
noncomputable def BL (prog : Program) (w : World) (A : Around) (env : Env) (elt : Expr) (ifs : List Expr) (acc : Value) (h : Heap) (post : Heap → Prop) : Prop :=
  WPT prog w A env ifs h fun ok h => if ok = true then WP prog w A (eval elt env) h fun x h => WP prog w A (call (.builtin "list.append") [acc, x] []) h fun _ h => post h else post h
noncomputable def BD (prog : Program) (w : World) (A : Around) (env : Env) (kx vx : Expr) (ifs : List Expr) (D : Addr) (h : Heap) (post : Heap → Prop) : Prop :=
  WPT prog w A env ifs h fun ok h => if ok = true then WP prog w A (eval kx env) h fun kv h => WP prog w A (eval vx env) h fun vv h => WP prog w A (dictSet D kv vv) h fun _ h => post h else post h
noncomputable def BN (prog : Program) (w : World) (A : Around) (env : Env) (e : Expr) (ifs : List Expr) (iter : Expr) (acc : Value) (h : Heap) (post : Heap → Prop) : Prop :=
  WPT prog w A env ifs h fun ok h => if ok = true then WP prog w A (eval iter env) h fun x h => WP prog w A (pyIter x) h fun it h => WPC prog w A (.compStart e 1 it acc env) h fun _ h => post h else post h
theorem BL.mono {elt : Expr} {ifs : List Expr} {acc : Value} : ∀ h P Q, (∀ h, P h → Q h) → BL prog w A env elt ifs acc h P → BL prog w A env elt ifs acc h Q := fun h P Q l x => by
  unfold BL at *
  exact WP.mono x fun ok h y => by
    cases ok with
    | true => exact WP.mono y fun _ _ y => WP.mono y fun _ _ y => l _ y
    | false => exact l _ y
theorem BD.mono {kx vx : Expr} {ifs : List Expr} {D : Addr} : ∀ h P Q, (∀ h, P h → Q h) → BD prog w A env kx vx ifs D h P → BD prog w A env kx vx ifs D h Q := fun h P Q l x => by
  unfold BD at *
  exact WP.mono x fun ok h y => by
    cases ok with
    | true => exact WP.mono y fun _ _ y => WP.mono y fun _ _ y => WP.mono y fun _ _ y => l _ y
    | false => exact l _ y
theorem BN.mono {e iter : Expr} {ifs : List Expr} {acc : Value} : ∀ h P Q, (∀ h, P h → Q h) → BN prog w A env e ifs iter acc h P → BN prog w A env e ifs iter acc h Q := fun h P Q l x => by
  unfold BN at *
  exact WP.mono x fun ok h y => by
    cases ok with
    | true => exact WP.mono y fun _ _ y => WP.mono y fun _ _ y => WPC.mono y fun _ _ y => l _ y
    | false => exact l _ y

theorem loop_bl {elt target iter : Expr} {ifs : List Expr} {scope : Scope} {pos : Pos} {it acc : Value} :
    Loop prog w A (.compLoop (.ListComp elt [⟨target, iter, ifs, 0⟩] scope pos) 0 it acc env) target it env (BL prog w A env elt ifs acc) PF := by
  intro I turn n h hI gs dr tk os
  refine codeAny_loop rfl (fun n => Post (fun (_ : Unit) h => I n h) gs dr os ()) (fun n s hI => ?_) n ⟨h, tk, rfl, hI⟩
  obtain ⟨h, tk, rfl, hI⟩ := hI
  show wpAny _ A ((compTurn (.ListComp elt [⟨target, iter, ifs, 0⟩] scope pos) 0 it acc env).onRaise (fun x => do noteFrame x env; theTreesLotGoes x)) _ _ _
  refine wpAny_noted ?_
  rw [compTurn_list]
  refine wpAny_bind (wpAny_standAt (wpAny_bind (run (turn n h hI gs dr tk os) (fun r h₁ tk₁ y => ?_) fun _ _ e => e.elim)))
  cases r with
  | none => exact wpAny_pure ⟨h₁, tk₁, rfl, y⟩
  | some v =>
    refine wpAny_bind (run (y gs dr tk₁ os) (fun _ h₂ tk₂ y => ?_) fun _ _ e => e.elim)
    refine wpAny_bind (run (y gs dr tk₂ os) (fun _ h₃ tk₃ y => ?_) fun _ _ e => e.elim)
    refine wpAny_bind (run (y gs dr tk₃ os) (fun ok h₄ tk₄ y => ?_) fun _ _ e => e.elim)
    cases ok with
    | false =>
      obtain ⟨k, hk, y⟩ := y
      exact wpAny_pure ⟨rfl, k, hk, h₄, tk₄, rfl, y⟩
    | true =>
      refine wpAny_bind (wpAny_bind (run (y gs dr tk₄ os) (fun x h₅ tk₅ y => ?_) fun _ _ e => e.elim))
      refine wpAny_bind (run (y gs dr tk₅ os) (fun x h₆ tk₆ z => ?_) fun _ _ e => e.elim)
      obtain ⟨k, hk, y⟩ := z
      exact wpAny_pure (wpAny_pure ⟨rfl, k, hk, h₆, tk₆, rfl, y⟩)
theorem compTurn_in (elt : Expr) (g : Comprehension) (target iter : Expr) (ifs : List Expr) (scope : Scope) (pos : Pos) (it acc : Value) (env : Env) :
    compTurn (.ListComp elt [g, ⟨target, iter, ifs, 0⟩] scope pos) 1 it acc env = (do
      standAt iter.pos
      match ← pyNext it with
      | none => pure (.done .next)
      | some v =>
        letOwnedTupleGo target it v
        assign target env v
        let mut ok := true
        for c in ifs do
          if ok then ok ← isTrue c env (eval c env)
        if ok then
          (do let _ ← call (.builtin "list.append") [acc, ← eval elt env])
        again (.compLoop (.ListComp elt [g, ⟨target, iter, ifs, 0⟩] scope pos) 1 it acc env)) := by rfl
theorem loop_in {elt target iter : Expr} {g : Comprehension} {ifs : List Expr} {scope : Scope} {pos : Pos} {it acc : Value} :
    Loop prog w A (.compLoop (.ListComp elt [g, ⟨target, iter, ifs, 0⟩] scope pos) 1 it acc env) target it env (BL prog w A env elt ifs acc) PF := by
  intro I turn n h hI gs dr tk os
  refine codeAny_loop rfl (fun n => Post (fun (_ : Unit) h => I n h) gs dr os ()) (fun n s hI => ?_) n ⟨h, tk, rfl, hI⟩
  obtain ⟨h, tk, rfl, hI⟩ := hI
  show wpAny _ A ((compTurn (.ListComp elt [g, ⟨target, iter, ifs, 0⟩] scope pos) 1 it acc env).onRaise (fun x => do noteFrame x env; theTreesLotGoes x)) _ _ _
  refine wpAny_noted ?_
  rw [compTurn_in]
  refine wpAny_bind (wpAny_standAt (wpAny_bind (run (turn n h hI gs dr tk os) (fun r h₁ tk₁ y => ?_) fun _ _ e => e.elim)))
  cases r with
  | none => exact wpAny_pure ⟨h₁, tk₁, rfl, y⟩
  | some v =>
    refine wpAny_bind (run (y gs dr tk₁ os) (fun _ h₂ tk₂ y => ?_) fun _ _ e => e.elim)
    refine wpAny_bind (run (y gs dr tk₂ os) (fun _ h₃ tk₃ y => ?_) fun _ _ e => e.elim)
    refine wpAny_bind (run (y gs dr tk₃ os) (fun ok h₄ tk₄ y => ?_) fun _ _ e => e.elim)
    cases ok with
    | false =>
      obtain ⟨k, hk, y⟩ := y
      exact wpAny_pure ⟨rfl, k, hk, h₄, tk₄, rfl, y⟩
    | true =>
      refine wpAny_bind (wpAny_bind (run (y gs dr tk₄ os) (fun x h₅ tk₅ y => ?_) fun _ _ e => e.elim))
      refine wpAny_bind (run (y gs dr tk₅ os) (fun x h₆ tk₆ z => ?_) fun _ _ e => e.elim)
      obtain ⟨k, hk, y⟩ := z
      exact wpAny_pure (wpAny_pure ⟨rfl, k, hk, h₆, tk₆, rfl, y⟩)
theorem loop_bd {kx vx target iter : Expr} {ifs : List Expr} {scope : Scope} {pos : Pos} {it : Value} {D : Addr} :
    Loop prog w A (.compLoop (.DictComp kx vx [⟨target, iter, ifs, 0⟩] scope pos) 0 it (.ref D) env) target it env (BD prog w A env kx vx ifs D) PF := by
  intro I turn n h hI gs dr tk os
  refine codeAny_loop rfl (fun n => Post (fun (_ : Unit) h => I n h) gs dr os ()) (fun n s hI => ?_) n ⟨h, tk, rfl, hI⟩
  obtain ⟨h, tk, rfl, hI⟩ := hI
  show wpAny _ A ((compTurn (.DictComp kx vx [⟨target, iter, ifs, 0⟩] scope pos) 0 it (.ref D) env).onRaise (fun x => do noteFrame x env; theTreesLotGoes x)) _ _ _
  refine wpAny_noted ?_
  rw [compTurn_dict]
  refine wpAny_bind (wpAny_standAt (wpAny_bind (run (turn n h hI gs dr tk os) (fun r h₁ tk₁ y => ?_) fun _ _ e => e.elim)))
  cases r with
  | none => exact wpAny_pure ⟨h₁, tk₁, rfl, y⟩
  | some v =>
    refine wpAny_bind (run (y gs dr tk₁ os) (fun _ h₂ tk₂ y => ?_) fun _ _ e => e.elim)
    refine wpAny_bind (run (y gs dr tk₂ os) (fun _ h₃ tk₃ y => ?_) fun _ _ e => e.elim)
    refine wpAny_bind (run (y gs dr tk₃ os) (fun ok h₄ tk₄ y => ?_) fun _ _ e => e.elim)
    cases ok with
    | false =>
      obtain ⟨k, hk, y⟩ := y
      exact wpAny_pure ⟨rfl, k, hk, h₄, tk₄, rfl, y⟩
    | true =>
      refine wpAny_bind (wpAny_bind (run (y gs dr tk₄ os) (fun x h₅ tk₅ y => ?_) fun _ _ e => e.elim))
      refine wpAny_bind (wpAny_holding (run (y gs dr tk₅ os) (fun x h₆ tk₆ y => ?_) fun _ _ e => e.elim))
      refine wpAny_bind (wpAny_standAt (wpAny_holding (run (y gs dr tk₆ os) (fun x h₇ tk₇ z => ?_) fun _ _ e => e.elim)))
      obtain ⟨k, hk, y⟩ := z
      exact wpAny_pure ⟨rfl, k, hk, h₇, tk₇, rfl, y⟩
theorem compTurn_out (elt : Expr) (target iter target' iter' : Expr) (ifs ifs' : List Expr) (scope : Scope) (pos : Pos) (it acc : Value) (env : Env) :
    compTurn (.ListComp elt [⟨target, iter, ifs, 0⟩, ⟨target', iter', ifs', 0⟩] scope pos) 0 it acc env = (do
      standAt iter.pos
      match ← pyNext it with
      | none => pure (.done .next)
      | some v =>
        letOwnedTupleGo target it v
        assign target env v
        let mut ok := true
        for c in ifs do
          if ok then ok ← isTrue c env (eval c env)
        if ok then
          let x ← eval iter' env
          standAt iter'.pos
          let x ← foldedSetIterable iter' env x
          let _ ← runOwn (.compStart (.ListComp elt [⟨target, iter, ifs, 0⟩, ⟨target', iter', ifs', 0⟩] scope pos) 1 (← holding [x] (pyIter x)) acc env) env
        again (.compLoop (.ListComp elt [⟨target, iter, ifs, 0⟩, ⟨target', iter', ifs', 0⟩] scope pos) 0 it acc env)) := by rfl
theorem loop_out {elt target iter target' iter' : Expr} {ifs ifs' : List Expr} {scope : Scope} {pos : Pos} {it acc : Value} (hs : ∀ x, foldedSetIterable iter' env x = pure x := by intro _; rfl) :
    Loop prog w A (.compLoop (.ListComp elt [⟨target, iter, ifs, 0⟩, ⟨target', iter', ifs', 0⟩] scope pos) 0 it acc env) target it env
      (BN prog w A env (.ListComp elt [⟨target, iter, ifs, 0⟩, ⟨target', iter', ifs', 0⟩] scope pos) ifs iter' acc) PF := by
  intro I turn n h hI gs dr tk os
  refine codeAny_loop rfl (fun n => Post (fun (_ : Unit) h => I n h) gs dr os ()) (fun n s hI => ?_) n ⟨h, tk, rfl, hI⟩
  obtain ⟨h, tk, rfl, hI⟩ := hI
  show wpAny _ A ((compTurn (.ListComp elt [⟨target, iter, ifs, 0⟩, ⟨target', iter', ifs', 0⟩] scope pos) 0 it acc env).onRaise (fun x => do noteFrame x env; theTreesLotGoes x)) _ _ _
  refine wpAny_noted ?_
  rw [compTurn_out]
  refine wpAny_bind (wpAny_standAt (wpAny_bind (run (turn n h hI gs dr tk os) (fun r h₁ tk₁ y => ?_) fun _ _ e => e.elim)))
  cases r with
  | none => exact wpAny_pure ⟨h₁, tk₁, rfl, y⟩
  | some v =>
    refine wpAny_bind (run (y gs dr tk₁ os) (fun _ h₂ tk₂ y => ?_) fun _ _ e => e.elim)
    refine wpAny_bind (run (y gs dr tk₂ os) (fun _ h₃ tk₃ y => ?_) fun _ _ e => e.elim)
    refine wpAny_bind (run (y gs dr tk₃ os) (fun ok h₄ tk₄ y => ?_) fun _ _ e => e.elim)
    cases ok with
    | false =>
      obtain ⟨k, hk, y⟩ := y
      exact wpAny_pure ⟨rfl, k, hk, h₄, tk₄, rfl, y⟩
    | true =>
      refine wpAny_bind (run (y gs dr tk₄ os) (fun x h₅ tk₅ y => ?_) fun _ _ e => e.elim)
      refine wpAny_bind (wpAny_standAt (wpAny_bind (wpAny_of_eq (hs _) (wpAny_bind (wpAny_holding (run (y gs dr tk₅ os) (fun x h₆ tk₆ y => ?_) fun _ _ e => e.elim))))))
      refine wpAny_bind (wpAny_runOwn (codeAny_mono (y gs dr tk₆ os) fun r s' z => ?_))
      cases r with
      | error e => exact z.elim
      | ok f =>
        obtain ⟨h₇, tk₇, rfl, k, hk, y⟩ := z
        exact wpAny_pure ⟨rfl, k, hk, h₇, tk₇, rfl, y⟩
theorem start {e : Expr} {d : Nat} {it acc : Value} {g : Comprehension} {PF : Flow → Heap → Prop} (hg : (clausesOf e)[d]? = some g) (hga : g.is_async = 0) (hf : (Code.compStart e d it acc env).isFrame = false) (hU : A.under (.compStart e d it acc env) = A)
    (hit : ∀ (Q : Value → Shared → Prop) (E : Value → Shared → Prop) (s : Shared), s.heap = h → Q it s → wpAny (model prog w) A (pyIter it) Q E s)
    (q : WPC prog w A (.compLoop e d it acc env) h PF) : WPC prog w A (.compStart e d it acc env) h PF := fun gs dr tk os => by
  refine codeAny_of_tree ?_
  have q := q gs dr tk os
  rw [hU]
  show wpAny _ _ (if (Code.compStart e d it acc env).isFrame = true then _ else (compStart e d it acc env).onRaise (fun x => do noteFrame x env; standAt theWindowsPlace)) _ _ _
  rw [if_neg (by rw [hf]; decide)]
  refine wpAny_notedAt ?_
  unfold compStart
  rw [hg]
  simp only [Option.elim, hga]
  show wpAny _ _ (ask >>= _) _ _ _
  refine wpAny_bind (wpAny_askSetting (wpAny_ite ?_))
  have hq : (Code.compLoop e d it acc env).quiet = true := rfl
  split
  · first
      | exact wpAny_bind (wpAny_pure (wpAny_pure (And.intro hq q)))
      | exact wpAny_pure (And.intro hq q)
  · first
      | exact wpAny_bind (wpAny_rule (wpAny_bind (wpAny_standAt (wpAny_bind (hit _ _ _ rfl (wpAny_pure (And.intro hq q)))))))
      | (refine wpAny_bind (wpAny_rule ?_); show wpAny _ _ (standAt g.iter.pos >>= _) _ _ _; exact wpAny_bind (wpAny_standAt (wpAny_bind (hit _ _ _ rfl (wpAny_pure (And.intro hq q))))))
end
end Mine
end

section
set_option maxRecDepth 100000
set_option Elab.async false
set_option linter.unusedVariables false
set_option autoImplicit false
namespace Mine
open PySem PySem.Calls PySem.W PyProof.Rows

section
variable {prog : Program} {w : World} {A : Around} {env : Env} {h : Heap}
variable {P : Value → Heap → Prop} {PU : Unit → Heap → Prop} {PF : Flow → Heap → Prop} {κ fr : Know} {L : Addr} {m : Loc} {own own' : List (Addr × Res)}

noncomputable def NsO (o : Obj) (m : Loc) : Prop := ∃ es ep, o.data = .dict es ep ∧ StrKeys es ∧ ∀ name, nsFind es name = m name
theorem Sat.perm (S : Sat prog w κ fr L m own h) (hp : own.Perm own') : Sat prog w κ fr L m own' h :=
  ⟨S.base, S.frz, S.ns, S.kL, fun p hm => S.hown p (hp.mem_iff.mpr hm), (hp.map _).nodup_iff.mp S.nd⟩
theorem perm3 {α : Type} (a b c : α) (l : List α) : (a :: b :: c :: l).Perm (c :: a :: b :: l) := (List.Perm.cons a (List.Perm.swap c b l)).trans (List.Perm.swap c a (b :: l))
/-- another frame's names come to the front -/
theorem Sat.turnL {C : Addr} {oC : Obj} {m' : Loc} (S : Sat prog w κ fr L m ((C, .obj oC) :: own) h) (hN : NsO oC m') : ∃ oL, NsO oL m ∧ Sat prog w κ fr C m' ((L, .obj oL) :: own) h := by
  obtain ⟨oL, es, ep, g, x⟩ := S.ns
  obtain ⟨⟨o, g', e⟩, k1, k2, k3⟩ := S.hown (C, .obj oC) (.head _)
  cases e
  have nd := S.nd
  rw [List.map_cons, List.nodup_cons] at nd
  obtain ⟨es', ep', x'⟩ := hN
  refine ⟨oL, ⟨es, ep, x⟩, S.base, S.frz, ⟨oC, es', ep', g', x'⟩, ⟨k1, k2⟩, ?_, ?_⟩
  · intro p hp
    rcases List.mem_cons.mp hp with rfl | hp
    · exact ⟨⟨oL, g, rfl⟩, S.kL.1, S.kL.2, Ne.symm k3⟩
    · obtain ⟨a, b, c, d⟩ := S.hown p (.tail _ hp)
      exact ⟨a, b, c, fun e => nd.1 (List.mem_map.mpr ⟨p, hp, e⟩)⟩
  · rw [List.map_cons, List.nodup_cons]
    exact ⟨fun hm => by obtain ⟨p, hp, e⟩ := List.mem_map.mp hm; exact (S.hown p (.tail _ hp)).2.2.2 e, nd.2⟩
/-- the name that a comprehension's value is bound to at once -/
noncomputable def useM (use : Option (Str × Pos)) (m : Loc) (D : Addr) : Loc := match use with
  | none => m
  | some p => upd m p.1 (.ref D)
noncomputable def useV (use : Option (Str × Pos)) (D : Addr) : Value := match use with
  | none => .ref D
  | some _ => .none
theorem DictO.new (h : Heap) : Res.is prog w (.dct []) { cls := .type "dict", data := .dict #[] } := by
  obtain ⟨o, e, x⟩ := DictO.of (Heap.DictOf.new (knd := intKind prog w) h)
  rw [Heap.get?_push_size _ rfl] at e
  cases e; exact x
/-- what is behind a comprehension's loop -/
inductive CompR (prog : Program) (w : World) (κ : Know) (C L : Addr) (oL : Obj) (mL : Loc) (R : Heap → Prop) (h₄ : Heap) : Prop
  | mk (fr' : Know) (m' : Loc) (own' : List (Addr × Res)) (S : Sat prog w κ fr' C m' ((L, .obj oL) :: own') h₄) (fin : ∀ h₅, Sat prog w κ fr' L mL own' h₅ → R h₅)
/-- a comprehension, its iterator at hand -/
inductive CompQ (prog : Program) (w : World) (A : Around) (L : Addr) (r0 : Res) (c : Addr → Addr → Code) (um : Loc → Addr → Loc) (R : Addr → Heap → Prop) (it : Value) (h₂ : Heap) : Prop
  | mk (κ fr : Know) (m : Loc) (own : List (Addr × Res)) (S : Sat prog w κ fr L m own h₂) (y : ∀ D C h₃ oL, Sat prog w κ fr C nil ((L, .obj oL) :: (D, r0) :: own) h₃ →
      (∀ (Q : Value → Shared → Prop) (E : Value → Shared → Prop) (s : Shared), s.heap = h₃ → Q it s → wpAny (model prog w) A (pyIter it) Q E s) ∧
      WPC prog w A (c D C) h₃ fun _ => CompR prog w κ C L oL (um m D) (R D))
theorem comp_core {e : Expr} {scope : Scope} {pos : Pos} {newAcc : Sem Value} {g : Comprehension} {gs : List Comprehension} {cl : List (Str × Addr)} (use : Option (Str × Pos)) {o0 : Obj} {r0 : Res}
    (hcl : clausesOf e = g :: gs) (hga : g.is_async = 0) (hs : ∀ x, foldedSetIterable g.iter env x = pure x) (hclos : closureFor scope env = pure cl)
    (hkind : scope.kind = .function) (hnames : ∀ x ∈ scope.names, x.2 = .local → scope.names.lookup x.1 = some .local) (hcell : ∀ x ∈ scope.names, x.2 ≠ .cell)
    (hf : ∀ it acc C, (Code.compStart e 0 it acc (compEnvC scope cl C env)).isFrame = false) (hU : ∀ it acc C, A.under (.compStart e 0 it acc (compEnvC scope cl C env)) = A)
    (hacc : ∀ h (P : Value → Heap → Prop), P (.ref h.objs.size) (h.push o0) → WP prog w A newAcc h P) (hr0 : r0.is prog w o0) (hf0 : o0.isFreed = false)
    (hL : env.locals = L) (hy : ∀ p, use = some p → env.kindOf p.1 = some .local) (hp : (env.scope.kind == .class || (env.scope.kind == .module && env.locals != env.globals)) = false)
    (q : WP prog w A (eval g.iter env) h fun x h₁ => WP prog w A (pyIter x) h₁ fun it h₂ => CompQ prog w A L r0 (fun D C => .compLoop e 0 it (.ref D) (compEnvC scope cl C env)) (useM use) (fun D h₅ => P (useV use D) h₅) it h₂) :
    WP prog w A (comprehension e scope env pos newAcc false (eval g.iter env) (use.map fun p => assign (.Name p.1 p.2) env)) h P := fun gs dr tk os => by
  refine wpAny_comprehension_free hcl hs hclos hkind hnames (wpAny_mono (q gs dr tk os) (fun x s₁ ⟨h₁, tk₁, e₁, y⟩ => ?_) fun _ _ e => e.elim)
  subst e₁
  refine wpAny_mono (y gs dr tk₁ os) (fun it s₂ ⟨h₂, tk₂, e₂, y⟩ => ?_) fun _ _ e => e.elim
  subst e₂
  obtain ⟨κ, fr, m, own, S, y⟩ := y
  refine wpAny_mono (hacc h₂ (fun v h' => v = .ref h₂.objs.size ∧ h' = h₂.push o0) ⟨rfl, rfl⟩ gs dr tk₂ os) (fun acc s₃ ⟨h₃, tk₃, e₃, y₃⟩ => ?_) fun _ _ e => e.elim
  subst e₃
  obtain ⟨rfl, rfl⟩ := y₃
  have SD := S.push r0 hr0 hf0
  refine wpAny_newFunctionEnv hcell (by intro y hy; simp at hy) (fun h₄ hns hsb => ?_) hkind
  dsimp only at hns hsb ⊢
  have SC := SD.push (o := { cls := .type "dict", dict := none, data := .dict #[] }) (.obj _) rfl rfl
  obtain ⟨oC, es, ep, gC, xC⟩ := hns
  have SC' := SC.update (r' := .obj oC) .head hsb gC rfl
  obtain ⟨oL, nL, S3⟩ := SC'.turnL ⟨es, ep, xC⟩
  obtain ⟨hit, lp⟩ := y _ _ h₄ oL S3
  refine codeAny_mono (start (by rw [hcl]; rfl) hga (hf _ _ _) (hU _ _ _) hit lp gs dr _ os) fun r s' z => ?_
  cases r with
  | error e => exact z.elim
  | ok f =>
    obtain ⟨h₅, tk₅, rfl, fr', m', own', S5, fin⟩ := z
    obtain ⟨oC', nC, S6⟩ := S5.turnL nL
    have gone : ∀ {m₁ : Loc} {h' h'' : Heap} {C : Addr}, Sat prog w κ fr' L m₁ ((C, .obj oC') :: own') h' → Heap.SameBut C h' h'' → Sat prog w κ fr' L m₁ own' h'' := fun S hs => S.goneI fun b ob hb e => (hs.2 b hb).trans e
    cases use with
    | none => exact ⟨m', S5.ns, fun h' hs' => ⟨h', tk₅, rfl, fin h' (gone S6 hs')⟩⟩
    | some p =>
      show wpAny _ A (assign (.Name p.1 p.2) env (.ref h₂.objs.size)) _ _ _
      refine wpAny_assign_Name (wpAny_storeName_local (hy p rfl) (by rw [hL]; exact S6.ns) (fun h₆ hn₆ hs₆ => ?_) hp)
      rw [hL] at hn₆ hs₆
      have S7 := S6.store hn₆ hs₆
      obtain ⟨ob, gb, eb⟩ := S7.at (.head _)
      cases eb
      obtain ⟨es', ep', x'⟩ := nC
      exact ⟨m', ⟨_, es', ep', gb, x'⟩, fun h' hs' => ⟨h', _, rfl, fin h' (gone S7 hs')⟩⟩
theorem e_lc {elt target iter : Expr} {ifs : List Expr} {gs : List Comprehension} {scope : Scope} {pos : Pos} (cl : List (Str × Addr))
    (q : WP prog w A (eval iter env) h fun x h₁ => WP prog w A (pyIter x) h₁ fun it h₂ => CompQ prog w A L (.lst []) (fun D C => .compLoop (.ListComp elt (⟨target, iter, ifs, 0⟩ :: gs) scope pos) 0 it (.ref D) (compEnvC scope cl C env)) (fun m _ => m) (fun D h₅ => P (.ref D) h₅) it h₂)
    (hclos : closureFor scope env = pure cl := by rfl) (hL : env.locals = L := by rfl)
    (hkind : scope.kind = .function := by rfl) (hnames : ∀ x ∈ scope.names, x.2 = .local → scope.names.lookup x.1 = some .local := by decide +kernel) (hcell : ∀ x ∈ scope.names, x.2 ≠ .cell := by decide +kernel)
    (hs : ∀ x, foldedSetIterable iter env x = pure x := by intro _; rfl) (hp : (env.scope.kind == .class || (env.scope.kind == .module && env.locals != env.globals)) = false := by rfl) : WP prog w A (eval (.ListComp elt (⟨target, iter, ifs, 0⟩ :: gs) scope pos) env) h P := by
  rw [eval_ListComp]
  exact comp_core (use := none) (r0 := (.lst [])) (o0 := LO [] 0) (g := ⟨target, iter, ifs, 0⟩) rfl rfl hs hclos hkind hnames hcell (fun _ _ _ => rfl) (fun _ _ _ => rfl) (fun h P x => .of fun Q E gs dr tk os c => wpAny_newObj_type (c _ _ _ x)) ⟨0, rfl⟩ rfl hL (fun _ e => by cases e) hp q
theorem e_dc {kx vx target iter : Expr} {ifs : List Expr} {gs : List Comprehension} {scope : Scope} {pos : Pos} (cl : List (Str × Addr))
    (q : WP prog w A (eval iter env) h fun x h₁ => WP prog w A (pyIter x) h₁ fun it h₂ => CompQ prog w A L (.dct []) (fun D C => .compLoop (.DictComp kx vx (⟨target, iter, ifs, 0⟩ :: gs) scope pos) 0 it (.ref D) (compEnvC scope cl C env)) (fun m _ => m) (fun D h₅ => P (.ref D) h₅) it h₂)
    (hclos : closureFor scope env = pure cl := by rfl) (hL : env.locals = L := by rfl)
    (hkind : scope.kind = .function := by rfl) (hnames : ∀ x ∈ scope.names, x.2 = .local → scope.names.lookup x.1 = some .local := by decide +kernel) (hcell : ∀ x ∈ scope.names, x.2 ≠ .cell := by decide +kernel)
    (hs : ∀ x, foldedSetIterable iter env x = pure x := by intro _; rfl) (hp : (env.scope.kind == .class || (env.scope.kind == .module && env.locals != env.globals)) = false := by rfl) : WP prog w A (eval (.DictComp kx vx (⟨target, iter, ifs, 0⟩ :: gs) scope pos) env) h P := by
  rw [arm_eval_DictComp]
  exact comp_core (use := none) (r0 := (.dct [])) (o0 := { cls := .type "dict", data := .dict #[] }) (g := ⟨target, iter, ifs, 0⟩) rfl rfl hs hclos hkind hnames hcell (fun _ _ _ => rfl) (fun _ _ _ => rfl) (fun h P x => .of fun Q E gs dr tk os c => wpAny_newObj_type (c _ _ _ x)) (DictO.new h) rfl hL (fun _ e => by cases e) hp q
theorem x_lc {elt target iter : Expr} {ifs : List Expr} {gs : List Comprehension} {scope : Scope} {pos : Pos} {y : Str} {py spos : Pos} {rest : List Stmt} (cl : List (Str × Addr))
    (q : WP prog w A (eval iter env) h fun x h₁ => WP prog w A (pyIter x) h₁ fun it h₂ => CompQ prog w A L (.lst []) (fun D C => .compLoop (.ListComp elt (⟨target, iter, ifs, 0⟩ :: gs) scope pos) 0 it (.ref D) (compEnvC scope cl C env)) (fun m D => upd m y (.ref D)) (fun D h₅ => WP prog w A (execs rest env) h₅ PF) it h₂)
    (hclos : closureFor scope env = pure cl := by rfl) (hL : env.locals = L := by rfl)
    (hkind : scope.kind = .function := by rfl) (hnames : ∀ x ∈ scope.names, x.2 = .local → scope.names.lookup x.1 = some .local := by decide +kernel) (hcell : ∀ x ∈ scope.names, x.2 ≠ .cell := by decide +kernel)
    (hs : ∀ x, foldedSetIterable iter env x = pure x := by intro _; rfl) (hp : (env.scope.kind == .class || (env.scope.kind == .module && env.locals != env.globals)) = false := by rfl) (hsw : swapsWith (.ListComp elt (⟨target, iter, ifs, 0⟩ :: gs) scope pos) (some (.Name y py)) spos.line env = pure true := by rfl) (hy : env.kindOf y = some .local := by rfl) : WP prog w A (execs (.Assign [.Name y py] (.ListComp elt (⟨target, iter, ifs, 0⟩ :: gs) scope pos) spos :: rest) env) h PF := by
  refine x_cons fun gs' dr tk os => ?_
  rw [exec_Assign_Name_used _ _ _ _ hsw]
  refine wpAny_bind (wpAny_standAt (wpAny_bind ?_))
  show wpAny _ A (do let _ ← comprehension (.ListComp elt (⟨target, iter, ifs, 0⟩ :: gs) scope pos) scope env _ (newList []) false (eval iter env) (some (assign (.Name y py) env))) _ _ _
  have z := comp_core (P := fun _ h₅ => WP prog w A (execs rest env) h₅ PF) (pos := firstIterPos (⟨target, iter, ifs, 0⟩ :: gs) pos) (use := some (y, py)) (r0 := (.lst [])) (o0 := LO [] 0) (newAcc := newList []) (e := .ListComp elt (⟨target, iter, ifs, 0⟩ :: gs) scope pos) (g := ⟨target, iter, ifs, 0⟩) (A := A) (h := h) rfl rfl hs hclos hkind hnames hcell (fun _ _ _ => rfl) (fun _ _ _ => rfl) (fun h P x => .of fun Q E gs dr tk os c => wpAny_newObj_type (c _ _ _ x)) ⟨0, rfl⟩ rfl hL (fun _ e => by cases e; exact hy) hp q
  refine wpAny_bind (run (z gs' dr tk os) (fun _ h' tk' p => ?_) fun _ _ e => e)
  exact wpAny_pure (wpAny_pure ⟨h', tk', rfl, p⟩)
theorem x_dc {kx vx target iter : Expr} {ifs : List Expr} {gs : List Comprehension} {scope : Scope} {pos : Pos} {y : Str} {py spos : Pos} {rest : List Stmt} (cl : List (Str × Addr))
    (q : WP prog w A (eval iter env) h fun x h₁ => WP prog w A (pyIter x) h₁ fun it h₂ => CompQ prog w A L (.dct []) (fun D C => .compLoop (.DictComp kx vx (⟨target, iter, ifs, 0⟩ :: gs) scope pos) 0 it (.ref D) (compEnvC scope cl C env)) (fun m D => upd m y (.ref D)) (fun D h₅ => WP prog w A (execs rest env) h₅ PF) it h₂)
    (hclos : closureFor scope env = pure cl := by rfl) (hL : env.locals = L := by rfl)
    (hkind : scope.kind = .function := by rfl) (hnames : ∀ x ∈ scope.names, x.2 = .local → scope.names.lookup x.1 = some .local := by decide +kernel) (hcell : ∀ x ∈ scope.names, x.2 ≠ .cell := by decide +kernel)
    (hs : ∀ x, foldedSetIterable iter env x = pure x := by intro _; rfl) (hp : (env.scope.kind == .class || (env.scope.kind == .module && env.locals != env.globals)) = false := by rfl) (hsw : swapsWith (.DictComp kx vx (⟨target, iter, ifs, 0⟩ :: gs) scope pos) (some (.Name y py)) spos.line env = pure true := by rfl) (hy : env.kindOf y = some .local := by rfl) : WP prog w A (execs (.Assign [.Name y py] (.DictComp kx vx (⟨target, iter, ifs, 0⟩ :: gs) scope pos) spos :: rest) env) h PF := by
  refine x_cons fun gs' dr tk os => ?_
  rw [exec_Assign_Name_used _ _ _ _ hsw]
  refine wpAny_bind (wpAny_standAt (wpAny_bind ?_))
  show wpAny _ A (do let _ ← comprehension (.DictComp kx vx (⟨target, iter, ifs, 0⟩ :: gs) scope pos) scope env _ (newDict) false (eval iter env) (some (assign (.Name y py) env))) _ _ _
  have z := comp_core (P := fun _ h₅ => WP prog w A (execs rest env) h₅ PF) (pos := firstIterPos (⟨target, iter, ifs, 0⟩ :: gs) pos) (use := some (y, py)) (r0 := (.dct [])) (o0 := { cls := .type "dict", data := .dict #[] }) (newAcc := newDict) (e := .DictComp kx vx (⟨target, iter, ifs, 0⟩ :: gs) scope pos) (g := ⟨target, iter, ifs, 0⟩) (A := A) (h := h) rfl rfl hs hclos hkind hnames hcell (fun _ _ _ => rfl) (fun _ _ _ => rfl) (fun h P x => .of fun Q E gs dr tk os c => wpAny_newObj_type (c _ _ _ x)) (DictO.new h) rfl hL (fun _ e => by cases e; exact hy) hp q
  refine wpAny_bind (run (z gs' dr tk os) (fun _ h' tk' p => ?_) fun _ _ e => e)
  exact wpAny_pure (wpAny_pure ⟨h', tk', rfl, p⟩)

/-! ## iterators -/
noncomputable def LI (a : Addr) : Obj := { cls := .type "list_iterator", data := .fields #[.ref a, .int 0 0] }
noncomputable def RI (a b : Int) : Obj := { cls := .type "range_iterator", data := .fields #[rawInt a, rawInt (Builtin.Range.rangeSize a b 1), rawInt 1] }
noncomputable def KI (d : Addr) (n ep : Nat) : Obj := { cls := .type "dict_keyiterator", data := .fields #[.ref d, .int 0 0, .int n 0, .int ep 0] }
theorem pi_list {a : Addr} {vs : List Value} {n : Nat} (e : h.get? a = some (LO vs n)) (q : P (.ref h.objs.size) (h.push (LI a))) : WP prog w A (pyIter (.ref a)) h P :=
  .of fun Q E gs dr tk os c => wpAny_pyIter_list (LO.isList e) (c _ _ _ q)
theorem pi_range {r : Addr} {a b : Int} {t u v : Tok} (er : h.get? r = some (RO a b t u v)) (ha : -(10000 : Int) ≤ a ∧ a ≤ 10000) (hb : -(10000 : Int) ≤ b ∧ b ≤ 10000) (q : P (.ref h.objs.size) (h.push (RI a b))) : WP prog w A (pyIter (.ref r)) h P := by
  have hn : Builtin.Range.rangeSize a b 1 = ((b - a).toNat : Int) := by
    unfold Builtin.Range.rangeSize
    simp
    omega
  refine .of fun Q E gs dr tk os c => wpAny_pyIter_range er ?_ (c _ _ _ q)
  unfold Builtin.Range.small Builtin.Range.rangeFitsLong
  rw [hn]
  simp
  omega
theorem pi_dict {d : Addr} {o : Obj} {kvs : List (Int × Value)} (hs : NoSys d) (e : h.get? d = some o) (x : DictO prog w kvs o) (q : ∀ ep, h.DictAt (intKind prog w) d kvs ep → P (.ref h.objs.size) (h.push (KI d kvs.length ep))) : WP prog w A (pyIter (.ref d)) h P := by
  obtain ⟨ep, hat⟩ := (DictO.dictOf e x).dictAt
  exact .of fun Q E gs dr tk os c => wpAny_pyIter_dict (knd := intKind prog w) hs hat (c _ _ _ (q ep hat))
theorem self_list (lv : A.handled = none) {I a : Addr} {vs : List Value} {n : Nat} (hI : h.get? I = some (LI a)) (ha : h.get? a = some (LO vs n)) (Q : Value → Shared → Prop) (E : Value → Shared → Prop) (s : Shared) (hs : s.heap = h) (q : Q (.ref I) s) : wpAny (model prog w) A (pyIter (.ref I)) Q E s := by
  have hne : a ≠ I := by rintro rfl; rw [hI] at ha; have z := congrArg Obj.cls (Option.some.inj ha); simp [LI, LO] at z
  exact (Walks.list (prog := prog) (w := w) lv I a hne vs.toArray).self 0 s Q E (by rw [hs]; exact ⟨⟨_, hI, rfl, rfl⟩, LO.isList ha⟩) q
theorem self_range (lv : A.handled = none) {I : Addr} {a b : Int} (hI : h.get? I = some (RI a b)) (Q : Value → Shared → Prop) (E : Value → Shared → Prop) (s : Shared) (hs : s.heap = h) (q : Q (.ref I) s) : wpAny (model prog w) A (pyIter (.ref I)) Q E s := by
  have hn : Builtin.Range.rangeSize a b 1 = ((b - a).toNat : Int) := by
    unfold Builtin.Range.rangeSize
    simp
    omega
  refine (Walks.range (prog := prog) (w := w) lv I a 1 (b - a).toNat).self 0 s Q E ?_ q
  rw [hs]
  refine hI.trans ?_
  unfold RI; rw [hn]; simp
theorem self_keys (lv : A.handled = none) {I d : Addr} {kvs : List (Int × Value)} {ep : Nat} (hI : h.get? I = some (KI d kvs.length ep)) (hat : h.DictAt (intKind prog w) d kvs ep) (Q : Value → Shared → Prop) (E : Value → Shared → Prop) (s : Shared) (hs : s.heap = h) (q : Q (.ref I) s) : wpAny (model prog w) A (pyIter (.ref I)) Q E s := by
  have hne : d ≠ I := by
    rintro rfl
    obtain ⟨o, es, g, _, x, _⟩ := hat
    rw [hI] at g; cases g; cases x
  exact (Walks.dictKeys (prog := prog) (w := w) (knd := intKind prog w) lv I d hne kvs ep).self 0 s Q E (by rw [hs]; exact ⟨⟨_, hI, rfl, rfl⟩, hat⟩) q

theorem it_list {c : Code} {target : Expr} {B : Heap → (Heap → Prop) → Prop} {I a : Addr} {vs : List Value} {n : Nat} {ds : List D} {kn : Know} (lv : A.handled = none) (lp : Loop prog w A c target (.ref I) env B PF) (hB : ∀ h P Q, (∀ h, P h → Q h) → B h P → B h Q)
    (hkn : kn = κ ∨ kn = fr) (e : kn a = some (LO vs n)) (rs : Reps prog w kn vs ds) (S : Sat prog w κ fr L m ((I, .obj (LI a)) :: own) h) (J : Nat → Loc → Know → List (Addr × Res) → Prop) (hj : J 0 m fr own)
    (turn : ∀ i d v m fr' own o h₁, ds[i]? = some d → Rep prog w kn v d → J i m fr' own → Know.le fr fr' → Sat prog w κ fr' L m ((I, .obj o) :: own) h₁ →
      WP prog w A (assign target env v) h₁ fun _ h₂ => B h₂ (TurnQ prog w κ fr' L I o (J (i + 1))))
    (done : ∀ m fr' own h', J ds.length m fr' own → Know.le fr fr' → Sat prog w κ fr' L m own h' → PF .next h') : WPC prog w A c h PF := by
  have hsub : Sub kn h := by rcases hkn with rfl | rfl; exact S.base; exact S.fsub
  have ea := hsub _ _ e
  obtain ⟨oI, hI, eI⟩ := S.at (.head _)
  cases eI
  have hne : a ≠ I := by rintro rfl; rw [hI] at ea; have z := congrArg Obj.cls (Option.some.inj ea); simp [LI, LO] at z
  have W := Walks.list (prog := prog) (w := w) lv I a hne vs.toArray
  have hlen : vs.toArray.size = ds.length := by rw [List.size_toArray]; exact rs.length
  rw [hlen] at W
  refine lp.walk hB W ?_ ⟨⟨_, hI, rfl, rfl⟩, LO.isList ea⟩ (fun i h st => by obtain ⟨⟨o, e, _⟩, _⟩ := st; exact ⟨o, e⟩) (fun i v h _ st => let_list st.1 rfl) S J hj ?_ done
  · intro b hb
    rcases List.mem_cons.mp hb with rfl | hb
    · exact .inl rfl
    · rw [List.mem_singleton.mp hb]
      rcases hkn with rfl | rfl
      · exact .inr (.inl ⟨_, e⟩)
      · exact .inr (.inr ⟨_, e⟩)
  · intro i v m fr' own o h₂ hi hP hJ hle S₂
    obtain ⟨d, hd, rd⟩ := rs.at (i := i) (v := v) (by simpa using hP)
    exact turn i d v m fr' own o h₂ hd rd hJ hle S₂
theorem it_range {c : Code} {target : Expr} {B : Heap → (Heap → Prop) → Prop} {I : Addr} {a b : Int} (lv : A.handled = none) (lp : Loop prog w A c target (.ref I) env B PF) (hB : ∀ h P Q, (∀ h, P h → Q h) → B h P → B h Q)
    (S : Sat prog w κ fr L m ((I, .obj (RI a b)) :: own) h) (J : Nat → Loc → Know → List (Addr × Res) → Prop) (hj : J 0 m fr own)
    (turn : ∀ (i : Nat) t m fr' own o h₁, a + (i : Int) < b → J i m fr' own → Know.le fr fr' → Sat prog w κ fr' L m ((I, .obj o) :: own) h₁ →
      WP prog w A (assign target env (.int (a + (i : Int)) t)) h₁ fun _ h₂ => B h₂ (TurnQ prog w κ fr' L I o (J (i + 1))))
    (done : ∀ m fr' own h', J (b - a).toNat m fr' own → Know.le fr fr' → Sat prog w κ fr' L m own h' → PF .next h') (ht : ∀ I v, letOwnedTupleGo target (.ref I) v = pure () := by intro _ _; rfl) : WPC prog w A c h PF := by
  have hn : Builtin.Range.rangeSize a b 1 = ((b - a).toNat : Int) := by
    unfold Builtin.Range.rangeSize
    simp
    omega
  obtain ⟨oI, hI, eI⟩ := S.at (.head _)
  cases eI
  have W := (Walks.range (prog := prog) (w := w) lv I a 1 (b - a).toNat).bound
  refine lp.walk hB W ?_ ?_ (fun i h st => ⟨_, st⟩) (fun i v h _ _ => by rw [ht]; exact .pure rfl) S J hj ?_ done
  · intro b hb; exact .inl (List.mem_singleton.mp hb)
  · refine hI.trans ?_
    unfold RI; rw [hn]; simp
  · rintro i v m fr' own o h₂ hi ⟨_, t', rfl⟩ hJ hle S₂
    have e1 : a + (i : Int) * 1 = a + (i : Int) := by omega
    rw [e1]
    exact turn i t' m fr' own o h₂ (by omega) hJ hle S₂
theorem it_keys {c : Code} {target : Expr} {B : Heap → (Heap → Prop) → Prop} {I d : Addr} {o : Obj} {kvs : List (Int × Value)} {ds : List (Int × Int)} {ep : Nat} {kn : Know} (lv : A.handled = none) (lp : Loop prog w A c target (.ref I) env B PF) (hB : ∀ h P Q, (∀ h, P h → Q h) → B h P → B h Q)
    (hkn : kn = κ ∨ kn = fr) (e : kn d = some o) (y : IntVals kvs ds) (hat : h.DictAt (intKind prog w) d kvs ep) (S : Sat prog w κ fr L m ((I, .obj (KI d kvs.length ep)) :: own) h) (J : Nat → Loc → Know → List (Addr × Res) → Prop) (hj : J 0 m fr own)
    (turn : ∀ (i : Nat) k j t m fr' own o h₁, ds[i]? = some (k, j) → J i m fr' own → Know.le fr fr' → Sat prog w κ fr' L m ((I, .obj o) :: own) h₁ →
      WP prog w A (assign target env (.int k t)) h₁ fun _ h₂ => B h₂ (TurnQ prog w κ fr' L I o (J (i + 1))))
    (done : ∀ m fr' own h', J ds.length m fr' own → Know.le fr fr' → Sat prog w κ fr' L m own h' → PF .next h') (ht : ∀ I v, letOwnedTupleGo target (.ref I) v = pure () := by intro _ _; rfl) : WPC prog w A c h PF := by
  have hsub : Sub kn h := by rcases hkn with rfl | rfl; exact S.base; exact S.fsub
  have ed := hsub _ _ e
  obtain ⟨oI, hI, eI⟩ := S.at (.head _)
  cases eI
  have hne : d ≠ I := by
    rintro rfl
    obtain ⟨o, es, g, _, x, _⟩ := hat
    rw [hI] at g; cases g; cases x
  have W := Walks.dictKeys (prog := prog) (w := w) (knd := intKind prog w) lv I d hne kvs ep
  rw [y.length] at W
  refine lp.walk hB W ?_ ?_ (fun i h st => by obtain ⟨⟨o, e, _⟩, _⟩ := st; exact ⟨o, e⟩) (fun i v h _ _ => by rw [ht]; exact .pure rfl) S J hj ?_ done
  · intro b hb
    rcases List.mem_cons.mp hb with rfl | hb
    · exact .inl rfl
    · rw [List.mem_singleton.mp hb]
      rcases hkn with rfl | rfl
      · exact .inr (.inl ⟨_, e⟩)
      · exact .inr (.inr ⟨_, e⟩)
  · refine ⟨⟨_, hI, rfl, ?_⟩, hat⟩
    rw [← y.length]; rfl
  · rintro i v m fr' own o h₂ hi ⟨k, x, hP, hv⟩ hJ hle S₂
    obtain ⟨t, rfl⟩ := Value.isInt_shape hv
    obtain ⟨j, t', hd, rfl⟩ := y.get hP
    exact turn i k j t m fr' own o h₂ hd hJ hle S₂
end
end Mine
end

section
set_option maxRecDepth 100000
set_option Elab.async false
set_option linter.unusedVariables false
set_option linter.unusedSimpArgs false
set_option autoImplicit false
namespace Mine
open PySem PySem.Calls PySem.W PyProof.Rows

section
variable {prog : Program} {w : World} {A : Around} {env : Env} {h : Heap}
variable {P : Value → Heap → Prop} {PU : Unit → Heap → Prop} {PF : Flow → Heap → Prop} {κ fr : Know} {L : Addr} {m : Loc} {own own' : List (Addr × Res)}

inductive FrzQ (prog : Program) (w : World) (r : List D → D) (P : Value → Heap → Prop) (vs : List Value) (h' : Heap) : Prop
  | mk (len : vs.length ≤ 1000) (κ fr : Know) (L : Addr) (m : Loc) (own : List (Addr × Res)) (ds : List D) (S : Sat prog w κ fr L m own h') (rs : Reps prog w fr vs ds) (q : ∀ fr' W h'', Know.le fr fr' → Rep prog w fr' (.ref W) (r ds) → Sat prog w κ fr' L m own h'' → P (.ref W) h'')
inductive OwnQ (prog : Program) (w : World) (P : Value → Heap → Prop) (vs : List Value) (h' : Heap) : Prop
  | mk (len : vs.length ≤ 1000) (κ fr : Know) (L : Addr) (m : Loc) (own : List (Addr × Res)) (S : Sat prog w κ fr L m own h') (q : ∀ W h'', Sat prog w κ fr L m ((W, .lst vs) :: own) h'' → P (.ref W) h'')
inductive SliceQ (prog : Program) (w : World) (P : Value → Heap → Prop) (l u : Value) (h₂ : Heap) : Prop
  | mk (κ fr : Know) (L : Addr) (m : Loc) (own : List (Addr × Res)) (S : Sat prog w κ fr L m own h₂) (q : ∀ fr' W h', Know.le fr fr' → fr' W = some (SlO l u .none) → Sat prog w κ fr' L m own h' → P (.ref W) h')
/-- a display: a new list of the frame's own -/
theorem e_list_own {es : List Expr} {pos : Pos} (q : WPs prog w A env es [] h (OwnQ prog w P)) (hp : plainArgs es = true := by rfl) :
    WP prog w A (eval (.List es pos) env) h P := e_list (hp := hp) (by
  have mono : ∀ {es vs h} {Q R : List Value → Heap → Prop}, WPs prog w A env es vs h Q → (∀ a h', Q a h' → R a h') → WPs prog w A env es vs h R := by
    intro es
    induction es with
    | nil => intro vs h Q R x y; exact y _ _ x
    | cons e r ih => intro vs h Q R x y; exact WP.mono x fun _ _ z => ih z y
  exact mono q fun vs h' ⟨hl, κ, fr, L, m, own, S, z⟩ => ⟨hl, z _ _ (own_list S vs 0)⟩)
theorem WPs.mono : ∀ {es : List Expr} {vs : List Value} {h : Heap} {Q R : List Value → Heap → Prop}, WPs prog w A env es vs h Q → (∀ a h', Q a h' → R a h') → WPs prog w A env es vs h R := by
  intro es
  induction es with
  | nil => intro vs h Q R x y; exact y _ _ x
  | cons e r ih => intro vs h Q R x y; exact WP.mono x fun _ _ z => ih z y
theorem e_list_frz {es : List Expr} {pos : Pos} (q : WPs prog w A env es [] h (FrzQ prog w .lst P)) (hp : plainArgs es = true := by rfl) :
    WP prog w A (eval (.List es pos) env) h P := e_list (hp := hp) (q.mono fun vs h' ⟨hl, κ, fr, L, m, own, ds, S, r, z⟩ => ⟨hl, by
      obtain ⟨fr', le, r', S'⟩ := frz_list (n := 0) S r
      exact z _ _ _ le r' S'⟩)
theorem e_tuple_frz {es : List Expr} {k : Nat} {pos : Pos} (q : WPs prog w A env es [] h (FrzQ prog w .tup P)) (hp : plainArgs es = true := by rfl) :
    WP prog w A (eval (.Tuple es k pos) env) h P := e_tuple (hp := hp) (q.mono fun vs h' ⟨hl, κ, fr, L, m, own, ds, S, r, z⟩ => ⟨hl, by
      obtain ⟨fr', le, r', S'⟩ := frz_tuple (n := 0) S r
      exact z _ _ _ le r' S'⟩)
/-- a slice without a step of a list that is known, its bounds not negative -/
theorem pick_plain {vs : List Value} (a : Option Nat) (b : Option Nat) : (slicePick vs.toArray (a.map Int.ofNat) (b.map Int.ofNat) none).toList = (vs.take (b.getD vs.length)).drop (a.getD 0) := by
  rw [slicePick_plain]
  have hc : ∀ (n k : Nat), clipAt n (Int.ofNat k) = min k n := by
    intro n k
    unfold clipAt
    simp
    omega
  have e1 : (a.map Int.ofNat).elim 0 (clipAt vs.toArray.size) = min (a.getD 0) vs.length := by cases a with
    | none => simp
    | some x => exact (hc _ _).trans (by simp)
  have e2 : (b.map Int.ofNat).elim vs.toArray.size (clipAt vs.toArray.size) = min (b.getD vs.length) vs.length := by cases b with
    | none => simp
    | some x => exact (hc _ _).trans (by simp)
  rw [e1, e2]
  simp only
  apply List.ext_getElem?
  intro i
  simp only [List.getElem?_take, List.getElem?_drop]
  by_cases h1 : a.getD 0 ≤ vs.length
  · rw [Nat.min_eq_left h1]
    by_cases h2 : a.getD 0 + i < b.getD vs.length
    · rw [if_pos h2]
      by_cases h3 : i < min (b.getD vs.length) vs.length - a.getD 0
      · rw [if_pos h3]
      · rw [if_neg h3, List.getElem?_eq_none (by omega)]
    · rw [if_neg h2, if_neg (by omega)]
  · rw [if_neg (by omega)]
    rw [List.getElem?_eq_none (by omega)]
    simp
noncomputable def partV (o : Option (Nat × Tok)) : Value := match o with
  | none => .none
  | some p => .int p.1 p.2
theorem slice_ints {v : Value} {ns : List Int} {kn : Know} {sl : Addr} (lo hi : Option (Nat × Tok)) (S : Sat prog w κ fr L m own h) (hk : Sub kn h) (r : Rep prog w kn v (.ints ns)) (hsz : ns.length ≤ 10000)
    (es : h.get? sl = some (SlO (partV lo) (partV hi) .none))
    (q : ∀ fr' W h', Know.le fr fr' → Rep prog w fr' (.ref W) (.ints ((ns.take ((hi.map (·.1)).getD ns.length)).drop ((lo.map (·.1)).getD 0))) → Sat prog w κ fr' L m own h' → P (.ref W) h') :
    GetQ prog w A v (.ref sl) h P := by
  obtain ⟨a, vs, n, rfl, e, rs⟩ := r.list
  have hlen : vs.length = ns.length := by rw [rs.length]; simp
  have hip : ∀ o : Option (Nat × Tok), IsPart (partV o) ((o.map (·.1)).map Int.ofNat) := by
    intro o; cases o with
    | none => exact .none
    | some p => exact .int _ _
  refine slice_list (hk _ _ e) es (hip lo) (hip hi) .none (by simp) (by omega) ?_
  rw [pick_plain, hlen]
  have rr : Reps prog w fr vs (ns.map .int) := Reps.of_ints rs.ints
  obtain ⟨fr', le, r', S'⟩ := frz_list (n := 0) S ((rr.take ((hi.map (·.1)).getD ns.length)).drop ((lo.map (·.1)).getD 0))
  refine q _ _ _ le ?_ S'
  unfold D.ints
  rw [List.map_drop, List.map_take]
  exact r'
theorem add_frz {v u : Value} {ds es : List D} (S : Sat prog w κ fr L m own h) (r₁ : Rep prog w fr v (.lst ds)) (r₂ : Rep prog w fr u (.lst es)) (hsz : ds.length + es.length ≤ 10000)
    (q : ∀ fr' W h', Know.le fr fr' → Rep prog w fr' (.ref W) (.lst (ds ++ es)) → Sat prog w κ fr' L m own h' → P (.ref W) h') : WP prog w A (binaryOp .Add v u) h P := by
  obtain ⟨a, vs, n, rfl, e, rs⟩ := r₁.list
  obtain ⟨b, ws, n', rfl, e', rs'⟩ := r₂.list
  have h1 := rs.length
  have h2 := rs'.length
  refine add_list (S.fsub _ _ e) (S.fsub _ _ e') (by omega) ?_
  obtain ⟨fr', le, r', S'⟩ := frz_list (n := 0) S (rs.append rs')
  exact q _ _ _ le r' S'
/-- a slice object -/
theorem e_slice_frz {lower upper : Option Expr} {pos : Pos} (q : WP prog w A (evalPart lower env) h fun l h₁ => WP prog w A (evalPart upper env) h₁ (SliceQ prog w P l)) :
    WP prog w A (eval (.Slice lower upper none pos) env) h P :=
  e_slice (q.mono fun l h₁ z => z.mono fun u h₂ ⟨κ, fr, L, m, own, S, z⟩ => p_none (z _ _ _ (Know.le_ins (S.none_of (get?_size h₂)).2) Know.ins_self (S.fpush rfl)))
end
end Mine
end

section
set_option maxRecDepth 100000
set_option Elab.async false
set_option linter.unusedVariables false
set_option linter.unusedSimpArgs false
set_option autoImplicit false
namespace Mine
open PySem PySem.Calls PySem.W PyProof.Rows

noncomputable abbrev genv (i : Nat) (L a : Addr) (cd : Value) (cs : List (Str × Addr)) : Env :=
  { scope := scopeOf i, locals := L, globals := mainGlobals, cells := cs, qual := nameOf i ++ ".<locals>.", func := some a, code := cd, frame := some L, builtins := builtinsNs }
theorem bindL_all {kindOf : Str → Option NameKind} : ∀ {binds : List (Str × Value)} {m : Loc}, (∀ x ∈ binds, kindOf x.1 = some .local) → bindL kindOf binds m = binds.foldl (fun m p => upd m p.1 p.2) m
  | [], m, _ => rfl
  | (n, v) :: r, m, hl => by
    unfold bindL
    rw [if_pos (hl _ (.head _)), bindL_all fun x hx => hl x (.tail _ hx)]
    rfl
theorem bindC_all {kindOf : Str → Option NameKind} : ∀ {binds : List (Str × Value)} {m : Loc}, (∀ x ∈ binds, kindOf x.1 = some .local) → bindC kindOf binds m = m
  | [], m, _ => rfl
  | (n, v) :: r, m, hl => by
    unfold bindC
    rw [if_pos (hl _ (.head _)), bindC_all fun x hx => hl x (.tail _ hx)]
section
variable {prog : Program} {w : World} {A : Around} {h : Heap}
variable {P : Value → Heap → Prop}
theorem call_cells {a : Addr} {i : Nat} {dV kV : Value} {vals : List Value} {binds : List (Str × Value)} (cs : Addr → List (Str × Addr)) (F : FnAt h a i dV kV) (hl : h.NoLimit) (hroom : A.depth < recursionLimit)
    (hb : ∀ doc pm an cdv ct, bindArgs (fdAt i dV kV doc pm an cdv ct) ⟨vals, []⟩ = pure binds)
    (hcs : ∀ n, cellsFrom (n + 1) (scopeOf i).names [] = cs n) (hlook : ∀ n, ∀ p ∈ cs n, (cs n).lookup p.1 = some p.2)
    (hloc : ∀ x ∈ binds, (scopeOf i).names.lookup x.1 = some .local)
    (q : ∀ L h₁ cd, KeepsH h h₁ → Sat prog w h.get? Know.nil L (mapOf binds) ((cs L).map fun p => (p.2, .cell none)) h₁ → WP prog w (A.deeper (genv i L a cd (cs L))) (execs (bodyOf i) (genv i L a cd (cs L))) h₁ fun f h' => P (retOf f) h')
    (hco : (scopeOf i).isCoroutine = false := by rfl) (hgen : (scopeOf i).isGenerator = false := by rfl) (hk : (scopeOf i).kind = .function := by rfl) :
    WP prog w A (call (.ref a) vals []) h P := by
  refine WP.call fun gs dr tk os => ?_
  obtain ⟨oc, od, osl, doc, pm, an, cdv, ct, g, hcd⟩ := F
  refine codeAny_call_cells (binds := binds) hroom g rfl hl hcd rfl (hb doc pm an cdv ct) rfl (fun x hx => .inl (hloc x hx)) (fun s₁ X => ?_) hco hgen hk
  have henv : callEnvC (fdAt i dV kV doc pm an cdv ct) h.objs.size a = genv i h.objs.size a cdv (cs h.objs.size) := by
    unfold callEnvC newEnv genv
    rw [← hcs]
  dsimp only at X ⊢
  rw [henv] at X ⊢
  have e1 : bindL (genv i h.objs.size a cdv (cs h.objs.size)).kindOf binds (fun _ => none) = mapOf binds := bindL_all hloc
  have e2 : bindC (genv i h.objs.size a cdv (cs h.objs.size)).kindOf binds (fun _ => none) = fun _ => none := bindC_all hloc
  rw [e1, e2] at X
  obtain ⟨h₁, tk₁, rfl⟩ := X.toInCall.same
  have hkp : KeepsH h h₁ := X.toInCall.keep
  have hL : h.get? h.objs.size = none := get?_size h
  have hgt : ∀ c, h.objs.size < c → h.get? c = none := fun c hc => by
    cases e : h.get? c with
    | none => rfl
    | some o => exact absurd (Heap.lt_size e) (Nat.not_lt.mpr (Nat.le_of_lt hc))
  have S : Sat prog w h.get? Know.nil h.objs.size (mapOf binds) ((cs h.objs.size).map fun p => (p.2, .cell none)) h₁ := by
    refine ⟨hkp, fun _ _ e => (by cases e), X.toInCall.ns, ⟨hL, rfl⟩, ?_, ?_⟩
    · intro p hp
      obtain ⟨c, hc, rfl⟩ := List.mem_map.mp hp
      have ha := X.above c.1 c.2 hc
      obtain ⟨o, ho, hd⟩ := X.cell c.1 c.2 (hlook _ c hc)
      exact ⟨⟨o, ho, hd⟩, hgt _ ha, rfl, Nat.ne_of_gt ha⟩
    · rw [List.map_map, List.Nodup, List.pairwise_map]
      exact X.apart
  refine wpAny_mono (q h.objs.size h₁ cdv hkp S gs dr tk₁ os) (fun f s' ⟨h', tk', e, p⟩ => ⟨h', tk', e, ?_⟩) fun _ _ e => e.elim
  cases f <;> exact p
end
end Mine
end

section
set_option maxRecDepth 100000
set_option Elab.async false
set_option linter.unusedVariables false
set_option autoImplicit false
namespace Mine
open PySem PySem.Calls PySem.W PyProof.Rows
local macro_rules | `(tactic| walk_at "lk") => `(tactic| first | assumption | exact upd_self | (refine' upd_ne (by decide) ?lkE; case lkE => walk_at "lk"))

noncomputable def putAll (acc t : List (Int × Int)) : List (Int × Int) := t.foldl (fun acc p => dput acc p.1 p.2) acc
noncomputable def addOne (acc : List (Int × Int)) (p : Int × Int) : List (Int × Int) := dput acc p.1 (match dget acc p.1 with | some x => x + p.2 | none => p.2)
noncomputable def addAll (acc s : List (Int × Int)) : List (Int × Int) := s.foldl addOne acc
noncomputable def addC (t s : List (Int × Int)) : List (Int × Int) := addAll (putAll [] t) s
theorem putAll_take {acc t : List (Int × Int)} {i : Nat} {p : Int × Int} (h : t[i]? = some p) : putAll acc (t.take (i + 1)) = dput (putAll acc (t.take i)) p.1 p.2 := by
  unfold putAll; rw [List.take_add_one, h]; simp
theorem addAll_take {acc t : List (Int × Int)} {i : Nat} {p : Int × Int} (h : t[i]? = some p) : addAll acc (t.take (i + 1)) = addOne (addAll acc (t.take i)) p := by
  unfold addAll; rw [List.take_add_one, h]; simp
theorem dput_len (acc : List (Int × Int)) (k v : Int) : (dput acc k v).length ≤ acc.length + 1 := by
  unfold dput; split
  · rw [List.length_map]; omega
  · simp
theorem putAll_len (acc t : List (Int × Int)) : (putAll acc t).length ≤ acc.length + t.length := by
  unfold putAll
  induction t generalizing acc with
  | nil => simp
  | cons p r ih =>
    rw [List.foldl_cons, List.length_cons]
    have h1 := ih (dput acc p.1 p.2)
    have h2 := dput_len acc p.1 p.2
    omega
theorem addAll_len (acc t : List (Int × Int)) : (addAll acc t).length ≤ acc.length + t.length := by
  unfold addAll
  induction t generalizing acc with
  | nil => simp
  | cons p r ih =>
    rw [List.foldl_cons, List.length_cons]
    have h1 := ih (addOne acc p)
    have h2 := dput_len acc p.1 (match dget acc p.1 with | some x => x + p.2 | none => p.2)
    unfold addOne at h1
    unfold addOne
    omega
theorem take_len_le {α : Type} (l : List α) (i : Nat) : (l.take i).length ≤ l.length := by rw [List.length_take]; omega

inductive CI1 (ad₂ Dn : Addr) (t : List (Int × Int)) (i : Nat) (m : Loc) (fr : Know) (own : List (Addr × Res)) : Prop
  | mk (m1 : m "source" = some (.ref ad₂)) (m2 : m "new_callers" = some (.ref Dn)) (kvs : List (Int × Value)) (e : own = [(Dn, .dct kvs)]) (y : IntVals kvs (putAll [] (t.take i)))
inductive CI2 (Dn : Addr) (t s : List (Int × Int)) (i : Nat) (m : Loc) (fr : Know) (own : List (Addr × Res)) : Prop
  | mk (m2 : m "new_callers" = some (.ref Dn)) (kvs : List (Int × Value)) (e : own = [(Dn, .dct kvs)]) (y : IntVals kvs (addAll (putAll [] t) (s.take i)))
section
variable {prog : Program} {w : World} {A : Around} {h : Heap} {a : Ad} {d : Nat}
variable {P : Value → Heap → Prop}

theorem add_callers_spec (lv : Lv A d) (hd : d ≤ 100) (B : Base prog w a h.get?) {v₁ v₂ : Value} {t s : List (Int × Int)} (r₁ : Rep prog w h.get? v₁ (.dct t)) (r₂ : Rep prog w h.get? v₂ (.dct s)) (ht : t.length + s.length ≤ 1000)
    (q : ∀ h' v, KeepsH h h' → Rep prog w (fresh h h') v (.dct (addC t s)) → P v h') : WP prog w A (call (.ref a.callers) [v₁, v₂] []) h P := by
  refine call_def (B.callers h fun _ _ e => e) (B.lim h fun _ _ e => e) (lv.depth (by omega)) (binds := [("target", v₁), ("source", v₂)]) (fun _ _ _ _ _ s _ => binds_of (by with_unfolding_all rfl) s) (by rfl) (fun L h₁ cd hk S => ?_) (by decide +kernel)
  have lv' := lv.deeper (fenv 3 L a.callers cd)
  generalize hA : A.deeper (fenv 3 L a.callers cd) = A' at lv' ⊢
  obtain ⟨ad₁, o₁, kvs₁, rfl, e₁, x₁, y₁, hs₁⟩ := r₁.dict
  obtain ⟨ad₂, o₂, kvs₂, rfl, e₂, x₂, y₂, hs₂⟩ := r₂.dict
  dsimp only [mapOf, List.foldl_cons, List.foldl_nil] at S
  refine x_assign (e_dict0 ?_)
  have S1 := own_dict S
  have hD : NoSys h₁.objs.size := B.noSysF (S.none_of (get?_size h₁)).1
  generalize h₁.objs.size = Dn at S1 hD ⊢
  refine store S1 fun h₂ S => ?_
  refine x_for_items lv'.hh S (CI1 ad₂ Dn t) (e_meth F.plainAttrs_dict F.slot_dict_items F.type_dict_items ?_)
  refine v_local S (by walk_at "lk") ⟨TyH.ref (S.base _ _ e₁) (by obtain ⟨_, _, z, _⟩ := x₁; exact z.1), fun _ z => by cases z; exact ⟨_, S.base _ _ e₁, by obtain ⟨_, _, z, _⟩ := x₁; exact z.2.1⟩, ?_⟩
  refine d_items hs₁ (S.base _ _ e₁) x₁ ?_
  refine ⟨Know.nil, _, _, _, ad₁, o₁, kvs₁, t, rfl, Heap.get?_push_size _ rfl, e₁, x₁, y₁, (S.push (.obj (ViO "dict_items" ad₁)) rfl rfl).drop (List.sublist_cons_self _ _), ⟨by walk_at "lk", by walk_at "lk", [], rfl, by simp [putAll, IntVals]⟩, ?_, ?_⟩
  · rintro i I k j t' u m fr' own o' h₁ hds ⟨m1, m2, kvs, rfl, hI⟩ hle S
    refine store S fun h₂ S => store S fun h₃ S => ?_
    have hlen : kvs.length ≤ 10000 := by have := hI.length; have := putAll_len [] (t.take i); have := take_len_le t i; simp at *; omega
    refine x_assign_sub (v_local S (by walk_at "lk") (v_local S (by walk_at "lk") (v_local S (by walk_at "lk") (d_set S (.tail .head) hlen fun h₄ S => x_nil ?_))))
    refine ⟨_, _, _, Know.le.refl _, ⟨by walk_at "lk", by walk_at "lk", _, rfl, ?_⟩, S⟩
    rw [putAll_take hds]; exact hI.put _ _ _
  rintro m fr' own h' ⟨m1, m2, kvs, rfl, hI⟩ hle S
  rw [List.take_length] at hI
  refine x_for_items lv'.hh S (CI2 Dn t s) (e_meth F.plainAttrs_dict F.slot_dict_items F.type_dict_items ?_)
  refine v_local S (by walk_at "lk") ⟨TyH.ref (S.base _ _ e₂) (by obtain ⟨_, _, z, _⟩ := x₂; exact z.1), fun _ z => by cases z; exact ⟨_, S.base _ _ e₂, by obtain ⟨_, _, z, _⟩ := x₂; exact z.2.1⟩, ?_⟩
  refine d_items hs₂ (S.base _ _ e₂) x₂ ?_
  refine ⟨fr', _, _, _, ad₂, o₂, kvs₂, s, rfl, Heap.get?_push_size _ rfl, e₂, x₂, y₂, (S.push (.obj (ViO "dict_items" ad₂)) rfl rfl).drop (List.sublist_cons_self _ _), ⟨by walk_at "lk", kvs, rfl, by simpa [addAll] using hI⟩, ?_, ?_⟩
  · rintro i I k j t' u m fr' own o' h₁ hds ⟨m2, kvs, rfl, hI⟩ hle S
    refine store S fun h₂ S => store S fun h₃ S => ?_
    have hlen : kvs.length ≤ 10000 := by have := hI.length; have := addAll_len (putAll [] t) (s.take i); have := putAll_len [] t; have := take_len_le s i; simp at *; omega
    obtain ⟨oD, eD, xD⟩ := S.dct (.tail _ (.head _))
    refine x_if (t_cmp (v_local S (by walk_at "lk") (v_local S (by walk_at "lk") (d_in hD eD xD hI (c_bool ?_)))))
    cases hg : dget (addAll (putAll [] t) (s.take i)) k with
    | none =>
      show WP _ _ _ _ _ _
      refine x_assign_sub (v_local S (by walk_at "lk") (v_local S (by walk_at "lk") (v_local S (by walk_at "lk") (d_set S (.tail .head) hlen fun h₄ S => x_nil (x_nil ?_)))))
      refine ⟨_, _, _, Know.le.refl _, ⟨by walk_at "lk", _, rfl, ?_⟩, S⟩
      rw [addAll_take hds]; unfold addOne; simp only [hg]; exact hI.put _ _ _
    | some x =>
      show WP _ _ _ _ _ _
      refine x_if (t_call (e_call_b (v_builtin (v := .builtin "isinstance") B.glo S.base (by simp [biNames]) ⟨rfl, v_local S (by walk_at "lk") (v_builtin (v := .type "tuple") B.glo S.base (by simp [biNames]) ?_)⟩)))
      refine isi_int_tuple (c_bool ?_)
      show WP _ _ _ _ _ _
      refine x_aug_sub (v_local S (by walk_at "lk") (v_local S (by walk_at "lk") (d_geti eD xD hI hg fun t => v_local S (by walk_at "lk") (i_iadd fun t => d_set S (.tail .head) hlen fun h₄ S => x_nil (x_nil (x_nil ?_))))))
      refine ⟨_, _, _, Know.le.refl _, ⟨by walk_at "lk", _, rfl, ?_⟩, S⟩
      rw [addAll_take hds]; unfold addOne; simp only [hg]; exact hI.put _ _ _
  rintro m fr'' own h' ⟨m2, kvs, rfl, hI⟩ hle S
  rw [List.take_length] at hI
  refine x_ret (v_local S (by walk_at "lk") ?_)
  obtain ⟨fr3, _, r3, S3⟩ := frz_dict (pre := []) (post := []) S rfl hI hD
  exact q _ _ (fun _ _ e => S3.base _ _ e) (r3.mono (S3.le_fresh fun _ _ e => e))
end
end Mine
end

section
set_option maxRecDepth 100000
set_option Elab.async false
set_option linter.unusedVariables false
set_option autoImplicit false
namespace Mine
open PySem PySem.Calls PySem.W PyProof.Rows
local macro_rules | `(tactic| walk_at "lk") => `(tactic| first | assumption | exact upd_self | (refine' upd_ne (by decide) ?lkE; case lkE => walk_at "lk"))

section
variable {prog : Program} {w : World} {A : Around} {h : Heap} {a : Ad} {d : Nat}
variable {P : Value → Heap → Prop}

noncomputable abbrev Stats (a b c d : Int) (t : List (Int × Int)) : D := .tup [.int a, .int b, .int c, .int d, .dct t]
theorem Rep.stats {k : Know} {v : Value} {a b c d : Int} {t : List (Int × Int)} (r : Rep prog w k v (Stats a b c d t)) :
    ∃ ad n t1 t2 t3 t4 u, v = .ref ad ∧ k ad = some (TO [.int a t1, .int b t2, .int c t3, .int d t4, u] n) ∧ Rep prog w k u (.dct t) := by
  obtain ⟨ad, vs, n, rfl, e, rs⟩ := r.tuple
  cases rs with | cons r1 rs => cases rs with | cons r2 rs => cases rs with | cons r3 rs => cases rs with | cons r4 rs => cases rs with | cons r5 rs =>
  cases rs
  obtain ⟨t1, rfl⟩ := r1.intv
  obtain ⟨t2, rfl⟩ := r2.intv
  obtain ⟨t3, rfl⟩ := r3.intv
  obtain ⟨t4, rfl⟩ := r4.intv
  exact ⟨ad, n, t1, t2, t3, t4, _, rfl, e, r5⟩
theorem add_func_stats_spec (lv : Lv A d) (hd : d ≤ 99) (B : Base prog w a h.get?) {v₁ v₂ : Value} {a1 a2 a3 a4 b1 b2 b3 b4 : Int} {t s : List (Int × Int)}
    (r₁ : Rep prog w h.get? v₁ (Stats a1 a2 a3 a4 t)) (r₂ : Rep prog w h.get? v₂ (Stats b1 b2 b3 b4 s)) (ht : t.length + s.length ≤ 1000)
    (q : ∀ h' v, KeepsH h h' → Rep prog w (fresh h h') v (Stats (b1 + a1) (b2 + a2) (b3 + a3) (b4 + a4) (addC t s)) → P v h') : WP prog w A (call (.ref a.stats) [v₁, v₂] []) h P := by
  refine call_def (B.stats h fun _ _ e => e) (B.lim h fun _ _ e => e) (lv.depth (by omega)) (binds := [("target", v₁), ("source", v₂)]) (fun _ _ _ _ _ s _ => binds_of (by with_unfolding_all rfl) s) (by rfl) (fun L h₁ cd hk S => ?_) (by decide +kernel)
  have lv' := lv.deeper (fenv 2 L a.stats cd)
  generalize hA : A.deeper (fenv 2 L a.stats cd) = A' at lv' ⊢
  obtain ⟨ad₁, n₁, t11, t12, t13, t14, u₁, rfl, e₁, c₁⟩ := r₁.stats
  obtain ⟨ad₂, n₂, t21, t22, t23, t24, u₂, rfl, e₂, c₂⟩ := r₂.stats
  dsimp only [mapOf, List.foldl_cons, List.foldl_nil] at S
  refine x_assign_tuple (v_local S (by walk_at "lk") (a_tuple lv'.hh S (S.base _ _ e₂) rfl fun h₂ S => ?_))
  refine a_name (store S fun h₂ S => a_name (store S fun h₂ S => a_name (store S fun h₂ S => a_name (store S fun h₂ S => a_name (store S fun h₂ S => ?_)))))
  refine x_assign_tuple (v_local S (by walk_at "lk") (a_tuple lv'.hh S (S.base _ _ e₁) rfl fun h₂ S => ?_))
  refine a_name (store S fun h₂ S => a_name (store S fun h₂ S => a_name (store S fun h₂ S => a_name (store S fun h₂ S => a_name (store S fun h₂ S => ?_)))))
  refine x_ret (e_tuple ?_)
  refine e_bin (v_local S (by walk_at "lk") (v_local S (by walk_at "lk") (i_add fun t1 => ?_)))
  refine e_bin (v_local S (by walk_at "lk") (v_local S (by walk_at "lk") (i_add fun t2 => ?_)))
  refine e_bin (v_local S (by walk_at "lk") (v_local S (by walk_at "lk") (i_add fun t3 => ?_)))
  refine e_bin (v_local S (by walk_at "lk") (v_local S (by walk_at "lk") (i_add fun t4 => ?_)))
  refine e_call_d (f := a.callers) (v_global (v := .ref a.callers) B.glo S.base (by simp [Ad.gl]) ⟨rfl, v_local S (by walk_at "lk") (v_local S (by walk_at "lk") ⟨(B.callers _ S.base).fn, ?_⟩)⟩)
  refine add_callers_spec lv' (by omega) (B.all S.base) (c₁.mono S.base) (c₂.mono S.base) ht fun h' v k r => ?_
  obtain ⟨fr', le, r', S'⟩ := frz_tuple (S.called k) (n := 0) (.cons (.int (i := b1 + a1) (t := t1)) (.cons (.int (i := b2 + a2) (t := t2)) (.cons (.int (i := b3 + a3) (t := t3)) (.cons (.int (i := b4 + a4) (t := t4)) (.cons (r.mono (S.right _)) .nil)))))
  exact ⟨by simp, q _ _ (fun _ _ e => S'.base _ _ e) (r'.mono (S'.le_fresh fun _ _ e => e))⟩
end
end Mine
end

section
set_option maxRecDepth 100000
set_option Elab.async false
set_option linter.unusedVariables false
set_option autoImplicit false
namespace Mine
open PySem PySem.Calls PySem.W PyProof.Rows
local macro_rules | `(tactic| walk_at "lk") => `(tactic| first | assumption | exact upd_self | (refine' upd_ne (by decide) ?lkE; case lkE => walk_at "lk"))

theorem BindsTo.of_kw {s : Shared} {fd : FuncData} {args : Args} {binds : List (Str × Value)} {T d : Addr} {o : Obj} {items : Array Value} {n : Nat} {m : Loc} {x : Str}
    {α β γ : Type} {k : Option (Array Value) → Sem (List (Str × Value))} {m0 : Sem α} {k3 : α → Sem (List (Str × Value))} {s0 : α} {m1 : Sem β} {k4 : β → Sem (List (Str × Value))} {k5 : Option Value → Sem γ} {k6 : γ → Sem β} {y : γ} {z : β}
    (hd : fd.defaults = .ref T) (ho : s.heap.get? T = some o) (hs : o.data = .seq items n) (hn : s.heap.Ns d m)
    (h₁ : bindArgs fd args = seqItems? fd.defaults >>= k) (h₂ : k (some items) = m0 >>= k3) (h₃ : m0 = pure s0) (h₄ : k3 s0 = m1 >>= k4) (h₅ : m1 = (nsGet d x >>= k5) >>= k6) (h₆ : k5 (m x) = pure y) (h₇ : k6 y = pure z) (h₈ : k4 z = pure binds) : BindsTo s fd args binds := by
  intro M A E Q hQ
  rw [h₁, hd]
  refine wpAny_bind (wpAny_seqItems ho hs ?_)
  rw [h₂, h₃]
  refine wpAny_bind (wpAny_pure ?_)
  rw [h₄, h₅]
  refine wpAny_bind (wpAny_bind (wpAny_bind (wpAny_nsGet hn ?_)))
  rw [h₆]
  refine wpAny_pure ?_
  rw [h₇]
  refine wpAny_pure ?_
  rw [h₈]; exact wpAny_pure hQ

section
variable {prog : Program} {w : World} {A : Around} {env : Env} {h : Heap} {a : Ad} {d : Nat}
variable {P : Value → Heap → Prop} {PF : Flow → Heap → Prop}
theorem is_none2 (q : P (.bool true) h) : WP prog w A (compareOp .Is .none .none) h P := .of fun Q E gs dr tk os c => wpAny_is_self rfl (c _ _ _ q)
theorem x_while {test : Expr} {body rest : List Stmt} {pos : Pos} (I : Nat → Heap → Prop)
    (turn : ∀ n h, I n h → WP prog w A (isTrue test env (eval test env)) h fun b h₁ => if b = true then WP prog w A (execs body env) h₁ (fun f h₂ => match f with
      | .next => ∃ m, m < n ∧ I m h₂
      | .ret v => PF (.ret v) h₂
      | _ => False) else WP prog w A (execs rest env) h₁ PF) (n : Nat) (hI : I n h) : WP prog w A (execs (.While test body [] pos :: rest) env) h PF := by
  refine x_cons fun gs dr tk os => wpAny_While (codeAny_whileLoop (fun n => Post (fun (_ : Unit) h => I n h) gs dr os ()) ?_ n ⟨h, tk, rfl, hI⟩)
  rintro n s ⟨h, tk, rfl, hI⟩
  refine run (turn n h hI gs dr tk os) (fun b h₁ tk₁ y => ?_) fun _ _ e => e.elim
  cases b with
  | false => exact wpAny_execs_nil ⟨h₁, tk₁, rfl, y⟩
  | true =>
    refine run (y gs dr tk₁ os) (fun f h₂ tk₂ y => ?_) fun _ _ e => e.elim
    cases f with
    | next => obtain ⟨k, hk, y⟩ := y; exact ⟨k, hk, h₂, tk₂, rfl, y⟩
    | ret v => exact ⟨h₂, tk₂, rfl, y⟩
    | brk => exact y.elim
    | cont => exact y.elim
end

noncomputable def cntLe (ns : List Int) (x : Int) : Nat := (ns.filter fun y => decide (y ≤ x)).length
theorem cntLe_le (ns : List Int) (x : Int) : cntLe ns x ≤ ns.length := List.length_filter_le _ _
theorem cntLe_at {x : Int} : ∀ {ns : List Int}, ns.Pairwise (· < ·) → ∀ {i : Nat} {v : Int}, ns[i]? = some v → (v ≤ x ↔ i < cntLe ns x)
  | [], _, i, v, h => by simp at h
  | y :: r, hp, 0, v, h => by
    simp at h; subst h
    unfold cntLe
    by_cases hy : y ≤ x
    · simp [List.filter_cons, hy]
    · simp only [List.filter_cons, hy, decide_false]
      have : r.filter (fun z => decide (z ≤ x)) = [] := by
        rw [List.filter_eq_nil_iff]
        intro z hz
        have := (List.pairwise_cons.mp hp).1 z hz
        simp; omega
      simp [this]
  | y :: r, hp, i + 1, v, h => by
    have h' : r[i]? = some v := by simpa using h
    have ih := cntLe_at (x := x) (List.pairwise_cons.mp hp).2 h'
    have hv : v ∈ r := List.mem_of_getElem? h'
    have hyv := (List.pairwise_cons.mp hp).1 v hv
    unfold cntLe at *
    by_cases hy : y ≤ x
    · simp only [List.filter_cons, hy, decide_true, if_true, List.length_cons]; rw [ih]; omega
    · simp only [List.filter_cons, hy, decide_false]
      simp only [Bool.false_eq_true, if_false]
      omega

inductive BI1 (prog : Program) (w : World) (κ : Know) (L ad : Addr) (ns : List Int) (x : Int) (t : Tok) (n : Nat) (h : Heap) : Prop
  | mk (lo hi : Nat) (t1 t2 : Tok) (m : Loc) (e : n = hi - lo) (h1 : lo ≤ cntLe ns x) (h2 : cntLe ns x ≤ hi) (h3 : hi ≤ ns.length) (m1 : m "a" = some (.ref ad)) (m2 : m "x" = some (.int x t)) (m3 : m "lo" = some (.int lo t1)) (m4 : m "hi" = some (.int hi t2)) (S : Sat prog w κ Know.nil L m [] h)
section
variable {prog : Program} {w : World} {A : Around} {h : Heap} {a : Ad} {d : Nat}
variable {P : Value → Heap → Prop}
theorem bisect_spec (lv : Lv A d) (hd : d ≤ 100) (B : Base prog w a h.get?) {v : Value} {ns : List Int} {x : Int} {t : Tok} (r : Rep prog w h.get? v (.ints ns)) (hs : ns.Pairwise (· < ·)) (hl : ns.length ≤ 1000)
    (q : ∀ h' t, KeepsH h h' → P (.int (cntLe ns x) t) h') : WP prog w A (call (.ref a.bisect) [v, .int x t] []) h P := by
  obtain ⟨Td, nd, td, hbd, hTd⟩ := B.bisd
  obtain ⟨Tk, mk, hbk, hmk, hTk⟩ := B.bisk
  have hTk := hTk h fun _ _ e => e
  have F := B.bisect h fun _ _ e => e
  rw [hbd, hbk] at F
  refine call_def F (B.lim h fun _ _ e => e) (lv.depth (by omega)) (binds := [("a", v), ("x", .int x t), ("lo", .int 0 td), ("hi", .none), ("key", .none)])
    (fun _ _ _ _ _ s e => ?_) (by rfl) (fun L h₁ cd hk S => ?_) (by decide +kernel)
  · subst e
    refine BindsTo.of_kw (T := Td) (d := Tk) (m := mk) (x := "key") rfl hTd rfl hTk (by with_unfolding_all rfl) (by with_unfolding_all rfl) (by with_unfolding_all rfl) (by with_unfolding_all rfl) (by with_unfolding_all rfl) (by rw [hmk]) (by with_unfolding_all rfl) (by with_unfolding_all rfl)
  have lv' := lv.deeper (fenv 6 L a.bisect cd)
  generalize hA : A.deeper (fenv 6 L a.bisect cd) = A' at lv' ⊢
  obtain ⟨ad, vs, n, rfl, e, rs⟩ := r.list
  have hlen : vs.length = ns.length := by rw [rs.length]; simp
  dsimp only [mapOf, List.foldl_cons, List.foldl_nil] at S
  refine x_if (t_cmp (v_local S (by walk_at "lk") (e_int fun u => i_lt (c_bool ?_))))
  show WP _ _ _ _ _ _
  refine x_nil (x_if (t_cmp (v_local S (by walk_at "lk") (e_none (is_none2 (c_bool ?_))))))
  show WP _ _ _ _ _ _
  refine x_assign (e_call_b (v_builtin (v := .builtin "len") B.glo S.base (by simp [biNames]) ⟨rfl, v_local S (by walk_at "lk") (len_l (S.base _ _ e) (by omega) fun t2 => store S fun h₂ S => x_nil ?_)⟩))
  refine x_if (t_cmp (v_local S (by walk_at "lk") (e_none (is_none2 (c_bool ?_)))))
  show WP _ _ _ _ _ _
  refine x_while (BI1 prog w _ L ad ns x t) ?_ (ns.length - 0) ⟨0, ns.length, td, t2, _, rfl, Nat.zero_le _, cntLe_le _ _, Nat.le_refl _, by walk_at "lk", by walk_at "lk", by walk_at "lk", by rw [← hlen]; walk_at "lk", S⟩
  rintro n' h₃ ⟨lo, hi, t1, t2, m, rfl, h1, h2, h3, m1, m2, m3, m4, S⟩
  refine t_cmp (v_local S (by walk_at "lk") (v_local S (by walk_at "lk") (i_lt (c_bool ?_))))
  by_cases hlt : lo < hi
  · rw [if_pos (by simpa using hlt)]
    refine x_assign (e_bin (e_bin (v_local S (by walk_at "lk") (v_local S (by walk_at "lk") (i_add fun t3 => e_int fun t4 => i_div (by decide) (PyProof.noPylong_small (by decide)) fun t5 => store S fun h₄ S => ?_)))))
    have hmid : ((lo : Int) + (hi : Int)).fdiv 2 = (((lo + hi) / 2 : Nat) : Int) := by rw [Int.fdiv_eq_ediv_of_nonneg _ (by decide)]; omega
    rw [hmid] at S
    obtain ⟨y, hy⟩ : ∃ y, ns[(lo + hi) / 2]? = some y := ⟨_, List.getElem?_eq_getElem (by omega)⟩
    have hc := cntLe_at (x := x) hs hy
    refine x_if (t_cmp (v_local S (by walk_at "lk") (e_sub (v_local S (by walk_at "lk") (v_local S (by walk_at "lk") (r_list (d := .int y) S.base (.lst e rs) (by omega) (by rw [Int.toNat_natCast]; simp [hy]) (by omega) fun z rz => ?_))))))
    obtain ⟨t6, rfl⟩ := rz.intv
    refine i_lt (c_bool ?_)
    by_cases hxy : x < y
    · rw [if_pos (by simpa using hxy)]
      refine x_assign (v_local S (by walk_at "lk") (store S fun h₅ S => x_nil (x_nil ?_)))
      exact ⟨(lo + hi) / 2 - lo, by omega, lo, (lo + hi) / 2, t1, t5, _, rfl, h1, by omega, by omega, by walk_at "lk", by walk_at "lk", by walk_at "lk", by walk_at "lk", S⟩
    · rw [if_neg (by simpa using hxy)]
      refine x_assign (e_bin (v_local S (by walk_at "lk") (e_int fun t7 => i_add fun t8 => store S fun h₅ S => x_nil (x_nil ?_))))
      exact ⟨hi - ((lo + hi) / 2 + 1), by omega, (lo + hi) / 2 + 1, hi, t8, t2, _, rfl, by omega, h2, h3, by walk_at "lk", by walk_at "lk", by walk_at "lk", by walk_at "lk", S⟩
  · rw [if_neg (by simpa using hlt)]
    have : cntLe ns x = lo := by omega
    refine x_nil (x_ret (v_local S (by walk_at "lk") ?_))
    have z := q h₃ t1 fun _ _ e => S.base _ _ e
    rw [this] at z
    exact z
end
end Mine
end

section
set_option maxRecDepth 100000
set_option Elab.async false
set_option linter.unusedVariables false
set_option linter.unusedSimpArgs false
set_option autoImplicit false
namespace Mine
open PySem PySem.Calls PySem.W PyProof.Rows
local macro_rules | `(tactic| walk_at "lk") => `(tactic| first | assumption | exact upd_self | (refine' upd_ne (by decide) ?lkE; case lkE => walk_at "lk"))

noncomputable abbrev Pairs := List (Int × Int)
noncomputable abbrev dPair (p : Int × Int) : D := .tup [.int p.1, .int p.2]
noncomputable abbrev dPairs (w : Pairs) : D := .lst (w.map dPair)
noncomputable def waysStep (f : List Int → List Pairs) (l : List Int) (i : Nat) : List Pairs :=
  (f ((l.take (i + 1)).drop 1 ++ l.drop (i + 2))).map fun rest => (l.getD 0 0, l.getD (i + 1) 0) :: rest
noncomputable def waysF : Nat → List Int → List Pairs
  | 0, _ => [[]]
  | n + 1, l => if l = [] then [[]] else (List.range (l.length - 1)).flatMap (waysStep (waysF n) l)
noncomputable def fac : Nat → Nat
  | 0 => 1
  | n + 1 => (n + 1) * fac n
theorem fac_mono1 (n : Nat) : fac n ≤ fac (n + 1) := by show fac n ≤ (n + 1) * fac n; exact Nat.le_mul_of_pos_left _ (Nat.succ_pos n)
theorem fac_pos : ∀ n, 1 ≤ fac n
  | 0 => Nat.le_refl _
  | n + 1 => Nat.le_trans (fac_pos n) (fac_mono1 n)
theorem flat_len {f : Nat → List Pairs} {B : Nat} (hf : ∀ i, (f i).length ≤ B) : ∀ k, ((List.range k).flatMap f).length ≤ k * B
  | 0 => by simp
  | k + 1 => by
    rw [List.range_succ, List.flatMap_append, List.length_append]
    have := flat_len hf k
    have := hf k
    simp only [List.flatMap_cons, List.flatMap_nil, List.append_nil]
    rw [Nat.add_mul]; omega
theorem waysF_len : ∀ (n : Nat) (l : List Int), l.length ≤ n → (waysF n l).length ≤ fac n
  | 0, l, _ => by simp [waysF, fac]
  | n + 1, l, h => by
    unfold waysF
    split
    · simp; exact fac_pos _
    · have : ∀ i, (waysStep (waysF n) l i).length ≤ fac n := fun i => by
        unfold waysStep
        rw [List.length_map]
        by_cases hl : ((l.take (i + 1)).drop 1 ++ l.drop (i + 2)).length ≤ n
        · exact waysF_len n _ hl
        · exfalso; apply hl; simp; omega
      refine Nat.le_trans (flat_len this _) ?_
      show _ ≤ (n + 1) * fac n
      exact Nat.mul_le_mul_right _ (by omega)
theorem waysF_mem : ∀ (n : Nat) (l : List Int), ∀ w ∈ waysF n l, w.length ≤ n
  | 0, l, w, hw => by
    have : w = [] := by simpa [waysF] using hw
    simp [this]
  | n + 1, l, w, hw => by
    unfold waysF at hw
    split at hw
    · have : w = [] := by simpa using hw
      simp [this]
    · obtain ⟨i, hi, hw⟩ := List.mem_flatMap.mp hw
      unfold waysStep at hw
      obtain ⟨r, hr, rfl⟩ := List.mem_map.mp hw
      have := waysF_mem n _ r hr
      simp; omega
theorem waysStep_len (n : Nat) (l : List Int) (h : l.length ≤ n + 1) (i : Nat) : (waysStep (waysF n) l i).length ≤ fac n := by
  unfold waysStep
  rw [List.length_map]
  refine waysF_len n _ ?_
  simp; omega

/-! the loops' invariants -/
inductive GI1 (prog : Program) (w : World) (ad W : Addr) (n : Nat) (l : List Int) (i : Nat) (m : Loc) (fr : Know) (own : List (Addr × Res)) : Prop
  | mk (m1 : m "places" = some (.ref ad)) (m2 : m "ways" = some (.ref W)) (ws : List Value) (e : own = [(W, .lst ws)]) (r : Reps prog w fr ws (((List.range i).flatMap (waysStep (waysF n) l)).map dPairs))
inductive GI2 (prog : Program) (w : World) (ad W I : Addr) (o : Obj) (n : Nat) (l : List Int) (i : Nat) (t1 : Tok) (j : Nat) (m : Loc) (fr : Know) (own : List (Addr × Res)) : Prop
  | mk (m1 : m "places" = some (.ref ad)) (m2 : m "ways" = some (.ref W)) (m3 : m "k" = some (.int (1 + (i : Int)) t1)) (ws : List Value) (e : own = [(I, .obj o), (W, .lst ws)])
      (r : Reps prog w fr ws (((List.range i).flatMap (waysStep (waysF n) l) ++ ((waysF n ((l.take (i + 1)).drop 1 ++ l.drop (i + 2))).take j).map fun rest => (l.getD 0 0, l.getD (i + 1) 0) :: rest).map dPairs))
section
variable {prog : Program} {w : World} {A : Around} {h : Heap} {a : Ad} {d : Nat}
variable {P : Value → Heap → Prop}
theorem ways_spec (n : Nat) : n ≤ 6 → ∀ {A : Around} {d : Nat} {h : Heap} {P : Value → Heap → Prop} {v : Value} {l : List Int}, l.length ≤ n → d + n ≤ 90 → Lv A d → Base prog w a h.get? → Rep prog w h.get? v (.ints l) →
    (∀ h' v, KeepsH h h' → Rep prog w (fresh h h') v (.lst ((waysF n l).map dPairs)) → P v h') → WP prog w A (call (.ref a.ways) [v] []) h P := by
  induction n with
  | zero =>
    intro hn A d h P v l hln hd lv B r q
    have hl : l = [] := List.eq_nil_of_length_eq_zero (by omega)
    subst hl
    refine call_def (B.ways h fun _ _ e => e) (B.lim h fun _ _ e => e) (lv.depth (by omega)) (binds := [("places", v)]) (fun _ _ _ _ _ s _ => binds_of (by with_unfolding_all rfl) s) (by rfl) (fun L h₁ cd hk S => ?_) (by decide +kernel)
    have lv' := lv.deeper (fenv 17 L a.ways cd)
    generalize hA : A.deeper (fenv 17 L a.ways cd) = A' at lv' ⊢
    obtain ⟨ad, vs, n, rfl, e, rs⟩ := r.list
    dsimp only [mapOf, List.foldl_cons, List.foldl_nil] at S
    refine x_if (t_cmp (v_local S (by walk_at "lk") (e_list ⟨by simp, eq_ints (us := []) (ms := []) lv' (by omega) (Heap.get?_push_of_some _ (S.base _ _ e)) (Heap.get?_push_size _ rfl) rs.ints .nil (c_bool ?_)⟩)))
    have S := S.fpush (o := LO [] 0) rfl
    show WP _ _ _ _ _ _
    refine x_ret (e_list (e_list ⟨by simp, ?_⟩))
    obtain ⟨fr1, l1, r1, S1⟩ := frz_list (ds := []) S (n := 0) .nil
    obtain ⟨fr2, l2, r2, S2⟩ := frz_list S1 (n := 0) (.cons r1 .nil)
    exact ⟨by simp, q _ _ (fun _ _ e => S2.base _ _ e) (r2.mono (S2.le_fresh fun _ _ e => e))⟩
  | succ n ih =>
    intro hn A d h P v l hln hd lv B r q
    have ih := @ih (by omega)
    refine call_def (B.ways h fun _ _ e => e) (B.lim h fun _ _ e => e) (lv.depth (by omega)) (binds := [("places", v)]) (fun _ _ _ _ _ s _ => binds_of (by with_unfolding_all rfl) s) (by rfl) (fun L h₁ cd hk S => ?_) (by decide +kernel)
    have lv' := lv.deeper (fenv 17 L a.ways cd)
    generalize hA : A.deeper (fenv 17 L a.ways cd) = A' at lv' ⊢
    obtain ⟨ad, vs, nn, rfl, e, rs⟩ := r.list
    have hlen : vs.length = l.length := by rw [rs.length]; simp
    dsimp only [mapOf, List.foldl_cons, List.foldl_nil] at S
    refine x_if (t_cmp (v_local S (by walk_at "lk") (e_list ⟨by simp, eq_ints (us := []) (ms := []) lv' (by omega) (Heap.get?_push_of_some _ (S.base _ _ e)) (Heap.get?_push_size _ rfl) rs.ints .nil (c_bool ?_)⟩)))
    have S := S.fpush (o := LO [] 0) rfl
    by_cases hnil : l = []
    · rw [if_pos (by simpa using hnil)]
      subst hnil
      refine x_ret (e_list (e_list ⟨by simp, ?_⟩))
      obtain ⟨fr1, l1, r1, S1⟩ := frz_list (ds := []) S (n := 0) .nil
      obtain ⟨fr2, l2, r2, S2⟩ := frz_list S1 (n := 0) (.cons r1 .nil)
      exact ⟨by simp, q _ _ (fun _ _ e => S2.base _ _ e) (r2.mono (S2.le_fresh fun _ _ e => e))⟩
    · rw [if_neg (by simpa using hnil)]
      have hpos : 1 ≤ l.length := by cases l with | nil => exact absurd rfl hnil | cons => simp
      have hw : waysF (n + 1) l = (List.range (l.length - 1)).flatMap (waysStep (waysF n) l) := by unfold waysF; rw [if_neg hnil]
      have hfac : fac (n + 1) ≤ 720 := by
        have : ∀ k, k ≤ 6 → fac k ≤ 720 := by decide
        exact this _ hn
      refine x_nil (x_assign (e_list_own ⟨by simp, _, _, _, _, _, S, fun W h₂ S => store S fun h₂ S => ?_⟩))
      refine x_for_range lv'.hh S (GI1 prog w ad W n l)
        (e_call_t (v_builtin (v := .type "range") B.glo S.base (by simp [biNames]) ⟨rfl, e_int fun t1 => e_call_b (v_builtin (v := .builtin "len") B.glo S.base (by simp [biNames]) ⟨rfl, v_local S (by walk_at "lk") (len_l (S.base _ _ e) (by omega) fun t2 => range2 fun t3 t4 t5 => ?_)⟩)⟩))
      have S := S.fpush (o := RO 1 vs.length t3 t4 t5) rfl
      refine ⟨_, _, _, _, 1, _, _, _, _, rfl, (S.fsub _ _ Know.ins_self), by omega, by omega, by omega, by omega, S, ⟨by walk_at "lk", by walk_at "lk", [], rfl, by simpa using Reps.nil⟩, ?_, ?_⟩
      · rintro i I t1 m fr₀ own o h₃ hi ⟨m1, m2, ws, rfl, hws⟩ hle S
        refine a_name (store S fun h₃ S => ?_)
        have hk : ∃ hki : i + 1 < l.length, True := ⟨by omega, trivial⟩
        obtain ⟨hki, -⟩ := hk
        refine x_for_list lv'.hh S (GI2 prog w ad W I o n l i t1)
          (e_call_d (f := a.ways) (v_global (v := .ref a.ways) B.glo S.base (by simp [Ad.gl]) ⟨rfl, e_bin (e_sub (v_local S (by walk_at "lk") (e_slice_frz (p_some (e_int fun t2 => p_some (v_local S (by walk_at "lk") ⟨_, _, _, _, _, S, fun fr1 sl h₄ le1 esl S => ?_⟩))))))⟩))
        have e1 : (1 : Int) + (i : Int) = ((i + 1 : Nat) : Int) := by omega
        have e2 : (1 : Int) + (i : Int) + 1 = ((i + 2 : Nat) : Int) := by omega
        refine slice_ints (some (1, t2)) (some (i + 1, t1)) S S.base r (by omega) (by show _ = some (SlO (.int 1 t2) (.int ((i + 1 : Nat) : Int) t1) .none); rw [← e1]; exact S.fsub _ _ esl) fun fr2 W2 h₅ le2 r2 S => ?_
        refine e_sub (v_local S (by walk_at "lk") (e_slice_frz (p_some (e_bin (v_local S (by walk_at "lk") (e_int fun t3 => i_add fun t4 => p_none ⟨_, _, _, _, _, S, fun fr3 sl2 h₆ le3 esl2 S => ?_⟩))))))
        refine slice_ints (some (i + 2, t4)) none S S.base r (by omega) (by show _ = some (SlO (.int ((i + 2 : Nat) : Int) t4) .none .none); rw [← e2]; exact S.fsub _ _ esl2) fun fr4 W4 h₇ le4 r4 S => ?_
        refine add_frz S (r2.mono (le3.trans le4)) r4 (by simp; omega) fun fr5 W5 h₈ le5 r5 S => ⟨(B.ways _ S.base).fn, ?_⟩
        have r5' : Rep prog w fr5 (.ref W5) (.ints ((l.take (i + 1)).drop 1 ++ l.drop (i + 2))) := by unfold D.ints; rw [List.map_append]; simp only [Option.map_some, Option.map_none, Option.getD_some, Option.getD_none, List.take_length] at r5; exact r5
        have hl2 : ((l.take (i + 1)).drop 1 ++ l.drop (i + 2)).length ≤ n := by simp; omega
        have hstep : ∀ j, (((List.range i).flatMap (waysStep (waysF n) l) ++ ((waysF n ((l.take (i + 1)).drop 1 ++ l.drop (i + 2))).take j).map fun rest => (l.getD 0 0, l.getD (i + 1) 0) :: rest)).length ≤ 1440 := fun j => by
          rw [List.length_append, List.length_map]
          have h1 := flat_len (waysStep_len n l hln) i
          have h2 := take_len_le (waysF n ((l.take (i + 1)).drop 1 ++ l.drop (i + 2))) j
          have h3 := waysF_len n _ hl2
          have h4 := fac_mono1 n
          have h5 : i * fac n ≤ (n + 1) * fac n := Nat.mul_le_mul_right _ (by omega)
          have h6 : fac (n + 1) = (n + 1) * fac n := rfl
          omega
        refine ih hl2 (by omega) lv' (B.all S.base) (r5'.mono S.fsub) fun h₉ v9 k9 r9 => ?_
        have hle9 := ((((hle.trans (Know.le.refl _)).trans le1).trans le2).trans le3).trans (le4.trans le5)
        have leS : Know.le fr₀ fr5 := (((le1.trans le2).trans le3).trans le4).trans le5
        refine ⟨_, _, _, _, _, r9.mono (S.right _), .inr rfl, S.called k9, ⟨by walk_at "lk", by walk_at "lk", by walk_at "lk", ws, rfl, by simpa using hws.mono (leS.trans (Know.le_or _ _))⟩, ?_, ?_⟩
        · rintro j I2 dd v m fr6 own o2 h₁₀ hdd rv ⟨m1, m2, m3, ws2, rfl, hws2⟩ hle2 S
          refine a_name (store S fun h₁₀ S => ?_)
          rw [List.getElem?_map] at hdd
          obtain ⟨rest, hrest, rfl⟩ := Option.map_eq_some_iff.mp hdd
          refine x_expr (e_meth F.plainAttrs_list F.slot_list_append F.type_list_append (v_local S (by walk_at "lk") ?_))
          obtain ⟨nW, gW⟩ := S.lst (.tail _ (.tail _ (.head _)))
          refine ⟨TyH.ref gW rfl, fun _ z => by cases z; exact ⟨_, gW, rfl⟩, ?_⟩
          obtain ⟨x0, hx0⟩ : ∃ x0, l[0]? = some x0 := ⟨_, List.getElem?_eq_getElem hpos⟩
          obtain ⟨xk, hxk⟩ : ∃ xk, l[i + 1]? = some xk := ⟨_, List.getElem?_eq_getElem hki⟩
          refine e_bin (e_list_frz (e_tuple_frz ?_))
          refine e_sub (v_local S (by walk_at "lk") (e_int fun t6 => r_list (d := .int x0) S.base r (by omega) (by simp [hx0]) (by omega) fun z rz => ?_))
          refine e_sub (v_local S (by walk_at "lk") (v_local S (by walk_at "lk") (r_list (d := .int xk) S.base r (by omega) (by rw [e1, Int.toNat_natCast]; simp [hxk]) (by omega) fun z' rz' => ?_)))
          obtain ⟨t7, rfl⟩ := rz.intv
          obtain ⟨t8, rfl⟩ := rz'.intv
          refine ⟨by simp, _, _, _, _, _, _, S, .cons (.int (t := t7)) (.cons (.int (t := t8)) .nil), fun fr7 W7 h₁₁ le7 r7 S => ⟨by simp, _, _, _, _, _, _, S, .cons r7 .nil, fun fr8 W8 h₁₂ le8 r8 S => ?_⟩⟩
          refine v_local S (by walk_at "lk") (add_frz S r8 (rv.mono (hle2.trans (le7.trans le8))) ?_ fun fr9 W9 h₁₃ le9 r9 S => ?_)
          · have := waysF_mem n _ rest (List.mem_of_getElem? hrest)
            simp; omega
          refine append_list S (.tail (.tail .head)) ?_ fun h₁₄ S => x_nil ?_
          · have := hws2.length
            rw [List.length_map] at this
            rw [this]
            exact Nat.le_trans (hstep j) (by omega)
          refine ⟨_, _, _, (le7.trans le8).trans le9, ⟨by walk_at "lk", by walk_at "lk", by walk_at "lk", _, rfl, ?_⟩, S⟩
          rw [List.take_add_one, hrest]
          have q9 := (hws2.mono ((le7.trans le8).trans le9)).append (.cons r9 .nil)
          simpa [hx0, hxk, List.getD_eq_getElem?_getD, dPairs] using q9
        · rintro m fr6 own h₁₀ ⟨m1, m2, m3, ws2, rfl, hws2⟩ hle2 S
          refine x_nil ⟨_, _, _, (leS.trans (Know.le_or _ _)).trans hle2, ⟨m1, m2, ws2, rfl, ?_⟩, S⟩
          rw [List.range_succ, List.flatMap_append]
          have : ((waysF n ((l.take (i + 1)).drop 1 ++ l.drop (i + 2))).map dPairs).length = (waysF n ((l.take (i + 1)).drop 1 ++ l.drop (i + 2))).length := by simp
          rw [this, List.take_length] at hws2
          simpa [waysStep] using hws2
      · rintro m fr6 own h₁₀ ⟨m1, m2, ws2, rfl, hws2⟩ hle2 S
        have e3 : ((vs.length : Int) - 1).toNat = l.length - 1 := by omega
        rw [e3, ← hw] at hws2
        obtain ⟨fr7, le7, r7, S⟩ := frz_own (pre := []) (post := []) S rfl hws2
        exact x_ret (v_local S (by walk_at "lk") (q _ _ (fun _ _ e => S.base _ _ e) (r7.mono (S.le_fresh fun _ _ e => e))))
end
end Mine
end

section
set_option maxRecDepth 100000
set_option Elab.async false
set_option linter.unusedVariables false
set_option linter.unusedSimpArgs false
set_option autoImplicit false
namespace Mine
open PySem PySem.Calls PySem.W PyProof.Rows
local macro_rules | `(tactic| walk_at "lk") => `(tactic| first | assumption | exact upd_self | (refine' upd_ne (by decide) ?lkE; case lkE => walk_at "lk"))

/-! the table of prices -/
structure Tab (T : List (List Int)) : Prop where
  len : T.length = 6
  row : ∀ r ∈ T, r.length = 6 ∧ ∀ x ∈ r, x.natAbs ≤ 10000
noncomputable def Valid (p : Int × Int) : Prop := 0 ≤ p.1 ∧ p.1 < 6 ∧ 0 ≤ p.2 ∧ p.2 < 6
noncomputable def ent (T : List (List Int)) (i j : Nat) : Int := (T.getD i []).getD j 0
noncomputable def entP (T : List (List Int)) (p : Int × Int) : Int := ent T p.1.toNat p.2.toNat
theorem Tab.at {T : List (List Int)} (t : Tab T) {i j : Nat} (hi : i < 6) (hj : j < 6) : ∃ r, T[i]? = some r ∧ r[j]? = some (ent T i j) ∧ (ent T i j).natAbs ≤ 10000 := by
  have h1 : i < T.length := by rw [t.len]; exact hi
  obtain ⟨h2, h3⟩ := t.row T[i] (List.getElem_mem h1)
  have h4 : j < T[i].length := by rw [h2]; exact hj
  have e : ent T i j = T[i][j] := by unfold ent; simp [List.getD_eq_getElem?_getD, List.getElem?_eq_getElem h1, List.getElem?_eq_getElem h4]
  rw [e]
  exact ⟨T[i], List.getElem?_eq_getElem h1, List.getElem?_eq_getElem h4, h3 _ (List.getElem_mem h4)⟩
theorem bits_small {x : Int} (h : x.natAbs ≤ 10000) : Builtin.Int.intBits x ≤ 64 := by
  unfold Builtin.Int.intBits
  split
  · omega
  · have : x.natAbs.log2 ≤ 13 := by
      have h1 : x.natAbs < 2 ^ 14 := by omega
      have := (Nat.log2_lt (n := x.natAbs) (k := 14) (by rename_i hx; simp at hx; omega)).mpr h1
      omega
    omega
noncomputable def prodF (T : List (List Int)) (ps : Pairs) : Int := ps.foldl (fun acc p => acc * entP T p) 1
noncomputable def crossL (ps : Pairs) (p : Int × Int) : Pairs := ps.filter fun q => decide (p.1 < q.1) && (decide (q.1 < p.2) && decide (p.2 < q.2))
noncomputable def cross (ps : Pairs) : Nat := (ps.flatMap (crossL ps)).length
theorem flatP_len {f : Int × Int → Pairs} {B : Nat} (hf : ∀ p, (f p).length ≤ B) : ∀ l : Pairs, (l.flatMap f).length ≤ l.length * B
  | [] => by simp
  | p :: r => by
    rw [List.flatMap_cons, List.length_append, List.length_cons, Nat.add_mul]
    have := flatP_len hf r
    have := hf p
    omega
theorem crossL_len (ps : Pairs) (p : Int × Int) : (crossL ps p).length ≤ ps.length := List.length_filter_le _ _
theorem cross_part {ps : Pairs} (h : ps.length ≤ 10) (j : Nat) : ((ps.take j).flatMap (crossL ps)).length ≤ 100 := by
  have h1 := flatP_len (B := 10) (fun p => Nat.le_trans (crossL_len ps p) h) (ps.take j)
  have h2 := take_len_le ps j
  omega
theorem cross_le {ps : Pairs} (h : ps.length ≤ 10) : cross ps ≤ 100 := by
  have := cross_part h ps.length
  rw [List.take_length] at this
  exact this
noncomputable def dueStep (T : List (List Int)) (acc : List (Int × Int)) (ps : Pairs) : List (Int × Int) := dput acc (cross ps) ((dget acc (cross ps)).getD 0 + prodF T ps)
noncomputable def dueF (T : List (List Int)) (ws : List Pairs) : List (Int × Int) := ws.foldl (dueStep T) []
theorem dueF_len (T : List (List Int)) (ws : List Pairs) : (dueF T ws).length ≤ ws.length := by
  have : ∀ acc, (ws.foldl (dueStep T) acc).length ≤ acc.length + ws.length := by
    induction ws with
    | nil => intro acc; simp
    | cons p r ih =>
      intro acc
      rw [List.foldl_cons, List.length_cons]
      have h1 := ih (dueStep T acc p)
      have h2 := dput_len acc (cross p) ((dget acc (cross p)).getD 0 + prodF T p)
      unfold dueStep at h1
      unfold dueStep
      omega
  simpa [dueF] using this []

section
variable {prog : Program} {w : World} {A : Around} {env : Env} {h : Heap}
variable {P : Value → Heap → Prop} {PB : Bool → Heap → Prop}
theorem tc1 {pos : Pos} {l : Value} {op : CmpOp} {r : Sem Value} (q : WP prog w A r h fun rv h' => WP prog w A (compareOp op l rv) h' fun c h'' => WP prog w A (truthy c) h'' PB) : WP prog w A (testChain pos l [op] [r]) h PB := fun gs dr tk os => by
  unfold testChain
  refine wpAny_bind (wpAny_holding (run (q gs dr tk os) (fun rv h₁ tk₁ y => ?_) fun _ _ e => e.elim))
  refine wpAny_bind (wpAny_standAt (wpAny_bind (wpAny_operate' (run (y gs dr tk₁ os) (fun c h₂ tk₂ y => ?_) fun _ _ e => e.elim))))
  exact wpAny_holding (y gs dr tk₂ os)
theorem tc2 {pos : Pos} {l : Value} {op o2 : CmpOp} {ops : List CmpOp} {r r2 : Sem Value} {rs : List (Sem Value)} (q : WP prog w A r h fun rv h' => WP prog w A (compareOp op l rv) h' fun c h'' => WP prog w A (truthy c) h'' fun b h₃ => if b = true then WP prog w A (testChain pos rv (o2 :: ops) (r2 :: rs)) h₃ PB else PB false h₃) :
    WP prog w A (testChain pos l (op :: o2 :: ops) (r :: r2 :: rs)) h PB := fun gs dr tk os => by
  unfold testChain
  refine wpAny_bind (wpAny_holding (run (q gs dr tk os) (fun rv h₁ tk₁ y => ?_) fun _ _ e => e.elim))
  refine wpAny_bind (wpAny_standAt (wpAny_bind (wpAny_holding (run (y gs dr tk₁ os) (fun c h₂ tk₂ y => ?_) fun _ _ e => e.elim))))
  refine wpAny_bind (wpAny_release (wpAny_bind (wpAny_holding (run (y gs dr tk₂ os) (fun b h₃ tk₃ y => ?_) fun _ _ e => e.elim))))
  cases b with
  | true => exact y gs dr tk₃ os
  | false => exact wpAny_pure ⟨h₃, tk₃, rfl, y⟩
theorem t_cmp3 {l r1 r2 r3 : Expr} {o1 o2 o3 : CmpOp} {pos : Pos} {whole : Sem Value} (q : WP prog w A (eval l env) h fun v h' => WP prog w A (testChain pos v [o1, o2, o3] [eval r1 env, eval r2 env, eval r3 env]) h' PB)
    (hm : markedEach [o1, o2, o3] [r1, r2, r3] (evalEach [r1, r2, r3] env) = [eval r1 env, eval r2 env, eval r3 env] := by with_unfolding_all rfl) : WP prog w A (isTrue (.Compare l [o1, o2, o3] [r1, r2, r3] pos) env whole) h PB := fun gs dr tk os => by
  rw [arm_isTrue_Compare, hm]
  refine wpAny_bind (run (q gs dr tk os) (fun v h₁ tk₁ y => ?_) fun _ _ e => e.elim)
  exact y gs dr tk₁ os
inductive TabR (kn : Know) (T : List (List Int)) (i : Int) (P : Value → Heap → Prop) (jv : Value) (h₃ : Heap) : Prop
  | mk (j : Int) (t : Tok) (e : jv = .int j t) (l0 : 0 ≤ j) (l6 : j < 6) (hk : Sub kn h₃) (q : ∀ t, P (.int (ent T i.toNat j.toNat) t) h₃)
inductive TabQ (prog : Program) (w : World) (A : Around) (env : Env) (je : Expr) (kn : Know) (T : List (List Int)) (P : Value → Heap → Prop) (v iv : Value) (h₂ : Heap) : Prop
  | mk (i : Int) (t : Tok) (e : iv = .int i t) (l0 : 0 ≤ i) (l6 : i < 6) (hk : Sub kn h₂) (r : Rep prog w kn v (.lst (T.map .ints))) (q : WP prog w A (eval je env) h₂ (TabR kn T i P))
/-- table[i][j] -/
theorem e_tab {oe ie je : Expr} {p1 p2 : Pos} {kn : Know} {T : List (List Int)} (tb : Tab T)
    (q : WP prog w A (eval oe env) h fun v h₁ => WP prog w A (eval ie env) h₁ fun iv h₂ => TabQ prog w A env je kn T P v iv h₂) :
    WP prog w A (eval (.Subscript (.Subscript oe ie p1) je p2) env) h P := by
  refine e_sub (e_sub (q.mono fun v h₁ q => q.mono fun iv h₂ q => ?_))
  obtain ⟨i, t, rfl, h0, h6, hk, r, q⟩ := q
  have hi : i.toNat < 6 := by omega
  obtain ⟨rw', hr, -, -⟩ := tb.at hi (j := 0) (by omega)
  refine r_list (d := .ints rw') hk r h0 (by rw [List.getElem?_map, hr]; rfl) (by omega) fun x rx => q.mono fun jv h₃ q => ?_
  obtain ⟨j, t', rfl, j0, j6, hk', q⟩ := q
  obtain ⟨rw2, hr2, hj, -⟩ := tb.at hi (j := j.toNat) (by omega)
  rw [hr] at hr2; cases hr2
  refine r_list (d := .int (ent T i.toNat j.toNat)) hk' rx j0 (by rw [List.getElem?_map, hj]; rfl) (by omega) fun y ry => ?_
  obtain ⟨t3, rfl⟩ := ry.intv
  exact q t3
theorem Rep.pair {k : Know} {v : Value} {p : Int × Int} (r : Rep prog w k v (dPair p)) : ∃ ad n t u, v = .ref ad ∧ k ad = some (TO [.int p.1 t, .int p.2 u] n) := by
  obtain ⟨ad, vs, n, rfl, e, rs⟩ := r.tuple
  cases rs with | cons r1 rs => cases rs with | cons r2 rs =>
  cases rs
  obtain ⟨t1, rfl⟩ := r1.intv
  obtain ⟨t2, rfl⟩ := r2.intv
  exact ⟨ad, n, t1, t2, rfl, e⟩
end

/-! the loops' invariants -/
inductive HI1 (L Dn : Addr) (v₂ : Value) (T : List (List Int)) (ws : List Pairs) (i : Nat) (m : Loc) (fr : Know) (own : List (Addr × Res)) : Prop
  | mk (m1 : m "table" = some v₂) (m2 : m "due" = some (.ref Dn)) (kvs : List (Int × Value)) (c : Option Value) (e : own = [(Dn, .dct kvs), (L + 1, .cell c)]) (y : IntVals kvs (dueF T (ws.take i)))
inductive HI2 (L Dn I : Addr) (o : Obj) (v v₂ : Value) (kvs : List (Int × Value)) (T : List (List Int)) (ps : Pairs) (j : Nat) (m : Loc) (fr : Know) (own : List (Addr × Res)) : Prop
  | mk (m1 : m "table" = some v₂) (m2 : m "due" = some (.ref Dn)) (m3 : ∃ t, m "product" = some (.int (prodF T (ps.take j)) t)) (e : own = [(I, .obj o), (Dn, .dct kvs), (L + 1, .cell (some v))])
inductive HI3 (L Dn I D ap : Addr) (o oL : Obj) (kvs : List (Int × Value)) (ps : Pairs) (j : Nat) (m' : Loc) (fr : Know) (own : List (Addr × Res)) : Prop
  | mk (vs : List Value) (e : own = [(L, .obj oL), (D, .lst vs), (I, .obj o), (Dn, .dct kvs), (L + 1, .cell (some (.ref ap)))]) (l : vs.length = ((ps.take j).flatMap (crossL ps)).length)
inductive HI4 (L Dn I D ap X : Addr) (o oL o3 : Obj) (kvs : List (Int × Value)) (ps : Pairs) (p : Int × Int) (t3 t4 : Tok) (j k : Nat) (m' : Loc) (fr : Know) (own : List (Addr × Res)) : Prop
  | mk (ma : m' "a" = some (.int p.1 t3)) (mb : m' "b" = some (.int p.2 t4)) (vs : List Value) (e : own = [(X, .obj o3), (L, .obj oL), (D, .lst vs), (I, .obj o), (Dn, .dct kvs), (L + 1, .cell (some (.ref ap)))])
      (l : vs.length = ((ps.take j).flatMap (crossL ps)).length + (crossL (ps.take k) p).length)
section
variable {prog : Program} {w : World} {A : Around} {h : Heap} {a : Ad} {d : Nat}
variable {P : Value → Heap → Prop}
theorem due_spec (lv : Lv A d) (hd : d ≤ 90) (B : Base prog w a h.get?) {v₁ v₂ : Value} {T : List (List Int)} (tb : Tab T) {ws : List Pairs} (hws : ∀ ps ∈ ws, ps.length ≤ 10 ∧ ∀ p ∈ ps, Valid p) (hl : ws.length ≤ 1000)
    (r₁ : Rep prog w h.get? v₁ (.lst (ws.map dPairs))) (r₂ : Rep prog w h.get? v₂ (.lst (T.map .ints)))
    (q : ∀ h' v, KeepsH h h' → Rep prog w (fresh h h') v (.dct (dueF T ws)) → P v h') : WP prog w A (call (.ref a.due) [v₁, v₂] []) h P := by
  refine call_cells (fun n => [("pairs", n + 1)]) (B.due h fun _ _ e => e) (B.lim h fun _ _ e => e) (lv.depth (by omega)) (binds := [("ways", v₁), ("table", v₂)]) (fun _ _ _ _ _ => by with_unfolding_all rfl) (fun n => by rfl)
    (fun n p hp => by simp at hp; subst hp; rfl) (fun x hx => by simp at hx; rcases hx with rfl | rfl <;> rfl) (fun L h₁ cd hk S => ?_)
  have lv' := lv.deeper (genv 20 L a.due cd [("pairs", L + 1)])
  generalize hA : A.deeper (genv 20 L a.due cd [("pairs", L + 1)]) = A' at lv' ⊢
  dsimp only [mapOf, List.foldl_cons, List.foldl_nil, List.map_cons, List.map_nil] at S
  refine x_assign (e_dict0 ?_)
  have S1 := own_dict S
  have hD : NoSys h₁.objs.size := B.noSysF (S.none_of (get?_size h₁)).1
  generalize h₁.objs.size = Dn at S1 hD ⊢
  refine store S1 fun h₂ S => ?_
  refine x_for_list lv'.hh S (HI1 L Dn v₂ T ws)
    (v_local S (by walk_at "lk") ⟨_, _, _, _, _, r₁, .inl rfl, S, ⟨by walk_at "lk", by walk_at "lk", [], _, rfl, by simp [dueF, IntVals]⟩, ?_, ?_⟩)
  · rintro i I dd v m fr own o h₃ hdd rv ⟨m1, m2, kvs, c, rfl, hI⟩ hle S
    rw [List.getElem?_map] at hdd
    obtain ⟨ps, hps, rfl⟩ := Option.map_eq_some_iff.mp hdd
    obtain ⟨hpl, hpv⟩ := hws ps (List.mem_of_getElem? hps)
    refine a_name (store_cell S (.tail (.tail .head)) fun h₃ S => ?_)
    refine x_assign (e_int fun t1 => store S fun h₃ S => ?_)
    refine x_for_list lv'.hh S (HI2 L Dn I o v v₂ kvs T ps)
      (v_cell S (.tail _ (.tail _ (.head _))) ⟨_, _, _, _, _, rv, .inl rfl, S, ⟨by walk_at "lk", by walk_at "lk", ⟨t1, by walk_at "lk"⟩, rfl⟩, ?_, ?_⟩)
    · rintro j I2 dd v2 m fr2 own o2 h₄ hdd2 rv2 ⟨m1, m2, ⟨t2, m3⟩, rfl⟩ hle2 S
      rw [List.getElem?_map] at hdd2
      obtain ⟨p, hp, rfl⟩ := Option.map_eq_some_iff.mp hdd2
      obtain ⟨v0, v1, v2', v3⟩ := hpv p (List.mem_of_getElem? hp)
      obtain ⟨at2, n2, t3, t4, rfl, e2⟩ := rv2.pair
      refine a_tuple2 lv'.hh S (S.base _ _ e2) fun h₄ S => store S fun h₄ S => store S fun h₄ S => ?_
      refine x_aug (l_local S.ns (by walk_at "lk") (e_tab tb (v_local S (by walk_at "lk") (v_local S (by walk_at "lk") ⟨_, _, rfl, v0, v1, S.base, r₂, v_local S (by walk_at "lk") ⟨_, _, rfl, v2', v3, S.base, fun t5 => ?_⟩⟩))))
      obtain ⟨-, -, -, hbd⟩ := tb.at (i := p.1.toNat) (j := p.2.toNat) (by omega) (by omega)
      refine i_imul (.of_right (bits_small hbd)) fun t6 => store S fun h₅ S => x_nil ⟨_, _, _, Know.le.refl _, ⟨by walk_at "lk", by walk_at "lk", ⟨t6, ?_⟩, rfl⟩, S⟩
      rw [upd_self]
      have : prodF T (ps.take (j + 1)) = prodF T (ps.take j) * ent T p.1.toNat p.2.toNat := by
        unfold prodF
        rw [List.take_add_one, hp]; simp [entP]
      rw [this]
    · rintro m fr2 own h₄ ⟨m1, m2, ⟨t2, m3⟩, rfl⟩ hle2 S
      rw [show (ps.map dPair).length = ps.length from List.length_map _, List.take_length] at m3
      refine x_assign (e_call_b (v_builtin (v := .builtin "len") B.glo S.base (by simp [biNames]) ⟨rfl, e_lc [("pairs", L + 1)] (v_cell S (.tail _ (.tail _ (.head _))) ?_)⟩))
      obtain ⟨ap, vp, np, rfl, ep, rp⟩ := rv.list
      refine pi_list (S.base _ _ ep) ⟨_, _, _, _, S.push (.obj (LI ap)) rfl rfl, fun D C h₅ oL S => ?_⟩
      refine ⟨self_list lv'.hh (I := h₄.objs.size) (by obtain ⟨_, g, e⟩ := S.at (.tail _ (.tail _ (.head _))); cases e; exact g) (S.base _ _ ep), ?_⟩
      refine it_list (env := compEnvC _ _ C _) lv'.hh (loop_out) BN.mono (.inl rfl) ep rp (S.perm (own' := (h₄.objs.size, .obj (LI ap)) :: (L, .obj oL) :: (D, .lst []) :: (I, .obj o) :: (Dn, .dct kvs) :: (L + 1, .cell (some (.ref ap))) :: []) ?_)
        (HI3 L Dn I D ap o oL kvs ps) ⟨[], rfl, rfl⟩ ?_ ?_
      · exact perm3 _ _ _ _
      · rintro j d1 v1 m' fr3 own o3 h₆ hd1 rv1 ⟨vs, rfl, hvs⟩ hle3 S
        rw [List.getElem?_map] at hd1
        obtain ⟨p, hp, rfl⟩ := Option.map_eq_some_iff.mp hd1
        obtain ⟨at1, n1, t3, t4, rfl, e1⟩ := rv1.pair
        refine a_tuple2 lv'.hh S (S.base _ _ e1) fun h₆ S => store S fun h₆ S => store S fun h₆ S => WPT.nil ?_
        show WP _ _ _ _ _ _
        refine v_cell S (.tail _ (.tail _ (.tail _ (.tail _ (.tail _ (.head _)))))) (pi_list (S.base _ _ ep) ?_)
        have S := S.push (.obj (LI ap)) rfl rfl
        refine start rfl rfl rfl rfl (self_list lv'.hh (by obtain ⟨_, g, e⟩ := S.at (.head _); cases e; exact g) (S.base _ _ ep)) ?_
        refine it_list (env := compEnvC _ _ C _) lv'.hh (loop_in) BL.mono (.inl rfl) ep rp S
          (HI4 L Dn I D ap h₄.objs.size o oL o3 kvs ps p t3 t4 j) ⟨by walk_at "lk", by walk_at "lk", vs, rfl, by simpa [crossL] using hvs⟩ ?_ ?_
        · rintro k d2 v2 m' fr4 own o4 h₇ hd2 rv2 ⟨ma, mb, vs, rfl, hvs⟩ hle4 S
          rw [List.getElem?_map] at hd2
          obtain ⟨p', hp', rfl⟩ := Option.map_eq_some_iff.mp hd2
          obtain ⟨at2, n2, t5, t6, rfl, e2⟩ := rv2.pair
          refine a_tuple2 lv'.hh S (S.base _ _ e2) fun h₇ S => store S fun h₇ S => store S fun h₇ S => WPT.one (t_cmp3 (v_local S (by walk_at "lk") ?_))
          have hk1 : crossL (ps.take (k + 1)) p = crossL (ps.take k) p ++ crossL [p'] p := by
            unfold crossL
            rw [List.take_add_one, hp']; simp
          refine tc2 (v_local S (by walk_at "lk") (i_lt (c_bool ?_)))
          by_cases c1 : p.1 < p'.1
          · rw [if_pos (by simpa using c1)]
            refine tc2 (v_local S (by walk_at "lk") (i_lt (c_bool ?_)))
            by_cases c2 : p'.1 < p.2
            · rw [if_pos (by simpa using c2)]
              refine tc1 (v_local S (by walk_at "lk") (i_lt (c_bool ?_)))
              by_cases c3 : p.2 < p'.2
              · rw [if_pos (by simpa using c3)]
                refine e_int fun t7 => append_list S (.tail (.tail (.tail .head))) ?_ fun h₈ S => ?_
                · rw [hvs]
                  have h1 := cross_part hpl j
                  have h2 := crossL_len (ps.take k) p
                  have h3 := take_len_le ps k
                  omega
                refine ⟨_, _, _, Know.le.refl _, ⟨by walk_at "lk", by walk_at "lk", _, rfl, ?_⟩, S⟩
                rw [hk1, List.length_append, List.length_append, hvs]
                simp [crossL, c1, c2, c3]; omega
              · rw [if_neg (by simpa using c3)]
                refine ⟨_, _, _, Know.le.refl _, ⟨by walk_at "lk", by walk_at "lk", _, rfl, ?_⟩, S⟩
                rw [hk1, List.length_append, hvs]
                simp [crossL, c1, c2, c3]
            · rw [if_neg (by simpa using c2)]
              show if false = true then _ else _
              rw [if_neg Bool.false_ne_true]
              refine ⟨_, _, _, Know.le.refl _, ⟨by walk_at "lk", by walk_at "lk", _, rfl, ?_⟩, S⟩
              rw [hk1, List.length_append, hvs]
              simp [crossL, c1, c2]
          · rw [if_neg (by simpa using c1)]
            show if false = true then _ else _
            rw [if_neg Bool.false_ne_true]
            refine ⟨_, _, _, Know.le.refl _, ⟨by walk_at "lk", by walk_at "lk", _, rfl, ?_⟩, S⟩
            rw [hk1, List.length_append, hvs]
            simp [crossL, c1]
        · rintro m' fr4 own h₇ ⟨ma, mb, vs, rfl, hvs⟩ hle4 S
          rw [show (ps.map dPair).length = ps.length from List.length_map _, List.take_length] at hvs
          refine ⟨_, _, _, hle4, ⟨vs, rfl, ?_⟩, S⟩
          rw [hvs, List.take_add_one, hp]; simp
      · rintro m' fr3 own h₆ ⟨vs, rfl, hvs⟩ hle3 S
        rw [show (ps.map dPair).length = ps.length from List.length_map _, List.take_length] at hvs
        refine ⟨_, _, _, S, fun h₇ S => ?_⟩
        have hc : vs.length = cross ps := hvs
        obtain ⟨nD, gD⟩ := S.lst (.head _)
        refine len_l gD ?_ fun t7 => store S fun h₈ S => ?_
        · rw [hc]; exact Nat.le_trans (cross_le hpl) (by omega)
        rw [hc] at S
        obtain ⟨oD, eD, xD⟩ := S.dct (.tail _ (.tail _ (.head _)))
        have hkl : kvs.length ≤ 10000 := by
          have := hI.length
          have := dueF_len T (ws.take i)
          have := take_len_le ws i
          omega
        refine x_assign_sub (e_bin (e_meth F.plainAttrs_dict F.slot_dict_get F.type_dict_get (v_local S (by walk_at "lk") ⟨TyH.ref eD (by obtain ⟨_, _, z, _⟩ := xD; exact z.1), fun _ z => by cases z; exact ⟨_, eD, by obtain ⟨_, _, z, _⟩ := xD; exact z.2.1⟩, ?_⟩)))
        refine v_local S (by walk_at "lk") (e_int fun t8 => d_getdef hD eD xD hI fun t9 => v_local S (by walk_at "lk") (i_add fun t10 => v_local S (by walk_at "lk") (v_local S (by walk_at "lk") (d_set S (.tail (.tail .head)) hkl fun h₉ S => x_nil ?_))))
        have S := S.drop (own' := [(I, .obj o), (Dn, .dct (stored kvs (cross ps) (.int ((dget (dueF T (ws.take i)) (cross ps)).getD 0 + prodF T ps) t10))), (L + 1, .cell (some (.ref ap)))]) (List.sublist_cons_self _ _)
        refine ⟨_, _, _, hle2.trans hle3, ⟨by walk_at "lk", by walk_at "lk", _, _, rfl, ?_⟩, S⟩
        have : dueF T (ws.take (i + 1)) = dueStep T (dueF T (ws.take i)) ps := by
          unfold dueF
          rw [List.take_add_one, hps]; simp
        rw [this]
        exact hI.put _ _ _
  · rintro m fr own h₄ ⟨m1, m2, kvs, c, rfl, hI⟩ hle S
    rw [show (ws.map dPairs).length = ws.length from List.length_map _, List.take_length] at hI
    refine x_ret (v_local S (by walk_at "lk") ?_)
    obtain ⟨fr3, _, r3, S3⟩ := frz_dict (pre := []) (post := [(L + 1, .cell c)]) S rfl hI hD
    exact q _ _ (fun _ _ e => S3.base _ _ e) (r3.mono (S3.le_fresh fun _ _ e => e))
end
end Mine
end

section
set_option maxRecDepth 100000
set_option Elab.async false
set_option linter.unusedVariables false
set_option linter.unusedSimpArgs false
set_option autoImplicit false
namespace Mine
open PySem PySem.Calls PySem.W PyProof.Rows
local macro_rules | `(tactic| walk_at "lk") => `(tactic| first | assumption | exact upd_self | (refine' upd_ne (by decide) ?lkE; case lkE => walk_at "lk"))

noncomputable def setEnt (T : List (List Int)) (i j : Nat) (x : Int) : List (List Int) := T.set i ((T.getD i []).set j x)
noncomputable def Skew (T : List (List Int)) : Prop := ∀ i j, i < 6 → j < 6 → ent T i j = - ent T j i
theorem ent_set {T : List (List Int)} (t : Tab T) {i j : Nat} (hi : i < 6) (hj : j < 6) (x : Int) (a b : Nat) : ent (setEnt T i j x) a b = if a = i ∧ b = j then x else ent T a b := by
  obtain ⟨r, hr, hrj, -⟩ := t.at hi hj
  have hl : i < T.length := by rw [t.len]; exact hi
  have hjl : j < r.length := by
    rcases Nat.lt_or_ge j r.length with h | h
    · exact h
    · rw [List.getElem?_eq_none h] at hrj; cases hrj
  unfold ent setEnt
  simp only [List.getD_eq_getElem?_getD, List.getElem?_set, hr, Option.getD_some]
  by_cases ha : i = a
  · subst ha
    simp only [if_true, hl, Option.getD_some, List.getElem?_set, hr]
    by_cases hb : j = b
    · subst hb
      simp [hjl]
    · have : ¬ b = j := fun e => hb e.symm
      simp [hb, this]
  · have : ¬ a = i := fun e => ha e.symm
    simp [ha, this]
theorem Tab.set {T : List (List Int)} (t : Tab T) {i j : Nat} (hi : i < 6) {x : Int} (hx : x.natAbs ≤ 10000) : Tab (setEnt T i j x) := by
  have hl : i < T.length := by rw [t.len]; exact hi
  have hg : T.getD i [] = T[i] := by simp [List.getD_eq_getElem?_getD, List.getElem?_eq_getElem hl]
  refine ⟨by unfold setEnt; rw [List.length_set]; exact t.len, fun r hr => ?_⟩
  unfold setEnt at hr
  rcases List.mem_or_eq_of_mem_set hr with h | h
  · exact t.row r h
  · subst h
    rw [hg]
    obtain ⟨h1, h2⟩ := t.row T[i] (List.getElem_mem hl)
    refine ⟨by rw [List.length_set]; exact h1, fun y hy => ?_⟩
    rcases List.mem_or_eq_of_mem_set hy with h | h
    · exact h2 y h
    · rw [h]; exact hx
theorem Skew.set {T : List (List Int)} (t : Tab T) (s : Skew T) {i j : Nat} (hi : i < 6) (hj : j < 6) (hij : i ≠ j) {x : Int} (hx : x.natAbs ≤ 10000) : Skew (setEnt (setEnt T i j x) j i (-x)) := by
  intro a b ha hb
  have t2 := t.set hi (j := j) hx
  rw [ent_set t2 hj hi, ent_set t2 hj hi, ent_set t hi hj, ent_set t hi hj]
  have := s a b ha hb
  split <;> split <;> (try split) <;> (try split) <;> omega
noncomputable def zeroT : List (List Int) := List.replicate 6 (List.replicate 6 0)
theorem zeroT_tab : Tab zeroT := ⟨rfl, by decide⟩
theorem zeroT_skew : Skew zeroT := by
  intro i j hi hj
  have : ∀ i, i < 6 → ∀ j, j < 6 → ent zeroT i j = - ent zeroT j i := by decide
  exact this i hi j hj
noncomputable def fixedL : List Int := [2, -1, 3, 1, 1, 1, 2, -1, 1, 1, 1, 2, -2, 1, 3]
noncomputable def kk (n : Nat) : Nat := match n with
  | 0 => 0
  | 1 => 5
  | 2 => 9
  | 3 => 12
  | 4 => 14
  | _ => 15
theorem kk_succ (n : Nat) (h : n < 6) : kk (n + 1) = kk n + (5 - n) := by
  have : ∀ n, n < 6 → kk (n + 1) = kk n + (5 - n) := by decide
  exact this n h
theorem kk_lt (n j : Nat) (h : n + 1 + j < 6) : kk n + j < 15 := by
  have h1 : ∀ n, n < 6 → kk n + (5 - n) ≤ 15 := by decide
  have := h1 n (by omega)
  omega

section
variable {prog : Program} {w : World} {A : Around} {env : Env} {h : Heap}
variable {P : Value → Heap → Prop} {κ fr : Know} {L : Addr} {m : Loc} {own own' : List (Addr × Res)}
noncomputable abbrev rowR (p : Addr × List Value) : Addr × Res := (p.1, .lst p.2)
noncomputable abbrev rowV (p : Addr × List Value) : Value := .ref p.1
noncomputable def RowsAre (prog : Program) (w : World) : List (Addr × List Value) → List (List Int) → Prop
  | [], [] => True
  | p :: r, t :: T => Reps prog w Know.nil p.2 (t.map .int) ∧ RowsAre prog w r T
  | _, _ => False
theorem RowsAre.len : ∀ {rws : List (Addr × List Value)} {T : List (List Int)}, RowsAre prog w rws T → rws.length = T.length
  | [], [], _ => rfl
  | p :: r, t :: T, h => by rw [List.length_cons, List.length_cons, RowsAre.len h.2]
  | [], _ :: _, h => h.elim
  | _ :: _, [], h => h.elim
theorem RowsAre.at : ∀ {rws : List (Addr × List Value)} {T : List (List Int)}, RowsAre prog w rws T → ∀ {i : Nat} {r : List Int}, T[i]? = some r → ∃ p, rws[i]? = some p ∧ Reps prog w Know.nil p.2 (r.map .int)
  | p :: r, t :: T, h, 0, x, e => by cases e; exact ⟨p, rfl, h.1⟩
  | p :: r, t :: T, h, i + 1, x, e => RowsAre.at h.2 (i := i) e
  | [], [], _, i, x, e => by simp at e
  | [], _ :: _, h, _, _, _ => h.elim
  | _ :: _, [], h, _, _, _ => h.elim
theorem RowsAre.set : ∀ {rws : List (Addr × List Value)} {T : List (List Int)}, RowsAre prog w rws T → ∀ (i : Nat) {p : Addr × List Value} {r : List Int}, Reps prog w Know.nil p.2 (r.map .int) → RowsAre prog w (rws.set i p) (T.set i r)
  | p :: r, t :: T, h, 0, x, y, e => ⟨e, h.2⟩
  | p :: r, t :: T, h, i + 1, x, y, e => ⟨h.1, RowsAre.set h.2 i e⟩
  | [], [], _, i, x, y, e => True.intro
  | [], _ :: _, h, _, _, _, _ => h.elim
  | _ :: _, [], h, _, _, _, _ => h.elim
theorem RowsAre.snoc : ∀ {rws : List (Addr × List Value)} {T : List (List Int)}, RowsAre prog w rws T → ∀ {p : Addr × List Value} {r : List Int}, Reps prog w Know.nil p.2 (r.map .int) → RowsAre prog w (rws ++ [p]) (T ++ [r])
  | p :: r, t :: T, h, x, y, e => ⟨h.1, RowsAre.snoc h.2 e⟩
  | [], [], _, x, y, e => ⟨e, True.intro⟩
  | [], _ :: _, h, _, _, _ => h.elim
  | _ :: _, [], h, _, _, _ => h.elim
theorem OwnUpd.row : ∀ {rws : List (Addr × List Value)} {i : Nat} {p : Addr × List Value} {vs' : List Value}, rws[i]? = some p → OwnUpd p.1 (.lst p.2) (.lst vs') (rws.map rowR) ((rws.set i (p.1, vs')).map rowR)
  | p :: r, 0, _, _, e => by cases e; exact .head
  | p :: r, i + 1, _, _, e => .tail (OwnUpd.row (i := i) e)
  | [], i, _, _, e => by simp at e
theorem rowV_set : ∀ {rws : List (Addr × List Value)} {i : Nat} {p : Addr × List Value} {vs' : List Value}, rws[i]? = some p → (rws.set i (p.1, vs')).map rowV = rws.map rowV
  | p :: r, 0, _, _, e => by cases e; rfl
  | p :: r, i + 1, _, _, e => by rw [List.set_cons_succ, List.map_cons, List.map_cons, rowV_set (i := i) e]
  | [], i, _, _, e => by simp at e
theorem frz_rows : ∀ {rws : List (Addr × List Value)} {T : List (List Int)} {fr : Know} {pre : List (Addr × Res)}, RowsAre prog w rws T → Sat prog w κ fr L m (pre ++ rws.map rowR) h →
    ∃ fr', Know.le fr fr' ∧ Reps prog w fr' (rws.map rowV) (T.map .ints) ∧ Sat prog w κ fr' L m pre h
  | [], [], fr, pre, _, S => ⟨fr, Know.le.refl _, .nil, by simpa using S⟩
  | p :: r, t :: T, fr, pre, hr, S => by
    obtain ⟨fr1, le1, r1, S1⟩ := frz_own (ds := t.map .int) S rfl (Reps.of_ints hr.1.ints)
    obtain ⟨fr2, le2, r2, S2⟩ := frz_rows hr.2 S1
    exact ⟨fr2, le1.trans le2, .cons (r1.mono le2) r2, S2⟩
  | [], _ :: _, _, _, h, _ => h.elim
  | _ :: _, [], _, _, h, _ => h.elim
theorem Reps.zeros {k : Know} {t : Tok} : ∀ n, Reps prog w k (List.replicate n (.int 0 t)) ((List.replicate n (0 : Int)).map .int)
  | 0 => .nil
  | n + 1 => .cons .int (Reps.zeros n)

theorem Sat.fnew {o : Obj} (S : Sat prog w κ fr L m own h) (hf : o.isFreed = false) : ∃ fr', Know.le fr fr' ∧ fr' h.objs.size = some o ∧ Sat prog w κ fr' L m own (h.push o) :=
  ⟨_, Know.le_ins (S.none_of (get?_size h)).2, Know.ins_self, S.fpush hf⟩
/-- sum(x) of something that is walked -/
theorem sum_wp {x : Value} (q : WP prog w A.in1 (pyIter x) h fun it h₂ => ∃ I fp n Pv St val, it = .ref I ∧ Walks prog w A.in1 I fp [I] n Pv St ∧ St 0 h₂ ∧ (∀ b ∈ fp, b < h₂.objs.size) ∧
      (∀ i v, Pv i v → ∃ t, v = .int (val i) t) ∧ ∀ h' t', (∀ b o, b ≠ I → h₂.get? b = some o → h'.get? b = some o) → P (.int (preSum val n) t') h') : WP prog w A (call (.builtin "sum") [x] []) h P := fun gs dr tk os => by
  refine call_sum_walkG (run (q gs dr tk os) (fun it h₂ tk₂ y => ?_) fun _ _ e => e.elim)
  obtain ⟨I, fp, n, Pv, St, val, rfl, W, st, hfp, hv, z⟩ := y
  exact ⟨I, fp, [I], n, Pv, St, val, rfl, W, st, hfp, hv, fun h' tk' t' hk => ⟨h', tk', rfl, z h' t' fun b o hb e => hk b o (by simpa using hb) e⟩⟩
theorem sum_list (lv : A.handled = none) {a : Addr} {vs : List Value} {n : Nat} {ns : List Int} (e : h.get? a = some (LO vs n)) (hi : IntsAre vs ns) (q : ∀ h' t, KeepsH h h' → P (.int ns.sum t) h') : WP prog w A (call (.builtin "sum") [.ref a] []) h P := by
  refine sum_wp (pi_list e ?_)
  have hne : a ≠ h.objs.size := Nat.ne_of_lt (Heap.lt_size e)
  have hlen : vs.length = ns.length := by rw [(Reps.of_ints (prog := prog) (w := w) (k := Know.nil) hi).length]; simp
  refine ⟨_, _, _, _, _, fun i => ns.getD i 0, rfl, Walks.list (A := A.in1) lv h.objs.size a hne vs.toArray, ⟨⟨_, Heap.get?_push_size _ rfl, rfl, rfl⟩, LO.isList (Heap.get?_push_of_some _ e)⟩, ?_, ?_, ?_⟩
  · intro b hb
    have := Heap.lt_size e
    rw [Heap.size_push]
    rcases List.mem_cons.mp hb with rfl | hb
    · exact Nat.lt_succ_self _
    · rw [List.mem_singleton.mp hb]; exact Nat.lt_succ_of_lt this
  · intro i v hv
    obtain ⟨d, hd, r⟩ := (Reps.of_ints (prog := prog) (w := w) (k := Know.nil) hi).at (i := i) (v := v) (by simpa using hv)
    rw [List.getElem?_map] at hd
    obtain ⟨x, hx, rfl⟩ := Option.map_eq_some_iff.mp hd
    obtain ⟨t, rfl⟩ := r.intv
    exact ⟨t, by simp [List.getD_eq_getElem?_getD, hx]⟩
  · intro h' t' hk
    rw [preSum_getD, List.size_toArray, hlen, List.take_length]
    exact q h' t' fun b o e' => hk b o (Nat.ne_of_lt (Heap.lt_size e')) (Heap.get?_push_of_some _ e')
/-- a slice with a step of a list of ints that is a parameter -/
theorem slice_step {a sl : Addr} {vs : List Value} {ns : List Int} {i j : Int} {t u : Tok} (S : Sat prog w κ fr L m own h) (ea : h.IsList a vs.toArray) (hi : IntsAre vs ns) (es : h.get? sl = some (SlO (.int i t) .none (.int j u))) (hj : j ≠ 0) (hsz : vs.length ≤ 10000)
    (q : ∀ fr' W ms us h', Know.le fr fr' → IntsAre us ms → fr' W = some (LO us 0) → Sat prog w κ fr' L m own h' → P (.ref W) h') :
    GetQ prog w A (.ref a) (.ref sl) h P := by
  have ea' := ea
  obtain ⟨o, eo, hc, n, hd⟩ := ea'
  refine ⟨"list", _, TyH.ref eo hc, slot_list_getitem.lookup, .of fun Q E gs dr tk os c => wpAny_getItem_list_slice ea ⟨_, es, rfl, rfl⟩ (.int _ _) .none (.int _ _) (by simpa using hj) (c _ _ _ ?_) (by simp; rw [sizeLine_eq]; omega)⟩
  have hp := hi.pick (some i) none (some j)
  exact q _ _ _ _ _ (Know.le_ins (S.none_of (get?_size h)).2) hp Know.ins_self (S.fpush (o := LO (slicePick vs.toArray (some i) none (some j)).toList 0) rfl)
end

/-! the loops' invariants -/
inductive FI1 (prog : Program) (w : World) (L D : Addr) (oL : Obj) (i : Nat) (m : Loc) (fr : Know) (own : List (Addr × Res)) : Prop
  | mk (rws : List (Addr × List Value)) (e : own = (L, .obj oL) :: (D, .lst (rws.map rowV)) :: rws.map rowR) (r : RowsAre prog w rws (List.replicate i (List.replicate 6 0)))
inductive FI2 (prog : Program) (w : World) (D Fx sa : Addr) (i : Nat) (m : Loc) (fr' : Know) (own : List (Addr × Res)) : Prop
  | mk (m1 : m "table" = some (.ref D)) (m2 : m "fixed" = some (.ref Fx)) (m3 : m "script" = some (.ref sa)) (m4 : ∃ t, m "k" = some (.int (kk i) t)) (rws : List (Addr × List Value)) (T : List (List Int)) (e : own = (D, .lst (rws.map rowV)) :: rws.map rowR) (r : RowsAre prog w rws T) (t : Tab T) (s : Skew T)
inductive FI3 (prog : Program) (w : World) (D Fx sa I : Addr) (o : Obj) (i : Nat) (t9 : Tok) (j : Nat) (m : Loc) (fr' : Know) (own : List (Addr × Res)) : Prop
  | mk (m1 : m "table" = some (.ref D)) (m2 : m "fixed" = some (.ref Fx)) (m3 : m "script" = some (.ref sa)) (m3' : m "low" = some (.int (i : Int) t9)) (m4 : ∃ t, m "k" = some (.int ((kk i + j : Nat) : Int) t)) (rws : List (Addr × List Value)) (T : List (List Int)) (e : own = (I, .obj o) :: (D, .lst (rws.map rowV)) :: rws.map rowR) (r : RowsAre prog w rws T) (t : Tab T) (s : Skew T)
section
variable {prog : Program} {w : World} {A : Around} {h : Heap} {a : Ad} {d : Nat}
variable {P : Value → Heap → Prop}
theorem table_spec (lv : Lv A d) (hd : d ≤ 90) (B : Base prog w a h.get?) {sa : Addr} {vs : List Value} {ns : List Int} (hl : h.IsList sa vs.toArray) (hi : IntsAre vs ns) (hlen : vs.length ≤ 1000)
    (q : ∀ h' v T, KeepsH h h' → Tab T → Skew T → Rep prog w (fresh h h') v (.lst (T.map .ints)) → P v h') : WP prog w A (call (.ref a.table) [.ref sa] []) h P := by
  refine call_def (B.table h fun _ _ e => e) (B.lim h fun _ _ e => e) (lv.depth (by omega)) (binds := [("script", .ref sa)]) (fun _ _ _ _ _ s _ => binds_of (by with_unfolding_all rfl) s) (by rfl) (fun L h₁ cd hk S => ?_) (by decide +kernel)
  have lv' := lv.deeper (fenv 16 L a.table cd)
  generalize hA : A.deeper (fenv 16 L a.table cd) = A' at lv' ⊢
  dsimp only [mapOf, List.foldl_cons, List.foldl_nil] at S
  refine x_assign (e_list_frz ?_)
  refine e_int fun t0 => e_un (e_int fun t1 => i_neg fun t1 => e_int fun t2 => e_int fun t3 => e_int fun t4 => e_int fun t5 => e_int fun t6 => e_un (e_int fun t7 => i_neg fun t7 => e_int fun t8 => e_int fun t9 => e_int fun t10 => e_int fun t11 => e_un (e_int fun t12 => i_neg fun t12 => e_int fun t13 => e_int fun t14 => ?_)))
  refine ⟨by simp, _, _, _, _, _, fixedL.map .int, S, ?_, fun fr1 Fx h₂ le1 rF S => store S fun h₂ S => ?_⟩
  · exact .cons .int (.cons .int (.cons .int (.cons .int (.cons .int (.cons .int (.cons .int (.cons .int (.cons .int (.cons .int (.cons .int (.cons .int (.cons .int (.cons .int (.cons .int .nil))))))))))))))
  refine x_lc [] (e_call_t (v_builtin (v := .type "range") B.glo S.base (by simp [biNames]) ⟨rfl, e_int fun t1 => range1 fun t2 t3 t4 => ?_⟩))
  refine pi_range (Heap.get?_push_size _ rfl) (by omega) (by omega) ?_
  obtain ⟨fr2, le2, -, S⟩ := S.fnew (o := RO 0 6 t2 t3 t4) rfl
  generalize Heap.push h₂ _ = h₃ at S ⊢
  have S := S.push (.obj (RI 0 6)) rfl rfl
  refine ⟨_, _, _, _, S, fun D C h₅ oL S => ⟨self_range lv'.hh (I := h₃.objs.size) (by obtain ⟨_, g, e⟩ := S.at (.tail _ (.tail _ (.head _))); cases e; exact g), ?_⟩⟩
  refine it_range (env := compEnvC _ _ C _) lv'.hh loop_bl BL.mono (S.perm (perm3 _ _ _ _)) (FI1 prog w L D oL) ⟨[], rfl, True.intro⟩ ?_ ?_
  · rintro i t m fr own o h₆ hi6 ⟨rws, rfl, hr⟩ hle S
    refine a_name (store S fun h₆ S => WPT.nil ?_)
    show WP _ _ _ _ _ _
    refine e_bin (e_list_own (e_int fun t5 => ⟨by simp, _, _, _, _, _, S, fun W h₇ S => e_int fun t6 => ?_⟩))
    obtain ⟨nW, gW⟩ := S.lst (.head _)
    refine mul_one_list gW (by omega) (by omega) ?_
    have S := own_list (S.drop (List.sublist_cons_self _ _)) (List.replicate 6 (.int 0 t5)) 0
    refine append_list S (.tail (.tail (.tail .head))) ?_ fun h₈ S => ?_
    · have := hr.len
      simp at this ⊢; omega
    have S := S.perm (List.perm_append_singleton _ _).symm
    generalize h₇.objs.size = W2 at S ⊢
    have S2 : Sat prog w h.get? fr C (upd m (Str.ofString "_") (Value.int (0 + (i : Int)) t)) ((h₃.objs.size, .obj o) :: (L, .obj oL) :: (D, .lst ((rws ++ [(W2, List.replicate 6 (Value.int 0 t5))]).map rowV)) :: (rws ++ [(W2, List.replicate 6 (Value.int 0 t5))]).map rowR) h₈ := by
      rw [List.map_append, List.map_append]
      exact S
    refine ⟨_, _, _, Know.le.refl _, ⟨rws ++ [(W2, List.replicate 6 (Value.int 0 t5))], rfl, ?_⟩, S2⟩
    rw [show List.replicate (i + 1) (List.replicate 6 (0 : Int)) = List.replicate i (List.replicate 6 0) ++ [List.replicate 6 0] from List.replicate_succ']
    exact hr.snoc (p := (W2, List.replicate 6 (Value.int 0 t5))) (r := List.replicate 6 0) (Reps.zeros 6)
  · rintro m fr own h₆ ⟨rws, rfl, hr⟩ hle S
    refine ⟨_, _, _, S, fun h₇ S => ?_⟩
    have hr : RowsAre prog w rws zeroT := hr
    refine x_assign (e_int fun t1 => store S fun h₇ S => ?_)
    refine x_for_range lv'.hh S (FI2 prog w D Fx sa)
      (e_call_t (v_builtin (v := .type "range") B.glo S.base (by simp [biNames]) ⟨rfl, e_int fun t5 => range1 fun t6 t7 t8 => ?_⟩))
    obtain ⟨fr4, le4, e4, S⟩ := S.fnew (o := RO 0 6 t6 t7 t8) rfl
    refine ⟨_, _, _, _, 0, 6, _, _, _, rfl, S.fsub _ _ e4, by omega, by omega, by omega, by omega, S, ⟨by walk_at "lk", by walk_at "lk", by walk_at "lk", ⟨t1, by walk_at "lk"⟩, rws, zeroT, rfl, hr, zeroT_tab, zeroT_skew⟩, ?_, ?_⟩
    · rintro i I t9 m fr5 own o h₈ hi6 ⟨m1, m2, m3, ⟨tk, m4⟩, rws, T, rfl, hr, tb, sk⟩ hle5 S
      simp only [Int.zero_add] at hi6 ⊢
      refine a_name (store S fun h₈ S => ?_)
      refine x_for_range lv'.hh S (FI3 prog w D Fx sa I o i t9)
        (e_call_t (v_builtin (v := .type "range") B.glo S.base (by simp [biNames]) ⟨rfl, e_bin (v_local S (by walk_at "lk") (e_int fun t10 => i_add fun t11 => e_int fun t12 => range2 fun t13 t14 t15 => ?_))⟩))
      obtain ⟨fr6, le6, e6, S⟩ := S.fnew (o := RO ((i : Int) + 1) 6 t13 t14 t15) rfl
      refine ⟨_, _, _, _, _, 6, _, _, _, rfl, S.fsub _ _ e6, by omega, by omega, by omega, by omega, S, ⟨by walk_at "lk", by walk_at "lk", by walk_at "lk", by walk_at "lk", ⟨tk, by walk_at "lk"⟩, rws, T, rfl, hr, tb, sk⟩, ?_, ?_⟩
      · rintro j I2 t16 m fr7 own o2 h₉ hj6 ⟨m1, m2, m3, m3', ⟨tk, m4⟩, rws, T, rfl, hr, tb, sk⟩ hle7 S
        have hij : (i : Int) + 1 + (j : Int) = ((i + 1 + j : Nat) : Int) := by omega
        rw [hij]
        refine a_name (store S fun h₉ S => ?_)
        have rF7 := rF.mono (((((le2.trans hle).trans le4).trans hle5).trans le6).trans hle7)
        have hk15 := kk_lt i j (by omega)
        obtain ⟨fx, hfx⟩ : ∃ fx, fixedL[kk i + j]? = some fx := ⟨_, List.getElem?_eq_getElem (by show _ < 15; exact hk15)⟩
        refine x_assign (e_bin (e_bin (e_bin (e_bin (e_sub (v_local S (by walk_at "lk") (v_local S (by walk_at "lk") (r_list (d := .int fx) S.fsub rF7 (by omega) (by rw [Int.toNat_natCast, List.getElem?_map, hfx]; rfl) (by omega) fun z rz => ?_))))))))
        obtain ⟨tz, rfl⟩ := rz.intv
        refine e_call_b (v_builtin (v := .builtin "sum") B.glo S.base (by simp [biNames]) ⟨rfl, e_sub (v_local S (by walk_at "lk") (e_slice (p_some (v_local S (by walk_at "lk") (p_none (p_some (e_int fun t17 => ?_)))))))⟩)
        obtain ⟨fr8, le8, e8, S⟩ := S.fnew (o := SlO (.int ((kk i + j : Nat) : Int) tk) .none (.int 15 t17)) rfl
        obtain ⟨osc, esc, csc, nsc, dsc⟩ := hl
        refine slice_step S ⟨osc, S.base _ _ esc, csc, nsc, dsc⟩ hi (S.fsub _ _ e8) (by decide) (by omega) fun fr9 W9 ms us h₁₀ le9 hus e9 S => ?_
        refine sum_list lv'.hh (S.fsub _ _ e9) hus fun h₁₁ t18 k11 => ?_
        have S := S.keeps k11
        refine i_add fun t19 => e_int fun t20 => i_add fun t21 => e_int fun t22 => i_mod (by decide) fun t23 => e_int fun t24 => i_sub fun t25 => store S fun h₁₂ S => ?_
        have hpb : ∀ x : Int, (Int.fmod x 20001 - 10000).natAbs ≤ 10000 := fun x => by
          rw [Int.fmod_eq_emod_of_nonneg _ (by decide)]
          omega
        have hpx := hpb (fx + ms.sum + 10000)
        generalize Int.fmod (fx + ms.sum + 10000) 20001 - 10000 = p at S hpx
        obtain ⟨rl, hrl, -, -⟩ := tb.at (i := i) (j := 0) (by omega) (by omega)
        obtain ⟨pl, hpl, rpl⟩ := hr.at hrl
        obtain ⟨nD, gD⟩ := S.lst (.tail _ (.tail _ (.head _)))
        have hrl6 : rl.length = 6 := (tb.row rl (List.mem_of_getElem? hrl)).1
        have hpl6 : pl.2.length = 6 := by rw [rpl.length]; simpa using hrl6
        refine x_assign_sub (v_local S (by walk_at "lk") (e_sub (v_local S (by walk_at "lk") (v_local S (by walk_at "lk") (g_list gD (by omega) (by rw [Int.toNat_natCast, List.getElem?_map, hpl]; rfl) (by omega) (v_local S (by walk_at "lk") ?_))))))
        refine set_list S (.tail (.tail (.tail (OwnUpd.row hpl)))) (by omega) (by omega) (by omega) fun h₁₃ S => ?_
        have hr2 : RowsAre prog w (rws.set i (pl.1, pl.2.set ((i + 1 + j : Nat) : Int).toNat (.int p t25))) (setEnt T i (i + 1 + j) p) := by
          unfold setEnt
          refine hr.set i ?_
          have : T.getD i [] = rl := by simp [List.getD_eq_getElem?_getD, hrl]
          rw [this, List.map_set, Int.toNat_natCast]
          exact rpl.set _ .int
        have hv2 := rowV_set (vs' := pl.2.set ((i + 1 + j : Nat) : Int).toNat (.int p t25)) hpl
        rw [← hv2] at S
        have tb2 := tb.set (j := i + 1 + j) (by omega : i < 6) hpx
        generalize rws.set i (pl.1, pl.2.set ((i + 1 + j : Nat) : Int).toNat (.int p t25)) = rws2 at S hr2 hv2
        obtain ⟨rl2, hrl2, -, -⟩ := tb2.at (i := i + 1 + j) (j := 0) (by omega) (by omega)
        obtain ⟨pl2, hpl2, rpl2⟩ := hr2.at hrl2
        obtain ⟨nD2, gD2⟩ := S.lst (.tail _ (.tail _ (.head _)))
        have hrl62 : rl2.length = 6 := (tb2.row rl2 (List.mem_of_getElem? hrl2)).1
        have hpl62 : pl2.2.length = 6 := by rw [rpl2.length]; simpa using hrl62
        refine x_assign_sub (e_un (v_local S (by walk_at "lk") (i_neg fun t26 => e_sub (v_local S (by walk_at "lk") (v_local S (by walk_at "lk") (g_list gD2 (by omega) (by rw [Int.toNat_natCast, List.getElem?_map, hpl2]; rfl) (by omega) (v_local S (by walk_at "lk") ?_)))))))
        refine set_list S (.tail (.tail (.tail (OwnUpd.row hpl2)))) (by omega) (by omega) (by omega) fun h₁₄ S => ?_
        have hr3 : RowsAre prog w (rws2.set (i + 1 + j) (pl2.1, pl2.2.set (i : Int).toNat (.int (-p) t26))) (setEnt (setEnt T i (i + 1 + j) p) (i + 1 + j) i (-p)) := by
          have : (setEnt T i (i + 1 + j) p).getD (i + 1 + j) [] = rl2 := by simp [List.getD_eq_getElem?_getD, hrl2]
          show RowsAre prog w _ ((setEnt T i (i + 1 + j) p).set (i + 1 + j) (((setEnt T i (i + 1 + j) p).getD (i + 1 + j) []).set i (-p)))
          rw [this]
          refine hr2.set (i + 1 + j) ?_
          rw [List.map_set, Int.toNat_natCast]
          exact rpl2.set _ .int
        have hv3 := rowV_set (vs' := pl2.2.set (i : Int).toNat (.int (-p) t26)) hpl2
        rw [← hv3] at S
        have tb3 := tb2.set (j := i) (by omega : i + 1 + j < 6) (x := -p) (by omega)
        have sk3 := sk.set tb (by omega : i < 6) (by omega : i + 1 + j < 6) (by omega) hpx
        refine x_aug (l_local S.ns (by walk_at "lk") (e_int fun t27 => i_iadd fun t28 => store S fun h₁₅ S => x_nil ?_))
        exact ⟨_, _, _, le8.trans le9, ⟨by walk_at "lk", by walk_at "lk", by walk_at "lk", by walk_at "lk", ⟨t28, by rw [upd_self]; congr 1⟩, _, _, rfl, hr3, tb3, sk3⟩, S⟩
      · rintro m fr7 own h₉ ⟨m1, m2, m3, m3', ⟨tk, m4⟩, rws, T, rfl, hr, tb, sk⟩ hle7 S
        refine x_nil ⟨_, _, _, le6.trans hle7, ⟨m1, m2, m3, ⟨tk, ?_⟩, rws, T, rfl, hr, tb, sk⟩, S⟩
        rw [m4]
        have := kk_succ i (by omega)
        have e9 : ((6 : Int) - ((i : Int) + 1)).toNat = 5 - i := by omega
        rw [e9, this]
    · rintro m fr5 own h₈ ⟨m1, m2, m3, ⟨tk, m4⟩, rws, T, rfl, hr, tb, sk⟩ hle5 S
      obtain ⟨fr6, le6, r6, S⟩ := frz_rows (pre := [(D, .lst (rws.map rowV))]) hr S
      obtain ⟨fr7, le7, r7, S⟩ := frz_own (pre := []) (post := []) S rfl r6
      exact x_ret (v_local S (by walk_at "lk") (q _ _ T (fun _ _ e => S.base _ _ e) tb sk (r7.mono (S.le_fresh fun _ _ e => e))))
end
end Mine
end

section
set_option maxRecDepth 100000
set_option Elab.async false
set_option linter.unusedVariables false
set_option linter.unusedSimpArgs false
set_option autoImplicit false
namespace Mine
open PySem PySem.Calls PySem.W PyProof.Rows
local macro_rules | `(tactic| walk_at "lk") => `(tactic| first | assumption | exact upd_self | (refine' upd_ne (by decide) ?lkE; case lkE => walk_at "lk"))

/-! ## elimination -/
noncomputable abbrev Mx := List (List Int)
structure Mat (M : Mx) (b : Nat) : Prop where
  len : M.length = 6
  row : ∀ r ∈ M, r.length = 6 ∧ ∀ x ∈ r, x.natAbs < 2 ^ b
theorem Mat.at {M : Mx} {b : Nat} (t : Mat M b) {i j : Nat} (hi : i < 6) (hj : j < 6) : ∃ r, M[i]? = some r ∧ r[j]? = some (ent M i j) ∧ (ent M i j).natAbs < 2 ^ b := by
  have h1 : i < M.length := by rw [t.len]; exact hi
  obtain ⟨h2, h3⟩ := t.row M[i] (List.getElem_mem h1)
  have h4 : j < M[i].length := by rw [h2]; exact hj
  have e : ent M i j = M[i][j] := by unfold ent; simp [List.getD_eq_getElem?_getD, List.getElem?_eq_getElem h1, List.getElem?_eq_getElem h4]
  rw [e]
  exact ⟨M[i], List.getElem?_eq_getElem h1, List.getElem?_eq_getElem h4, h3 _ (List.getElem_mem h4)⟩
theorem Mat.getD {M : Mx} {b : Nat} (t : Mat M b) {i : Nat} (hi : i < 6) : M[i]? = some (M.getD i []) ∧ (M.getD i []).length = 6 ∧ ∀ x ∈ M.getD i [], x.natAbs < 2 ^ b := by
  have h1 : i < M.length := by rw [t.len]; exact hi
  have e : M.getD i [] = M[i] := by simp [List.getD_eq_getElem?_getD, List.getElem?_eq_getElem h1]
  obtain ⟨h2, h3⟩ := t.row M[i] (List.getElem_mem h1)
  rw [e]
  exact ⟨List.getElem?_eq_getElem h1, h2, h3⟩
theorem Mat.mono {M : Mx} {b b' : Nat} (t : Mat M b) (h : b ≤ b') : Mat M b' := ⟨t.len, fun r hr => ⟨(t.row r hr).1, fun x hx => Nat.lt_of_lt_of_le ((t.row r hr).2 x hx) (Nat.pow_le_pow_right (by decide) h)⟩⟩
theorem Mat.set {M : Mx} {b : Nat} (t : Mat M b) (i : Nat) {r : List Int} (h1 : r.length = 6) (h2 : ∀ x ∈ r, x.natAbs < 2 ^ b) : Mat (M.set i r) b :=
  ⟨by rw [List.length_set]; exact t.len, fun y hy => by
    rcases List.mem_or_eq_of_mem_set hy with h | rfl
    · exact t.row y h
    · exact ⟨h1, h2⟩⟩
noncomputable def bb : Nat → Nat
  | 0 => 14
  | n + 1 => 2 * bb n + 1
theorem bb_le (n : Nat) (h : n ≤ 6) : bb n ≤ 959 := by
  have : ∀ n, n ≤ 6 → bb n ≤ 959 := by decide
  exact this n h
noncomputable def found (M : Mx) (c : Nat) (n : Nat) : List Int := ((List.range n).filter fun i => decide (ent M (c + i) c ≠ 0)).map fun i => ((c + i : Nat) : Int)
noncomputable def swapR (M : Mx) (c f : Nat) : Mx := (M.set c (M.getD f [])).set f (M.getD c [])
noncomputable def newRow (M : Mx) (r c : Nat) (a : Int) (n : Nat) : List Int := (List.range n).map fun k => (ent M r k * ent M c c - ent M r c * ent M c k).fdiv a
noncomputable def elim (M : Mx) (c : Nat) (a : Int) : Nat → Mx
  | 0 => M
  | n + 1 => (elim M c a n).set (c + 1 + n) (newRow (elim M c a n) (c + 1 + n) c a 6)
noncomputable def detStep (c : Nat) (s : Mx × Int × Int) : Option (Mx × Int × Int) := match found s.1 c (6 - c) with
  | [] => none
  | f :: _ =>
    let M := if f = (c : Int) then s.1 else swapR s.1 c f.toNat
    let g := if f = (c : Int) then s.2.1 else -s.2.1
    some (elim M c s.2.2 (5 - c), g, ent (elim M c s.2.2 (5 - c)) c c)
noncomputable def detState (T : Mx) : Nat → Option (Mx × Int × Int)
  | 0 => some (T, 1, 1)
  | n + 1 => (detState T n).bind (detStep n)
noncomputable def detF (T : Mx) : Int := match detState T 6 with
  | some s => s.2.1 * s.2.2
  | none => 0
theorem detState_none {T : Mx} {n : Nat} (h : detState T n = none) : ∀ k, detState T (n + k) = none
  | 0 => h
  | k + 1 => by show (detState T (n + k)).bind _ = none; rw [detState_none h k]; rfl
theorem step_bound {x y z u a : Int} {b : Nat} (hx : x.natAbs < 2 ^ b) (hy : y.natAbs < 2 ^ b) (hz : z.natAbs < 2 ^ b) (hu : u.natAbs < 2 ^ b) : (x * y - z * u).natAbs < 2 ^ (2 * b + 1) ∧ ((x * y - z * u).fdiv a).natAbs < 2 ^ (2 * b + 1) ∧ (x * y).natAbs < 2 ^ (2 * b + 1) ∧ (z * u).natAbs < 2 ^ (2 * b + 1) := by
  have e : 2 ^ (2 * b + 1) = 2 * (2 ^ b * 2 ^ b) := by rw [Nat.pow_succ, Nat.two_mul, Nat.pow_add, Nat.mul_comm]
  have h1 : (x * y).natAbs < 2 ^ b * 2 ^ b := by rw [Int.natAbs_mul]; exact Nat.mul_lt_mul'' hx hy
  have h2 : (z * u).natAbs < 2 ^ b * 2 ^ b := by rw [Int.natAbs_mul]; exact Nat.mul_lt_mul'' hz hu
  have h3 := Int.natAbs_sub_le (x * y) (z * u)
  have h4 := Int.natAbs_fdiv_le_natAbs (x * y - z * u) a
  rw [e]
  omega
theorem bits_of {x : Int} {b : Nat} (h : x.natAbs < 2 ^ b) (hb : b ≤ 2000) : Builtin.Int.intBits x ≤ 2 ^ 20 := by
  unfold Builtin.Int.intBits
  split
  · omega
  · rename_i hx
    have h0 : x.natAbs ≠ 0 := by simp at hx; omega
    have := (Nat.log2_lt (n := x.natAbs) (k := b) h0).mpr h
    omega
theorem log_of {x : Int} {b : Nat} (h : x.natAbs < 2 ^ b) (hb : b ≤ 2000) : x.natAbs.log2 < 9000 := by
  by_cases h0 : x.natAbs = 0
  · rw [h0]; decide
  · have := (Nat.log2_lt (n := x.natAbs) (k := b) h0).mpr h
    omega
theorem newRow_mat {M : Mx} {b : Nat} (t : Mat M b) {r c : Nat} (hr : r < 6) (hc : c < 6) (a : Int) : (newRow M r c a 6).length = 6 ∧ ∀ x ∈ newRow M r c a 6, x.natAbs < 2 ^ (2 * b + 1) := by
  refine ⟨by unfold newRow; simp, fun x hx => ?_⟩
  unfold newRow at hx
  obtain ⟨k, hk, rfl⟩ := List.mem_map.mp hx
  have hk := List.mem_range.mp hk
  obtain ⟨-, -, -, h1⟩ := t.at hr hk
  obtain ⟨-, -, -, h2⟩ := t.at hc hc
  obtain ⟨-, -, -, h3⟩ := t.at hr hc
  obtain ⟨-, -, -, h4⟩ := t.at hc hk
  exact (step_bound h1 h2 h3 h4).2.1
/-- the rows not yet reached are as they were -/
theorem elim_len (M : Mx) (c : Nat) (a : Int) : ∀ n, (elim M c a n).length = M.length
  | 0 => rfl
  | n + 1 => by show (List.set _ _ _).length = _; rw [List.length_set, elim_len M c a n]
theorem elim_ent (M : Mx) (c : Nat) (a : Int) (i j : Nat) : ∀ n, (i ≤ c ∨ c + 1 + n ≤ i) → ent (elim M c a n) i j = ent M i j
  | 0, _ => rfl
  | n + 1, h => by
    have ih := elim_ent M c a i j n (by omega)
    rw [← ih]
    show ent (List.set _ _ _) i j = _
    unfold ent
    simp only [List.getD_eq_getElem?_getD]
    rw [List.getElem?_set_ne (by omega)]
theorem elim_newRow {M : Mx} {c : Nat} {a : Int} {n : Nat} (k : Nat) : newRow (elim M c a n) (c + 1 + n) c a k = newRow M (c + 1 + n) c a k := by
  unfold newRow
  apply List.map_congr_left
  intro j hj
  rw [elim_ent _ _ _ _ _ _ (.inr (Nat.le_refl _)), elim_ent _ _ _ _ _ _ (.inl (Nat.le_refl _)), elim_ent _ _ _ _ _ _ (.inr (Nat.le_refl _)), elim_ent _ _ _ _ _ _ (.inl (Nat.le_refl _))]
theorem elim_mat {M : Mx} {b : Nat} (t : Mat M b) {c : Nat} (a : Int) : ∀ n, c + n ≤ 5 → Mat (elim M c a n) (2 * b + 1)
  | 0, _ => t.mono (by omega)
  | n + 1, h => by
    have ih := elim_mat t (c := c) a n (by omega)
    show Mat (List.set _ _ _) _
    rw [elim_newRow]
    obtain ⟨h1, h2⟩ := newRow_mat t (r := c + 1 + n) (c := c) (by omega) (by omega) a
    exact ih.set _ h1 h2
theorem swapR_mat {M : Mx} {b : Nat} (t : Mat M b) {c f : Nat} (hc : c < 6) (hf : f < 6) : Mat (swapR M c f) b := by
  obtain ⟨-, h1, h2⟩ := t.getD hc
  obtain ⟨-, h3, h4⟩ := t.getD hf
  exact (t.set c h3 h4).set f h1 h2

theorem found_head {M : Mx} {c n : Nat} {f : Int} {l : List Int} (h : found M c n = f :: l) : ∃ i, i < n ∧ f = ((c + i : Nat) : Int) ∧ ent M (c + i) c ≠ 0 := by
  have hm : f ∈ found M c n := by rw [h]; exact .head _
  unfold found at hm
  obtain ⟨i, hi, rfl⟩ := List.mem_map.mp hm
  obtain ⟨h1, h2⟩ := List.mem_filter.mp hi
  exact ⟨i, List.mem_range.mp h1, rfl, by simpa using h2⟩
theorem ent_swapR {M : Mx} {b : Nat} (t : Mat M b) {c f : Nat} (hc : c < 6) (hf : f < 6) (hcf : f ≠ c) (j : Nat) : ent (swapR M c f) c j = ent M f j := by
  have h1 : c < M.length := by rw [t.len]; exact hc
  unfold ent swapR
  simp only [List.getD_eq_getElem?_getD]
  rw [List.getElem?_set_ne hcf, List.getElem?_set_self h1]
  rfl

section
variable {prog : Program} {w : World} {A : Around} {env : Env} {h : Heap}
variable {P : Value → Heap → Prop} {PF : Flow → Heap → Prop} {κ fr : Know} {L : Addr} {m : Loc} {own own' : List (Addr × Res)}
theorem x_if_join {test : Expr} {body orelse rest : List Stmt} {pos : Pos} (Q : Heap → Prop) (q : WP prog w A (isTrue test env (eval test env)) h fun b h₁ => if b = true then WP prog w A (execs body env) h₁ (fun f h => f = .next ∧ Q h) else WP prog w A (execs orelse env) h₁ (fun f h => f = .next ∧ Q h))
    (r : ∀ h, Q h → WP prog w A (execs rest env) h PF) : WP prog w A (execs (.If test body orelse pos :: rest) env) h PF :=
  x_if (q.mono fun b h₁ z => by
    cases b with
    | true => exact WP.mono z fun f h' ⟨e, y⟩ => by subst e; exact r _ y
    | false => exact WP.mono z fun f h' ⟨e, y⟩ => by subst e; exact r _ y)
inductive MatR (kn : Know) (M : Mx) (i : Nat) (P : Value → Heap → Prop) (jv : Value) (h₃ : Heap) : Prop
  | mk (j : Nat) (t : Tok) (e : jv = .int (j : Int) t) (lt : j < 6) (hk : Sub kn h₃) (q : ∀ t, P (.int (ent M i j) t) h₃)
inductive MatQ (prog : Program) (w : World) (A : Around) (env : Env) (je : Expr) (P : Value → Heap → Prop) (v iv : Value) (h₂ : Heap) : Prop
  | mk (i : Nat) (t : Tok) (Rw : Addr) (vs : List Value) (n : Nat) (kn : Know) (M : Mx) (b : Nat) (ev : v = .ref Rw) (ei : iv = .int (i : Int) t) (g : h₂.get? Rw = some (LO vs n)) (rs : Reps prog w kn vs (M.map .ints)) (hk : Sub kn h₂) (tb : Mat M b) (h6 : i < 6)
      (q : WP prog w A (eval je env) h₂ (MatR kn M i P))
/-- rows[i][j] -/
theorem e_mat {oe ie je : Expr} {p1 p2 : Pos}
    (q : WP prog w A (eval oe env) h fun v h₁ => WP prog w A (eval ie env) h₁ (MatQ prog w A env je P v)) :
    WP prog w A (eval (.Subscript (.Subscript oe ie p1) je p2) env) h P := by
  refine e_sub (e_sub (q.mono fun v h₁ q1 => q1.mono fun iv h₂ q2 => ?_))
  obtain ⟨i, t, Rw, vs, n, kn, M, b, rfl, rfl, g, rs, hk, tb, h6, q3⟩ := q2
  obtain ⟨rw', hr, -, -⟩ := tb.at h6 (j := 0) (by omega)
  obtain ⟨x, hx, rx⟩ := rs.get (i := i) (d := .ints rw') (by rw [List.getElem?_map, hr]; rfl)
  refine g_list g (by omega) (by rw [Int.toNat_natCast]; exact hx) (by omega) (q3.mono fun jv h₃ q4 => ?_)
  obtain ⟨j, t', rfl, j6, hk', q5⟩ := q4
  obtain ⟨rw2, hr2, hj, -⟩ := tb.at h6 j6
  rw [hr] at hr2; cases hr2
  refine r_list (d := .int (ent M i j)) hk' rx (by omega) (by rw [Int.toNat_natCast, List.getElem?_map, hj]; rfl) (by omega) fun y ry => ?_
  obtain ⟨t3, rfl⟩ := ry.intv
  exact q5 t3
end

/-! the loops' invariants -/
inductive DI1 (prog : Program) (w : World) (L D : Addr) (oL : Obj) (T : Mx) (i : Nat) (m : Loc) (fr : Know) (own : List (Addr × Res)) : Prop
  | mk (vs : List Value) (e : own = (L, .obj oL) :: (D, .lst vs) :: [(L + 4, .cell none), (L + 3, .cell none), (L + 2, .cell none), (L + 1, .cell none)]) (r : Reps prog w fr vs ((T.take i).map .ints))
inductive DI2 (prog : Program) (w : World) (L D : Addr) (T : Mx) (c : Nat) (m : Loc) (fr' : Know) (own : List (Addr × Res)) : Prop
  | mk (M : Mx) (g ah : Int) (tg ta : Tok) (vs : List Value) (vr vc : Option Value) (st : detState T c = some (M, g, ah)) (m1 : m "sign" = some (.int g tg)) (e : own = [(D, .lst vs), (L + 4, .cell vr), (L + 3, .cell vc), (L + 2, .cell (some (.int ah ta))), (L + 1, .cell (some (.ref D)))])
      (r : Reps prog w fr' vs (M.map .ints)) (t : Mat M (bb c)) (b : ah.natAbs < 2 ^ bb c) (z : ah ≠ 0) (u : g.natAbs ≤ 1)
inductive DI3 (prog : Program) (w : World) (L D I D2 : Addr) (o oL2 : Obj) (vs : List Value) (vr : Option Value) (c : Nat) (t9 : Tok) (ah : Int) (ta : Tok) (M : Mx) (i : Nat) (m : Loc) (fr' : Know) (own : List (Addr × Res)) : Prop
  | mk (us : List Value) (e : own = [(L, .obj oL2), (D2, .lst us), (I, .obj o), (D, .lst vs), (L + 4, .cell vr), (L + 3, .cell (some (.int (c : Int) t9))), (L + 2, .cell (some (.int ah ta))), (L + 1, .cell (some (.ref D)))]) (r : Reps prog w Know.nil us ((found M c i).map .int)) (l : us.length ≤ i)
inductive DI4 (prog : Program) (w : World) (κ fr9 : Know) (L D I : Addr) (o : Obj) (vr : Option Value) (c : Nat) (t9 : Tok) (ah : Int) (ta : Tok) (M : Mx) (g : Int) (hq : Heap) : Prop
  | mk (M' : Mx) (g' : Int) (tg' : Tok) (vs' : List Value) (fr' : Know) (m' : Loc) (le : Know.le fr9 fr') (ms : m' "sign" = some (.int g' tg')) (S : Sat prog w κ fr' L m' [(I, .obj o), (D, .lst vs'), (L + 4, .cell vr), (L + 3, .cell (some (.int (c : Int) t9))), (L + 2, .cell (some (.int ah ta))), (L + 1, .cell (some (.ref D)))] hq)
      (r : Reps prog w fr' vs' (M'.map .ints)) (t : Mat M' (bb c)) (z : ent M' c c ≠ 0) (u : g'.natAbs ≤ 1) (st : detStep c (M, g, ah) = some (elim M' c ah (5 - c), g', ent (elim M' c ah (5 - c)) c c))
inductive DI5 (prog : Program) (w : World) (L D I : Addr) (o : Obj) (c : Nat) (t9 : Tok) (ah : Int) (ta : Tok) (M' : Mx) (g' : Int) (tg' : Tok) (j : Nat) (m : Loc) (fr' : Know) (own : List (Addr × Res)) : Prop
  | mk (vs : List Value) (vr : Option Value) (ms : m "sign" = some (.int g' tg')) (e : own = [(I, .obj o), (D, .lst vs), (L + 4, .cell vr), (L + 3, .cell (some (.int (c : Int) t9))), (L + 2, .cell (some (.int ah ta))), (L + 1, .cell (some (.ref D)))]) (r : Reps prog w fr' vs ((elim M' c ah j).map .ints))
inductive DI6 (prog : Program) (w : World) (L D I D3 I2 : Addr) (o oL3 o2 : Obj) (vs2 : List Value) (c : Nat) (t9 : Tok) (ah : Int) (ta : Tok) (M' : Mx) (j : Nat) (t16 : Tok) (i : Nat) (m : Loc) (fr' : Know) (own : List (Addr × Res)) : Prop
  | mk (us : List Value) (e : own = [(L, .obj oL3), (D3, .lst us), (I2, .obj o2), (I, .obj o), (D, .lst vs2), (L + 4, .cell (some (.int ((c + 1 + j : Nat) : Int) t16))), (L + 3, .cell (some (.int (c : Int) t9))), (L + 2, .cell (some (.int ah ta))), (L + 1, .cell (some (.ref D)))]) (r : Reps prog w Know.nil us ((newRow M' (c + 1 + j) c ah i).map .int)) (l : us.length ≤ i)
section
variable {prog : Program} {w : World} {A : Around} {h : Heap} {a : Ad} {d : Nat}
variable {P : Value → Heap → Prop}
theorem det_spec (lv : Lv A d) (hd : d ≤ 90) (B : Base prog w a h.get?) {v : Value} {T : Mx} (tb : Mat T 14) (r : Rep prog w h.get? v (.lst (T.map .ints)))
    (q : ∀ h' t, KeepsH h h' → P (.int (detF T) t) h') : WP prog w A (call (.ref a.det) [v] []) h P := by
  refine call_cells (fun n => [("r", n + 4), ("c", n + 3), ("ahead", n + 2), ("rows", n + 1)]) (B.det h fun _ _ e => e) (B.lim h fun _ _ e => e) (lv.depth (by omega)) (binds := [("table", v)]) (fun _ _ _ _ _ => by with_unfolding_all rfl) (fun n => by rfl)
    (fun n p hp => by simp at hp; rcases hp with rfl | rfl | rfl | rfl <;> rfl) (fun x hx => by simp at hx; subst hx; rfl) (fun L h₁ cd hk S => ?_)
  have lv' := lv.deeper (genv 21 L a.det cd [("r", L + 4), ("c", L + 3), ("ahead", L + 2), ("rows", L + 1)])
  generalize hA : A.deeper (genv 21 L a.det cd [("r", L + 4), ("c", L + 3), ("ahead", L + 2), ("rows", L + 1)]) = A' at lv' ⊢
  dsimp only [mapOf, List.foldl_cons, List.foldl_nil, List.map_cons, List.map_nil] at S
  obtain ⟨at0, vt, nt, rfl, et, rt⟩ := r.list
  refine x_assign (e_lc [] (v_local S (by walk_at "lk") (pi_list (S.base _ _ et) ?_)))
  have S := S.push (.obj (LI at0)) rfl rfl
  refine ⟨_, _, _, _, S, fun D C h₅ oL S => ⟨self_list lv'.hh (I := h₁.objs.size) (by obtain ⟨_, g, e⟩ := S.at (.tail _ (.tail _ (.head _))); cases e; exact g) (S.base _ _ et), ?_⟩⟩
  refine it_list (env := compEnvC _ _ C _) lv'.hh loop_bl BL.mono (.inl rfl) et rt (S.perm (perm3 _ _ _ _)) (DI1 prog w L D oL T) ⟨[], rfl, .nil⟩ ?_ ?_
  · rintro i dd v m fr own o h₆ hdd rv ⟨vs, rfl, hvs⟩ hle S
    rw [List.getElem?_map] at hdd
    obtain ⟨row, hrow, rfl⟩ := Option.map_eq_some_iff.mp hdd
    refine a_name (store S fun h₆ S => WPT.nil ?_)
    show WP _ _ _ _ _ _
    obtain ⟨ar, vr, nr, rfl, er, rr⟩ := rv.list
    have hvl : vr.length = 6 := by rw [rr.length]; simpa using (tb.row row (List.mem_of_getElem? hrow)).1
    refine e_call_t (v_builtin (v := .type "list") B.glo S.base (by simp [biNames]) ⟨rfl, v_local S (by walk_at "lk") (copy_list (S.base _ _ er) (by omega) fun h₇ n' k7 g7 => ?_)⟩)
    have S7 := S.called k7
    have g7' : (fresh h₆ h₇) h₆.objs.size = some (LO vr n') := by unfold fresh; rw [get?_size]; exact g7
    have rnew : Rep prog w (fresh h₆ h₇) (.ref h₆.objs.size) (.ints row) := .lst g7' (Reps.of_ints rr.ints)
    have S6 := S
    refine append_list S7 (.tail (.tail .head)) ?_ fun h₈ S => ⟨_, _, _, Know.le_or _ _, ⟨_, rfl, ?_⟩, S⟩
    · have := hvs.length
      rw [List.length_map] at this
      have := take_len_le T i
      have := tb.len
      omega
    · rw [List.take_add_one, hrow]
      have := (hvs.mono (Know.le_or _ _)).append (.cons (rnew.mono (S6.right h₇)) .nil)
      simpa using this
  · rintro m fr own h₆ ⟨vs, rfl, hvs⟩ hle S
    rw [show (T.map Mine.D.ints).length = T.length from List.length_map _, List.take_length] at hvs
    refine ⟨_, _, _, S, fun h₇ S => ?_⟩
    refine store_cell S (.tail (.tail (.tail (.tail .head)))) fun h₇ S => ?_
    refine x_assign (e_int fun t1 => store S fun h₇ S => ?_)
    refine x_assign (e_int fun t2 => store_cell S (.tail (.tail (.tail .head))) fun h₇ S => ?_)
    refine x_for_range lv'.hh S (DI2 prog w L D T)
      (e_call_t (v_builtin (v := .type "range") B.glo S.base (by simp [biNames]) ⟨rfl, e_int fun t5 => range1 fun t6 t7 t8 => ?_⟩))
    obtain ⟨fr4, le4, e4, S⟩ := S.fnew (o := RO 0 6 t6 t7 t8) rfl
    refine ⟨_, _, _, _, 0, 6, _, _, _, rfl, S.fsub _ _ e4, by omega, by omega, by omega, by omega, S, ⟨T, 1, 1, t1, t2, vs, none, none, rfl, by walk_at "lk", rfl, hvs.mono le4, tb, by decide, by decide, by decide⟩, ?_, ?_⟩
    · rintro c I t9 m fr5 own o h₈ hc6 ⟨M, g, ah, tg, ta, vs, vr, vc, hst, m1, rfl, hvs, hM, hah, ha0, hg⟩ hle5 S
      simp only [Int.zero_add] at hc6 ⊢
      have hc6 : c < 6 := by omega
      refine a_name (store_cell S (.tail (.tail (.tail .head))) fun h₈ S => ?_)
      refine x_lc _ (e_call_t (v_builtin (v := .type "range") B.glo S.base (by simp [biNames]) ⟨rfl, v_cell S (.tail _ (.tail _ (.tail _ (.head _)))) (e_int fun t10 => range2 fun t11 t12 t13 => ?_)⟩))
      refine pi_range (Heap.get?_push_size _ rfl) (by omega) (by omega) ?_
      obtain ⟨fr6, le6, e6, S⟩ := S.fnew (o := RO (c : Int) 6 t11 t12 t13) rfl
      generalize Heap.push h₈ _ = h₉ at S ⊢
      have S := S.push (.obj (RI (c : Int) 6)) rfl rfl
      refine ⟨_, _, _, _, S, fun D2 C2 h₁₀ oL2 S => ⟨self_range lv'.hh (I := h₉.objs.size) (by obtain ⟨_, g, e⟩ := S.at (.tail _ (.tail _ (.head _))); cases e; exact g), ?_⟩⟩
      generalize h₉.objs.size = I3 at S ⊢
      refine it_range (env := compEnvC _ _ C2 _) lv'.hh loop_bl BL.mono (S.perm (perm3 _ _ _ _)) (DI3 prog w L D I D2 o oL2 vs vr c t9 ah ta M) ⟨[], rfl, .nil, Nat.le_refl _⟩ ?_ ?_
      · rintro i t14 m' fr7 own o3 h₁₁ hi6 ⟨us, rfl, hus, hul⟩ hle7 S
        have hci : (c : Int) + (i : Int) = ((c + i : Nat) : Int) := by omega
        rw [hci] at hi6 ⊢
        have hvs7 := hvs.mono (le6.trans hle7)
        refine a_name (store S fun h₁₁ S => WPT.one (t_cmp (e_mat (v_cell S (.tail _ (.tail _ (.tail _ (.tail _ (.tail _ (.tail _ (.tail _ (.tail _ (.head _))))))))) (v_local S (by walk_at "lk") ?_)))))
        obtain ⟨nD, gD⟩ := S.lst (.tail _ (.tail _ (.tail _ (.tail _ (.head _)))))
        refine ⟨_, _, _, _, _, _, _, _, rfl, rfl, gD, hvs7, S.fsub, hM, by omega, v_cell S (.tail _ (.tail _ (.tail _ (.tail _ (.tail _ (.tail _ (.head _))))))) ⟨_, _, rfl, hc6, S.fsub, fun t15 => e_int fun t16 => i_ne (c_bool ?_)⟩⟩
        have hf1 : found M c (i + 1) = found M c i ++ (if ent M (c + i) c ≠ 0 then [((c + i : Nat) : Int)] else []) := by
          unfold found
          rw [List.range_succ, List.filter_append, List.map_append]
          by_cases h0 : ent M (c + i) c = 0 <;> simp [h0]
        by_cases h0 : ent M (c + i) c = 0
        · rw [if_neg (by simpa using h0)]
          refine ⟨_, _, _, Know.le.refl _, ⟨us, rfl, ?_, by omega⟩, S⟩
          rw [hf1, if_neg (by simpa using h0), List.append_nil]; exact hus
        · rw [if_pos (by simpa using h0)]
          refine v_local S (by walk_at "lk") (append_list S (.tail (.tail .head)) (by omega) fun h₁₂ S => ?_)
          refine ⟨_, _, _, Know.le.refl _, ⟨_, rfl, ?_, by simp; omega⟩, S⟩
          rw [hf1, if_pos h0, List.map_append]; exact hus.append (.cons .int .nil)
      · rintro m' fr7 own h₁₁ ⟨us, rfl, hus, hul⟩ hle7 S
        have e6c : ((6 : Int) - (c : Int)).toNat = 6 - c := by omega
        rw [e6c] at hus hul
        refine ⟨_, _, _, S, fun h₁₂ S => ?_⟩
        obtain ⟨fr8, le8, rfo, S⟩ := frz_own (pre := []) (ds := (found M c (6 - c)).map .int) S rfl (Reps.of_ints hus.ints)
        obtain ⟨aF, vF, nF, eqF, eF, rsF⟩ := rfo.list
        cases eqF
        refine x_if (t_cmp (v_local S (by walk_at "lk") (e_list ⟨by simp, eq_ints (us := []) (ms := []) lv' (by omega) (Heap.get?_push_of_some _ (S.fsub _ _ eF)) (Heap.get?_push_size _ rfl) rsF.ints .nil (c_bool ?_)⟩)))
        obtain ⟨fr9, le9, -, S⟩ := S.fnew (o := LO [] 0) rfl
        cases hfnd : found M c (6 - c) with
        | nil =>
          rw [if_pos (by simp)]
          have h0 : detF T = 0 := by
            have h1 : detState T (c + 1) = none := by show (detState T c).bind (detStep c) = none; rw [hst]; show detStep c (M, g, ah) = none; unfold detStep; simp only [hfnd]
            have h2 := detState_none h1 (5 - c)
            rw [show c + 1 + (5 - c) = 6 by omega] at h2
            unfold detF; rw [h2]
          rw [h0] at q
          exact x_ret (e_int fun t15 => q _ _ fun _ _ e => S.base _ _ e)
        | cons f fl =>
          rw [if_neg (by simp)]
          obtain ⟨i, hi6, hfi, hne⟩ := found_head hfnd
          have hvs9 := hvs.mono (((le6.trans hle7).trans le8).trans le9)
          have rf9 := rfo.mono le9
          rw [hfnd] at rf9
          refine x_nil (x_if_join (DI4 prog w h.get? fr9 L D I o vr c t9 ah ta M g) ?_ ?_)
          · refine t_cmp (e_sub (v_local S (by walk_at "lk") (e_int fun t15 => r_list (d := .int f) S.fsub rf9 (by omega) (by rfl) (by omega) fun z rz => ?_)))
            obtain ⟨tf, rfl⟩ := rz.intv
            refine v_cell S (.tail _ (.tail _ (.tail _ (.head _)))) (i_ne (c_bool ?_))
            by_cases hfc : f = (c : Int)
            · rw [if_neg (by simpa using hfc)]
              have hi0 : i = 0 := by omega
              subst hi0
              refine x_nil ⟨rfl, M, g, tg, vs, _, _, Know.le.refl _, by walk_at "lk", S, hvs9, hM, hne, hg, ?_⟩
              unfold detStep
              simp only [hfnd, hfc, if_true]
            · rw [if_pos (by simpa using hfc)]
              obtain ⟨hMf, -, -⟩ := hM.getD (i := c + i) (by omega)
              obtain ⟨hMc, -, -⟩ := hM.getD (i := c) hc6
              obtain ⟨nD, gD⟩ := S.lst (.tail _ (.head _))
              obtain ⟨vf, hvf, rvf⟩ := hvs9.get (i := c + i) (d := .ints (M.getD (c + i) [])) (by rw [List.getElem?_map, hMf]; rfl)
              obtain ⟨vc', hvc', rvc'⟩ := hvs9.get (i := c) (d := .ints (M.getD c [])) (by rw [List.getElem?_map, hMc]; rfl)
              refine x_assign_tuple (e_tuple_frz (e_sub (v_cell S (.tail _ (.tail _ (.tail _ (.tail _ (.tail _ (.head _)))))) (e_sub (v_local S (by walk_at "lk") (e_int fun t15 => r_list (d := .int f) S.fsub rf9 (by omega) (by rfl) (by omega) fun z rz => ?_))))))
              obtain ⟨tf2, rfl⟩ := rz.intv
              refine g_list gD (by omega) (by rw [hfi, Int.toNat_natCast]; exact hvf) (by omega) ?_
              refine e_sub (v_cell S (.tail _ (.tail _ (.tail _ (.tail _ (.tail _ (.head _)))))) (v_cell S (.tail _ (.tail _ (.tail _ (.head _)))) (g_list gD (by omega) (by rw [Int.toNat_natCast]; exact hvc') (by omega) ?_)))
              refine ⟨by simp, _, _, _, _, _, _, S, .cons rvf (.cons rvc' .nil), fun fr10 W h₁₃ le10 r10 S => ?_⟩
              obtain ⟨aW, vW, nW, eqW, eW, rsW⟩ := r10.tuple
              cases eqW
              cases rsW with | cons rv1 rsW => cases rsW with | cons rv2 rsW =>
              cases rsW
              refine a_tuple lv'.hh S (S.fsub _ _ eW) rfl fun h₁₃ S => ?_
              have hvl : vs.length = 6 := by rw [hvs9.length, List.length_map]; exact hM.len
              refine a_sub (v_cell S (.tail _ (.tail _ (.tail _ (.tail _ (.tail _ (.head _)))))) (v_cell S (.tail _ (.tail _ (.tail _ (.head _)))) (set_list S (.tail .head) (by omega) (by omega) (by omega) fun h₁₄ S => ?_)))
              refine a_sub (v_cell S (.tail _ (.tail _ (.tail _ (.tail _ (.tail _ (.head _)))))) (e_sub (v_local S (by walk_at "lk") (e_int fun t16 => r_list (d := .int f) S.fsub (rf9.mono le10) (by omega) (by rfl) (by omega) fun z rz => ?_))))
              obtain ⟨tf3, rfl⟩ := rz.intv
              refine set_list S (.tail .head) (by omega) (by rw [List.length_set]; omega) (by omega) fun h₁₅ S => ?_
              refine x_assign (e_un (v_local S (by walk_at "lk") (i_neg fun t17 => store S fun h₁₆ S => x_nil ?_)))
              have hi0 : i ≠ 0 := by rintro rfl; exact hfc hfi
              refine ⟨rfl, swapR M c (c + i), -g, t17, _, _, _, le10, by walk_at "lk", S, ?_, swapR_mat hM hc6 (by omega), ?_, by omega, ?_⟩
              · unfold swapR
                rw [List.map_set, List.map_set, hfi, Int.toNat_natCast, Int.toNat_natCast]
                exact ((hvs9.mono le10).set c rv1).set (c + i) rv2
              · rw [ent_swapR hM hc6 (by omega) (by omega)]; exact hne
              · unfold detStep
                simp only [hfnd, hfc, if_false]
                rw [hfi, Int.toNat_natCast]
          · rintro h₁₃ ⟨M', g', tg', vs', fr10, m10, le10, ms, S, hvs', hM', hcc, hg', hstep⟩
            refine x_for_range lv'.hh S (DI5 prog w L D I o c t9 ah ta M' g' tg')
              (e_call_t (v_builtin (v := .type "range") B.glo S.base (by simp [biNames]) ⟨rfl, e_bin (v_cell S (.tail _ (.tail _ (.tail _ (.head _)))) (e_int fun t10 => i_add fun t11 => e_int fun t12 => range2 fun t13 t14 t15 => ?_))⟩))
            obtain ⟨fr11, le11, e11, S⟩ := S.fnew (o := RO ((c : Int) + 1) 6 t13 t14 t15) rfl
            refine ⟨_, _, _, _, _, 6, _, _, _, rfl, S.fsub _ _ e11, by omega, by omega, by omega, by omega, S, ⟨vs', vr, ms, rfl, hvs'.mono le11⟩, ?_, ?_⟩
            · rintro j I2 t16 m fr12 own o2 h₁₄ hj6 ⟨vs2, vr2, ms, rfl, hvs2⟩ hle12 S
              have hij : (c : Int) + 1 + (j : Int) = ((c + 1 + j : Nat) : Int) := by omega
              rw [hij] at hj6 ⊢
              have hj6 : c + 1 + j < 6 := by omega
              refine a_name (store_cell S (.tail (.tail (.tail .head))) fun h₁₄ S => ?_)
              have hE : Mat (elim M' c ah j) (2 * bb c + 1) := elim_mat hM' ah j (by omega)
              have hEr : ∀ k, ent (elim M' c ah j) (c + 1 + j) k = ent M' (c + 1 + j) k := fun k => elim_ent _ _ _ _ _ _ (.inr (Nat.le_refl _))
              have hEc : ∀ k, ent (elim M' c ah j) c k = ent M' c k := fun k => elim_ent _ _ _ _ _ _ (.inl (Nat.le_refl _))
              have hbb := bb_le c (by omega)
              refine x_assign_sub (e_lc _ (e_call_t (v_builtin (v := .type "range") B.glo S.base (by simp [biNames]) ⟨rfl, e_int fun t17 => range1 fun t18 t19 t20 => ?_⟩)))
              refine pi_range (Heap.get?_push_size _ rfl) (by omega) (by omega) ?_
              obtain ⟨fr13, le13, e13, S⟩ := S.fnew (o := RO 0 6 t18 t19 t20) rfl
              generalize Heap.push h₁₄ _ = h₁₅ at S ⊢
              have S := S.push (.obj (RI 0 6)) rfl rfl
              refine ⟨_, _, _, _, S, fun D3 C3 h₁₆ oL3 S => ⟨self_range lv'.hh (I := h₁₅.objs.size) (by obtain ⟨_, g, e⟩ := S.at (.tail _ (.tail _ (.head _))); cases e; exact g), ?_⟩⟩
              generalize h₁₅.objs.size = I4 at S ⊢
              refine it_range (env := compEnvC _ _ C3 _) lv'.hh loop_bl BL.mono (S.perm (perm3 _ _ _ _)) (DI6 prog w L D I D3 I2 o oL3 o2 vs2 c t9 ah ta M' j t16) ⟨[], rfl, .nil, Nat.le_refl _⟩ ?_ ?_
              · rintro k t21 m' fr14 own o3 h₁₇ hk6 ⟨us, rfl, hus, hul⟩ hle14 S
                simp only [Int.zero_add] at hk6 ⊢
                have hk6 : k < 6 := by omega
                have hvs14 := hvs2.mono (le13.trans hle14)
                have cRows : ((L + 1, Res.cell (some (.ref D))) : Addr × Res) ∈ [(I4, Res.obj o3), (L, .obj oL3), (D3, .lst us), (I2, .obj o2), (I, .obj o), (D, .lst vs2), (L + 4, .cell (some (.int ((c + 1 + j : Nat) : Int) t16))), (L + 3, .cell (some (.int (c : Int) t9))), (L + 2, .cell (some (.int ah ta))), (L + 1, .cell (some (.ref D)))] := .tail _ (.tail _ (.tail _ (.tail _ (.tail _ (.tail _ (.tail _ (.tail _ (.tail _ (.head _)))))))))
                have cAh : ((L + 2, Res.cell (some (.int ah ta))) : Addr × Res) ∈ [(I4, Res.obj o3), (L, .obj oL3), (D3, .lst us), (I2, .obj o2), (I, .obj o), (D, .lst vs2), (L + 4, .cell (some (.int ((c + 1 + j : Nat) : Int) t16))), (L + 3, .cell (some (.int (c : Int) t9))), (L + 2, .cell (some (.int ah ta))), (L + 1, .cell (some (.ref D)))] := .tail _ (.tail _ (.tail _ (.tail _ (.tail _ (.tail _ (.tail _ (.tail _ (.head _))))))))
                have cC : ((L + 3, Res.cell (some (.int (c : Int) t9))) : Addr × Res) ∈ [(I4, Res.obj o3), (L, .obj oL3), (D3, .lst us), (I2, .obj o2), (I, .obj o), (D, .lst vs2), (L + 4, .cell (some (.int ((c + 1 + j : Nat) : Int) t16))), (L + 3, .cell (some (.int (c : Int) t9))), (L + 2, .cell (some (.int ah ta))), (L + 1, .cell (some (.ref D)))] := .tail _ (.tail _ (.tail _ (.tail _ (.tail _ (.tail _ (.tail _ (.head _)))))))
                have cR : ((L + 4, Res.cell (some (.int ((c + 1 + j : Nat) : Int) t16))) : Addr × Res) ∈ [(I4, Res.obj o3), (L, .obj oL3), (D3, .lst us), (I2, .obj o2), (I, .obj o), (D, .lst vs2), (L + 4, .cell (some (.int ((c + 1 + j : Nat) : Int) t16))), (L + 3, .cell (some (.int (c : Int) t9))), (L + 2, .cell (some (.int ah ta))), (L + 1, .cell (some (.ref D)))] := .tail _ (.tail _ (.tail _ (.tail _ (.tail _ (.tail _ (.head _))))))
                refine a_name (store S fun h₁₇ S => WPT.nil ?_)
                show WP _ _ _ _ _ _
                obtain ⟨nD, gD⟩ := S.lst (.tail _ (.tail _ (.tail _ (.tail _ (.tail _ (.head _))))))
                obtain ⟨-, -, -, b1⟩ := hM'.at (i := c + 1 + j) hj6 hk6
                obtain ⟨-, -, -, b2⟩ := hM'.at (i := c) hc6 hc6
                obtain ⟨-, -, -, b3⟩ := hM'.at (i := c + 1 + j) hj6 hc6
                obtain ⟨-, -, -, b4⟩ := hM'.at (i := c) hc6 hk6
                refine e_bin (e_bin (e_bin (e_mat (v_cell S cRows (v_cell S cR ⟨_, _, _, _, _, _, _, _, rfl, rfl, gD, hvs14, S.fsub, hE, hj6, v_local S (by walk_at "lk") ⟨_, _, rfl, hk6, S.fsub, fun t22 => ?_⟩⟩)))))
                refine e_mat (v_cell S cRows (v_cell S cC ⟨_, _, _, _, _, _, _, _, rfl, rfl, gD, hvs14, S.fsub, hE, hc6, v_cell S cC ⟨_, _, rfl, hc6, S.fsub, fun t23 => ?_⟩⟩))
                rw [hEr, hEc]
                refine i_mul (.of_bits (bits_of b1 (by omega)) (bits_of b2 (by omega))) fun t24 => ?_
                refine e_bin (e_mat (v_cell S cRows (v_cell S cR ⟨_, _, _, _, _, _, _, _, rfl, rfl, gD, hvs14, S.fsub, hE, hj6, v_cell S cC ⟨_, _, rfl, hc6, S.fsub, fun t25 => ?_⟩⟩)))
                refine e_mat (v_cell S cRows (v_cell S cC ⟨_, _, _, _, _, _, _, _, rfl, rfl, gD, hvs14, S.fsub, hE, hc6, v_local S (by walk_at "lk") ⟨_, _, rfl, hk6, S.fsub, fun t26 => ?_⟩⟩))
                rw [hEr, hEc]
                refine i_mul (.of_bits (bits_of b3 (by omega)) (bits_of b4 (by omega))) fun t27 => i_sub fun t28 => v_cell S cAh (i_div ha0 (PyProof.noPylong_of_log2 (log_of hah (by omega))) fun t29 => ?_)
                refine append_list S (.tail (.tail .head)) (by omega) fun h₁₈ S => ?_
                refine ⟨_, _, _, Know.le.refl _, ⟨_, rfl, ?_, by simp; omega⟩, S⟩
                have : newRow M' (c + 1 + j) c ah (k + 1) = newRow M' (c + 1 + j) c ah k ++ [(ent M' (c + 1 + j) k * ent M' c c - ent M' (c + 1 + j) c * ent M' c k).fdiv ah] := by
                  unfold newRow; rw [List.range_succ, List.map_append]; rfl
                rw [this, List.map_append]
                exact hus.append (.cons .int .nil)
              · rintro m' fr14 own h₁₇ ⟨us, rfl, hus, hul⟩ hle14 S
                refine ⟨_, _, _, S, fun h₁₈ S => ?_⟩
                have hus : Reps prog w Know.nil us ((newRow M' (c + 1 + j) c ah 6).map .int) := hus
                obtain ⟨fr15, le15, r15, S⟩ := frz_own (pre := []) (ds := (newRow M' (c + 1 + j) c ah 6).map .int) S rfl (Reps.of_ints hus.ints)
                have hvs15 := hvs2.mono ((le13.trans hle14).trans le15)
                have hvl : vs2.length = 6 := by rw [hvs2.length, List.length_map]; exact hE.len
                refine v_cell S (.tail _ (.tail _ (.tail _ (.tail _ (.tail _ (.tail _ (.head _))))))) (v_cell S (.tail _ (.tail _ (.tail _ (.head _)))) (set_list S (.tail (.tail .head)) (by omega) (by omega) (by omega) fun h₁₉ S => x_nil ?_))
                refine ⟨_, _, _, (le13.trans hle14).trans le15, ⟨_, _, ms, rfl, ?_⟩, S⟩
                show Reps prog w fr15 _ ((List.set (elim M' c ah j) (c + 1 + j) (newRow (elim M' c ah j) (c + 1 + j) c ah 6)).map .ints)
                rw [elim_newRow, List.map_set, Int.toNat_natCast]
                exact hvs15.set _ r15
            · rintro m fr12 own h₁₄ ⟨vs2, vr2, ms, rfl, hvs2⟩ hle12 S
              have e5c : ((6 : Int) - ((c : Int) + 1)).toNat = 5 - c := by omega
              rw [e5c] at hvs2
              have hE : Mat (elim M' c ah (5 - c)) (bb (c + 1)) := elim_mat hM' ah (5 - c) (by omega)
              obtain ⟨nD, gD⟩ := S.lst (.tail _ (.head _))
              refine x_assign (e_mat (v_cell S (.tail _ (.tail _ (.tail _ (.tail _ (.tail _ (.head _)))))) (v_cell S (.tail _ (.tail _ (.tail _ (.head _)))) ⟨_, _, _, _, _, _, _, _, rfl, rfl, gD, hvs2, S.fsub, hE, hc6, v_cell S (.tail _ (.tail _ (.tail _ (.head _)))) ⟨_, _, rfl, hc6, S.fsub, fun t22 => ?_⟩⟩)))
              refine store_cell S (.tail (.tail (.tail (.tail .head)))) fun h₁₅ S => x_nil ?_
              obtain ⟨-, -, -, b1⟩ := hE.at (i := c) hc6 hc6
              have hcc' : ent (elim M' c ah (5 - c)) c c ≠ 0 := by rw [elim_ent _ _ _ _ _ _ (.inl (Nat.le_refl _))]; exact hcc
              refine ⟨_, _, _, (((((le6.trans hle7).trans le8).trans le9).trans le10).trans le11).trans hle12, ⟨elim M' c ah (5 - c), g', _, tg', t22, vs2, _, _, ?_, ms, rfl, hvs2, hE, b1, hcc', hg'⟩, S⟩
              show (detState T c).bind (detStep c) = _
              rw [hst]; exact hstep
    · rintro m fr5 own h₈ ⟨M, g, ah, tg, ta, vs, vr, vc, hst, m1, rfl, hvs, hM, hah, ha0, hg⟩ hle5 S
      have hst : detState T 6 = some (M, g, ah) := hst
      have : detF T = g * ah := by unfold detF; rw [hst]
      rw [this] at q
      have hg1 : Builtin.Int.intBits g ≤ 64 := bits_small (by omega)
      exact x_ret (e_bin (v_local S (by walk_at "lk") (v_cell S (.tail _ (.tail _ (.tail _ (.head _)))) (i_mul (.of_left hg1) fun t => q _ _ fun _ _ e => S.base _ _ e))))
end
end Mine
end

section
set_option maxRecDepth 100000
set_option Elab.async false
set_option linter.unusedVariables false
set_option linter.unusedSimpArgs false
set_option autoImplicit false
namespace Mine
open PySem PySem.Calls PySem.W PyProof.Rows

/-! ## texts -/
noncomputable abbrev Tx (l : List Nat) : Str := ⟨l.toArray⟩
theorem Tx.len (l : List Nat) : (Tx l).length = l.length := by simp [Str.length]
theorem Tx.app (a b : List Nat) : Tx a ++ Tx b = Tx (a ++ b) := by
  show Str.append _ _ = _
  unfold Str.append; simp
theorem Tx.eq (s : Str) : s = Tx s.cps.toList := by cases s; rfl
theorem Tx.inj {a b : List Nat} : (Tx a = Tx b) ↔ a = b := by
  constructor
  · intro h; have := congrArg (fun s => s.cps.toList) h; simpa using this
  · rintro rfl; rfl

/-- the places of a sign -/
noncomputable def places (c : Nat) (l : List Nat) (lo : Nat) : List Nat := (List.range' lo (l.length - lo)).filter fun i => l[i]? == some c
theorem sub1 (l : List Nat) (c i : Nat) : Builtin.Str.subAt (Tx l) (Tx [c]) i = (l[i]? == some c) := by
  unfold Builtin.Str.subAt
  rw [Bool.eq_iff_iff, beq_iff_eq, beq_iff_eq]
  simp only [Tx.len, List.length_cons, List.length_nil]
  rw [← Array.toList_inj]
  simp only [Array.toList_extract, List.extract_eq_take_drop]
  have e : i + (0 + 1) - i = 1 := by omega
  rw [e]
  cases h : l[i]? with
  | none =>
    have : l.length ≤ i := List.getElem?_eq_none_iff.mp h
    simp [List.drop_eq_nil_of_le this]
  | some x =>
    have hlt : i < l.length := by
      rcases Nat.lt_or_ge i l.length with h' | h'
      · exact h'
      · rw [List.getElem?_eq_none h'] at h; cases h
    rw [List.drop_eq_getElem_cons hlt]
    have : l[i] = x := by rw [List.getElem?_eq_getElem hlt] at h; exact Option.some.inj h
    simp [this]
theorem forIn_yield {ls : List Nat} {a : Nat} {st st' : Array Nat × Nat} {f : Nat → Array Nat × Nat → Id (ForInStep (Array Nat × Nat))} (h : f a st = pure (ForInStep.yield st')) : (forIn (a :: ls) st f : Id (Array Nat × Nat)) = forIn ls st' f := by
  rw [List.forIn_cons, h]; rfl
theorem occ_all (l : List Nat) (c limit : Nat) : ∀ (ls : List Nat) (found : Array Nat) (free : Nat), (∀ i ∈ ls, free ≤ i) → ls.Pairwise (· < ·) →
    (forIn ls (found, free) (StrLaws.occBody (Tx l) (Tx [c]) l.length limit)).run.fst.toList = found.toList ++ (ls.filter fun i => l[i]? == some c).take (limit - found.size)
  | [], found, free, _, _ => by simp
  | a :: ls, found, free, hf, hp => by
    have ha : free ≤ a := hf a (.head _)
    have hp' := List.pairwise_cons.mp hp
    have hlen : (Tx [c]).length = 1 := rfl
    by_cases hc : l[a]? = some c
    · have hlt : a < l.length := by
        rcases Nat.lt_or_ge a l.length with h' | h'
        · exact h'
        · rw [List.getElem?_eq_none h'] at hc; cases hc
      by_cases hs : found.size < limit
      · have hb : StrLaws.occBody (Tx l) (Tx [c]) l.length limit a (found, free) = pure (ForInStep.yield (found.push a, a + 1)) := by
          unfold StrLaws.occBody
          rw [if_pos ⟨⟨⟨hs, ha⟩, by rw [hlen]; omega⟩, by rw [sub1]; simp [hc]⟩, hlen]
        rw [forIn_yield hb, occ_all l c limit ls (found.push a) (a + 1) (fun i hi => hp'.1 i hi) hp'.2]
        rw [List.filter_cons, if_pos (by simp [hc])]
        obtain ⟨k, hk⟩ : ∃ k, limit - found.size = k + 1 := ⟨limit - found.size - 1, by omega⟩
        rw [hk, List.take_succ_cons]
        simp only [Array.toList_push, Array.size_push, List.append_assoc, List.cons_append, List.nil_append]
        rw [show limit - (found.size + 1) = k by omega]
      · have hb : StrLaws.occBody (Tx l) (Tx [c]) l.length limit a (found, free) = pure (ForInStep.yield (found, free)) := by
          unfold StrLaws.occBody
          rw [if_neg (by intro h; exact hs h.1.1.1)]
        rw [forIn_yield hb, occ_all l c limit ls found free (fun i hi => hf i (.tail _ hi)) hp'.2, show limit - found.size = 0 by omega]; simp
    · have hb : StrLaws.occBody (Tx l) (Tx [c]) l.length limit a (found, free) = pure (ForInStep.yield (found, free)) := by
        unfold StrLaws.occBody
        rw [if_neg (by intro h; have := h.2; rw [sub1] at this; simp at this; exact hc this)]
      rw [forIn_yield hb, occ_all l c limit ls found free (fun i hi => hf i (.tail _ hi)) hp'.2, List.filter_cons, if_neg (by simpa using hc)]
theorem occ1 (l : List Nat) (c lo limit : Nat) : Builtin.Str.occurrences (Tx l) (Tx [c]) lo l.length limit = (places c l lo).take limit := by
  rw [StrLaws.occ_eq, occ_all]
  · simp only [List.nil_append, Array.size_empty, Nat.sub_zero]
    unfold places
    by_cases h : lo ≤ l.length
    · rw [show l.length + 1 - lo = (l.length - lo) + 1 by omega, List.range'_concat, List.filter_append]
      have : ([lo + 1 * (l.length - lo)].filter fun i => l[i]? == some c) = [] := by
        rw [show lo + 1 * (l.length - lo) = l.length by omega]; simp
      rw [this, List.append_nil]
    · rw [show l.length + 1 - lo = 0 by omega, show l.length - lo = 0 by omega]
  · intro i hi; have := List.mem_range'_1.mp hi; omega
  · exact List.pairwise_lt_range'
theorem rg (a n : Nat) : List.range' a n = (List.range' 0 n).map (· + a) := by
  have e : (fun x => x + a) = (fun x => a + x) := funext fun x => Nat.add_comm x a
  rw [e, List.map_add_range']; rfl
theorem places_cons (c x : Nat) (l : List Nat) : places c (x :: l) 0 = (if x = c then [0] else []) ++ (places c l 0).map (· + 1) := by
  unfold places
  simp only [Nat.sub_zero, List.length_cons]
  rw [List.range'_succ, List.filter_cons]
  have e : (List.range' (0 + 1) l.length).filter (fun i => (x :: l)[i]? == some c) = ((List.range' 0 l.length).filter fun i => l[i]? == some c).map (· + 1) := by
    rw [rg (0 + 1), List.filter_map]
    congr 1
  rw [e]
  by_cases h : x = c <;> simp [h]
theorem places_app (c : Nat) : ∀ (a b : List Nat), places c (a ++ b) 0 = places c a 0 ++ (places c b 0).map (· + a.length)
  | [], b => by simp [places]
  | x :: a, b => by
    rw [List.cons_append, places_cons, places_cons, places_app c a b, List.map_append, List.map_map, List.append_assoc]
    simp only [List.length_cons]
    congr 2
theorem places_free {c : Nat} : ∀ {l : List Nat}, c ∉ l → places c l 0 = []
  | [], _ => rfl
  | x :: l, h => by
    rw [places_cons, places_free (l := l) (fun hm => h (.tail _ hm)), if_neg (fun e => h (by rw [e]; exact .head _))]; rfl
theorem places_from {c : Nat} {a b : List Nat} : places c (a ++ b) a.length = (places c b 0).map (· + a.length) := by
  unfold places
  rw [List.length_append, show a.length + b.length - a.length = b.length by omega]
  simp only [Nat.sub_zero]
  rw [rg a.length, List.filter_map]
  congr 1
  apply List.filter_congr
  intro i _
  show ((a ++ b)[i + a.length]? == some c) = _
  rw [List.getElem?_append_right (by omega), Nat.add_sub_cancel]

section
variable {prog : Program} {w : World} {A : Around} {env : Env} {h : Heap}
variable {P : Value → Heap → Prop} {PB : Bool → Heap → Prop} {κ fr : Know} {L : Addr} {m : Loc} {own own' : List (Addr × Res)}
theorem s_add {a b : List Nat} {t u : Tok} (hsz : a.length + b.length ≤ 10000) (q : ∀ t', P (.str (Tx (a ++ b)) t') h) : WP prog w A (binaryOp .Add (.str (Tx a) t) (.str (Tx b) u)) h P :=
  .of fun Q E gs dr tk os c => PyProof.Rows.add_str (fun t' tk' => by rw [Tx.app]; exact c _ _ _ (q t')) (by rw [Tx.len, Tx.len, sizeLine_eq]; omega)
theorem s_ne {a b : List Nat} {t u : Tok} (q : P (.bool (decide (a ≠ b))) h) : WP prog w A (compareOp .NotEq (.str (Tx a) t) (.str (Tx b) u)) h P :=
  .of fun Q E gs dr tk os c => PyProof.Rows.ne_str (c _ _ _ (by
    have : (Tx a != Tx b) = decide (a ≠ b) := by
      rw [Bool.eq_iff_iff, bne_iff_ne, decide_eq_true_eq]
      exact not_congr Tx.inj
    rw [this]; exact q))
theorem s_mul3 {c : Nat} {t u : Tok} (q : ∀ t', P (.str (Tx [c, c, c]) t') h) : WP prog w A (binaryOp .Mult (.int 3 t) (.str (Tx [c]) u)) h P :=
  .of fun Q E gs dr tk os k => lm_binaryOp_repeat_right (T := "str") (U := "int") (by decide) (fun s' => typeIs_int s' 3 t) (typeIs_str _ (Tx [c]) u) F.fills_int_mul noFill_str_mul F.slot_int_mul lm_noRepeat_int repeat_str F.slot_int_index.lookup
    (call_gives F.slot_int_mul (typeIs_int _ 3 t) F.entry_int_mul (F.args_int_mul_2 _ _) (AutoIntG3.int___mul___int_str_0 3 t (Tx [c]) u)
      ⟨rfl, typeIs_str _ _ _, call_gives F.slot_str_mul (typeIs_str _ (Tx [c]) u) F.entry_str_mul (F.args_str_mul_2 _ _) (gives_str_mul (Tx [c]) 3 u t (by decide) (fun _ _ => by show ¬ ((1 : Int) > _); decide) (fun _ _ => by
        show Builtin.Str.tooLong (1 * 3) = false
        unfold Builtin.Str.tooLong
        rw [sizeLine_eq]; decide)) (by
        rw [if_neg (by decide), if_neg (by show ¬ ((((3 : Int) == 1 || (1 == 0)) : Bool) = true); decide)]
        exact ⟨by show 3 ≤ _; rw [sizeLine_eq]; omega, k _ _ _ (q _)⟩)⟩)
noncomputable def digs (p : Int) : List Nat := (Str.ofString (toString p)).cps.toList
theorem digs_ofString (p : Int) : Str.ofString (toString p) = Tx (digs p) := Tx.eq _
theorem s_str {p : Int} {t : Tok} (hp : p.natAbs ≤ 10000) (q : ∀ t', P (.str (Tx (digs p)) t') h) : WP prog w A (call (.type "str") [.int p t] []) h P :=
  .of fun Q E gs dr tk os c => PySem.P.str_of_int (by
    by_cases h0 : p.natAbs = 0
    · rw [h0]; decide
    · have := (Nat.log2_lt (n := p.natAbs) (k := 14) h0).mpr (by omega); omega) (by rw [digs_ofString]; exact c _ _ _ (q _))
/-- an item of a text -/
theorem g_str {l : List Nat} {t u : Tok} {i : Int} {c : Nat} (h0 : 0 ≤ i) (hf : i < 2 ^ 62) (hc : l[i.toNat]? = some c) (q : ∀ t', P (.str (Tx [c]) t') h) :
    GetQ prog w A (.str (Tx l) t) (.int i u) h P := by
  have hl : i.toNat < l.length := by
    rcases Nat.lt_or_ge i.toNat l.length with x | x
    · exact x
    · rw [List.getElem?_eq_none x] at hc; cases hc
  refine ⟨"str", _, TyH.str, PySem.F.slot_str_getitem.lookup, .of fun Q E gs dr tk os k => PyProof.Rows.getItem_str (c := c) ?_ ?_ (k _ _ _ (q _))⟩
  · rw [decide_eq_false (by omega), decide_eq_false (by omega)]; rfl
  · have : seqIndex? i (Tx l).length = some i.toNat := by
      unfold seqIndex?
      rw [Tx.len]
      have h1 : ¬ i < 0 := by omega
      have h2 : i < (l.length : Int) := by omega
      simp [h1, h0, h2]
    rw [this]
    show (Tx l).cps[i.toNat]? = some c
    simpa using hc
/-- a slice of a text -/
theorem picked_plain (l : List Nat) (a b : Option Nat) : ((Builtin.Str.strSliceIndices (a.map Int.ofNat) (b.map Int.ofNat) 1 l.length).filterMap ((Tx l).cps[·]?)) = (l.take (b.getD l.length)).drop (a.getD 0) ∧
    (Builtin.Str.strSliceIndices (a.map Int.ofNat) (b.map Int.ofNat) 1 l.length).length = min (b.getD l.length) l.length - min (a.getD 0) l.length := by
  have e : Builtin.Str.strSliceIndices (a.map Int.ofNat) (b.map Int.ofNat) 1 l.length = (List.range (min (b.getD l.length) l.length - min (a.getD 0) l.length)).map (fun k => min (a.getD 0) l.length + k) := by
    have hcl : ∀ x : Nat, max 0 (min (if (Int.ofNat x) < 0 then (Int.ofNat x) + (l.length : Int) else Int.ofNat x) (l.length : Int)) = ((min x l.length : Nat) : Int) := by
      intro x
      rw [if_neg (by show ¬ (x : Int) < 0; omega)]
      show max 0 (min (x : Int) _) = _
      omega
    have hfull : Builtin.Str.strSliceIndices (a.map Int.ofNat) (b.map Int.ofNat) 1 l.length = sliceRange ((min (a.getD 0) l.length : Nat) : Int) ((min (b.getD l.length) l.length : Nat) : Int) 1 := by
      unfold Builtin.Str.strSliceIndices
      simp only [show ((1 : Int) > 0) = True from by simp, if_true]
      cases a <;> cases b <;> simp only [Option.map_none, Option.map_some, Option.getD_none, Option.getD_some, hcl, Nat.zero_min, Nat.min_self] <;> rfl
    rw [hfull]
    unfold sliceRange
    simp only [show ((1 : Int) > 0) = True from by simp, if_true]
    generalize min (a.getD 0) l.length = x
    generalize min (b.getD l.length) l.length = y
    by_cases hlt : (x : Int) < y
    · have e3 : (((y : Int) - x + 1 - 1) / 1).toNat = y - x := by rw [Int.ediv_one]; omega
      simp only [hlt, if_true, e3]
      refine List.map_congr_left fun k _ => ?_
      omega
    · have : y - x = 0 := by omega
      simp [hlt, this]
  refine ⟨?_, by rw [e]; simp⟩
  rw [e]
  have hp := StrLaws.picks l (min (b.getD l.length) l.length - min (a.getD 0) l.length) (min (a.getD 0) l.length) (by omega)
  have hp2 : ((List.range (min (b.getD l.length) l.length - min (a.getD 0) l.length)).map (fun k => min (a.getD 0) l.length + k)).filterMap ((Tx l).cps[·]?) = (l.drop (min (a.getD 0) l.length)).take (min (b.getD l.length) l.length - min (a.getD 0) l.length) := by simpa using hp
  rw [hp2]
  apply List.ext_getElem?
  intro i
  simp only [List.getElem?_take, List.getElem?_drop]
  by_cases h1 : a.getD 0 ≤ l.length
  · rw [Nat.min_eq_left h1]
    by_cases h2 : a.getD 0 + i < b.getD l.length
    · rw [if_pos h2]
      by_cases h3 : i < min (b.getD l.length) l.length - a.getD 0
      · rw [if_pos h3]
      · rw [if_neg h3, List.getElem?_eq_none (by omega)]
    · rw [if_neg h2, if_neg (by omega)]
  · rw [if_neg (by omega)]
    rw [List.getElem?_eq_none (by omega)]
    simp
theorem slice_s {l : List Nat} {t : Tok} {sl : Addr} (lo hi : Option (Nat × Tok)) (hsz : l.length ≤ 10000) (es : h.get? sl = some (SlO (partV lo) (partV hi) .none))
    (q : ∀ t', P (.str (Tx ((l.take ((hi.map (·.1)).getD l.length)).drop ((lo.map (·.1)).getD 0))) t') h) :
    GetQ prog w A (.str (Tx l) t) (.ref sl) h P := by
  have hpv : ∀ o : Option (Nat × Tok), partValue (o.map fun p => ((p.1 : Int), p.2)) = partV o := by intro o; cases o <;> rfl
  have hmm : ∀ o : Option (Nat × Tok), (o.map fun p => ((p.1 : Int), p.2)).map (·.1) = (o.map (·.1)).map Int.ofNat := by intro o; cases o <;> rfl
  refine slice_str (l := lo.map fun p => ((p.1 : Int), p.2)) (u := hi.map fun p => ((p.1 : Int), p.2)) (st := none) (by rw [hpv, hpv]; exact es) rfl fun Q s hs k => ?_
  obtain ⟨e1, e2⟩ := picked_plain l (lo.map (·.1)) (hi.map (·.1))
  unfold sliceMade slicePicked
  simp only [Option.map_none, Option.getD_none, hmm, Tx.len]
  split
  · rename_i hc
    have hlen : (Builtin.Str.strSliceIndices ((lo.map (·.1)).map Int.ofNat) ((hi.map (·.1)).map Int.ofNat) 1 l.length).length = l.length := by simpa using hc
    rw [e2] at hlen
    have : (l.take ((hi.map (·.1)).getD l.length)).drop ((lo.map (·.1)).getD 0) = l := by
      by_cases h0 : l.length = 0
      · have : l = [] := List.eq_nil_of_length_eq_zero h0
        subst this; simp
      · have ha : (lo.map (·.1)).getD 0 = 0 := by omega
        have hb : l.length ≤ (hi.map (·.1)).getD l.length := by omega
        rw [ha, List.take_of_length_le hb]; rfl
    rw [this] at q
    exact k _ s.toks (q t)
  · rw [e1]
    refine ⟨?_, k _ _ (q _)⟩
    show (Tx _).length ≤ _
    rw [Tx.len, sizeLine_eq]
    simp; omega
end
end Mine
end

section
set_option maxRecDepth 100000
set_option Elab.async false
set_option linter.unusedVariables false
set_option linter.unusedSimpArgs false
set_option autoImplicit false
namespace Mine
open PySem PySem.Calls PySem.W PyProof.Rows
local macro_rules | `(tactic| walk_at "lk") => `(tactic| first | assumption | exact upd_self | (refine' upd_ne (by decide) ?lkE; case lkE => walk_at "lk"))

section
variable {prog : Program} {w : World} {A : Around} {env : Env} {h : Heap}
variable {P : Value → Heap → Prop} {PB : Bool → Heap → Prop} {κ fr : Know} {L : Addr} {m : Loc} {own own' : List (Addr × Res)}
theorem s_find {l : List Nat} {c i : Nat} {r : List Nat} {t u : Tok} (e : places c l 0 = i :: r) (q : ∀ t', P (.int (i : Int) t') h) : WP prog w A (call (.builtin "str.find") [.str (Tx l) t, .str (Tx [c]) u] []) h P :=
  .of fun Q E gs dr tk os k => SC.find (by
    have : Txt.find (Tx l) (Tx [c]) = (i : Int) := by
      unfold Txt.find
      rw [Tx.len, occ1, e]; rfl
    rw [this]; exact k _ _ _ (q _))
theorem s_find3 {l : List Nat} {c i j : Nat} {r : List Nat} {t u v : Tok} (e : places c l j = i :: r) (q : ∀ t', P (.int (i : Int) t') h) : WP prog w A (call (.builtin "str.find") [.str (Tx l) t, .str (Tx [c]) u, .int (j : Int) v] []) h P :=
  .of fun Q E gs dr tk os k => SC.find3 (by
    have : Txt.find3 (Tx l) (Tx [c]) (j : Int) = (i : Int) := by
      unfold Txt.find3
      have : fromIndex (Tx l).length (j : Int) = j := by
        unfold fromIndex
        rw [if_neg (by omega)]; omega
      rw [this, Tx.len, occ1, e]; rfl
    rw [this]; exact k _ _ _ (q _))
theorem split_four {ds : List Nat} {m : Nat} (hm : m < 256) (hd : m ∉ ds) : Txt.split (Tx (m :: m :: m :: (ds ++ [m]))) (Tx [m]) = [Tx [], Tx [], Tx [], Tx ds, Tx []] := by
  have hp : places m (m :: m :: m :: (ds ++ [m])) 0 = [0, 1, 2, ds.length + 3] := by
    rw [places_cons, places_cons, places_cons, places_app, places_free hd, places_cons]
    simp [places]
  have hlen : (Tx (m :: m :: m :: (ds ++ [m]))).length = ds.length + 4 := by rw [Tx.len]; simp
  have hk : Builtin.Str.strKind (Tx [m]) = 1 := by
    unfold Builtin.Str.strKind
    rw [if_pos]
    simp [hm]
  have hk2 : ∀ x : Str, 1 ≤ Builtin.Str.strKind x := by
    intro x; unfold Builtin.Str.strKind; split
    · omega
    · split <;> omega
  have hocc : Builtin.Str.occurrences (Tx (m :: m :: m :: (ds ++ [m]))) (Tx [m]) 0 (Tx (m :: m :: m :: (ds ++ [m]))).length ((Tx (m :: m :: m :: (ds ++ [m]))).length + 1) = [0, 1, 2, ds.length + 3] := by
    have := occ1 (m :: m :: m :: (ds ++ [m])) m 0 ((Tx (m :: m :: m :: (ds ++ [m]))).length + 1)
    rw [← Tx.len] at this
    rw [this, hp, hlen, List.take_of_length_le (by simp)]
  unfold Txt.split
  rw [if_neg, hocc, if_neg (by simp)]
  · unfold Builtin.Str.partsBetween Builtin.Str.strSub
    rw [hlen]
    have e1 : (Tx [m]).length = 1 := rfl
    rw [e1]
    simp only [List.map_cons, List.map_nil, List.cons_append, List.nil_append, List.zip_cons_cons, List.zip_nil_right, List.zip_nil_left]
    simp only [List.extract_toArray, List.extract_eq_take_drop]
    simp
  · rw [hlen, hk]
    have := hk2 (Tx (m :: m :: m :: (ds ++ [m])))
    have e1 : (Tx [m]).length = 1 := rfl
    rw [e1]
    simp
    omega
theorem Reps.strValues {k : Know} : ∀ xs : List (Str × Tok), Reps prog w k (PySem.strValues xs) ((xs.map (·.1)).map .str)
  | [] => .nil
  | (x, t) :: r => .cons .str (Reps.strValues r)
theorem s_split {l : List Nat} {c i : Nat} {r : List Nat} {t u : Tok} (hsz : l.length ≤ 10000) (hc : c < 256) (hp : places c l 0 = i :: r)
    (q : ∀ vs, Reps prog w Know.nil vs ((Txt.split (Tx l) (Tx [c])).map .str) → P (.ref h.objs.size) (h.push (LO vs 0))) : WP prog w A (call (.builtin "str.split") [.str (Tx l) t, .str (Tx [c]) u] []) h P := fun gs dr tk os => by
  have hk : Builtin.Str.strKind (Tx [c]) = 1 := by
    unfold Builtin.Str.strKind
    rw [if_pos]
    simp [hc]
  have hk2 : ∀ x : Str, 1 ≤ Builtin.Str.strKind x := by
    intro x; unfold Builtin.Str.strKind; split
    · omega
    · split <;> omega
  have hpos : 1 ≤ l.length := by
    cases l with
    | nil => simp [places] at hp
    | cons => simp
  have h1 : (decide ((Tx l).length < (Tx [c]).length) || decide (Builtin.Str.strKind (Tx l) < Builtin.Str.strKind (Tx [c]))) = false := by
    have := hk2 (Tx l)
    have e1 : (Tx [c]).length = 1 := rfl
    rw [hk, e1, Tx.len, Bool.or_eq_false_iff]
    exact ⟨decide_eq_false (by omega), decide_eq_false (by omega)⟩
  have hocc := occ1 l c 0 (l.length + 1)
  have hpl : (places c l 0).length ≤ l.length := by
    unfold places
    exact Nat.le_trans (List.length_filter_le _ _) (by simp)
  rw [List.take_of_length_le (by omega)] at hocc
  have hf : (Builtin.Str.occurrences (Tx l) (Tx [c]) 0 (Tx l).length ((Tx l).length + 1)).isEmpty = false := by rw [Tx.len, hocc, hp]; rfl
  have hsz2 : (Builtin.Str.partsBetween (Tx l) (Builtin.Str.occurrences (Tx l) (Tx [c]) 0 (Tx l).length ((Tx l).length + 1)) (Tx [c]).length).length ≤ sizeLine := by
    rw [len_partsBetween, Tx.len, hocc, sizeLine_eq]; omega
  refine call_meets F.slot_str_split (typeIs_str _ _ _) F.entry_str_split (F.args_str_split_2 _ _) (meets_str_split_sep (Tx l) (Tx [c]) t u h1 rfl hf (by rw [Tx.len, sizeLine_eq]; omega) hsz2) ?_
  have e : (numbered tk (Builtin.Str.partsBetween (Tx l) (Builtin.Str.occurrences (Tx l) (Tx [c]) 0 (Tx l).length ((Tx l).length + 1)) (Tx [c]).length)).map (·.1) = Txt.split (Tx l) (Tx [c]) :=
    (numbered_texts _ _).trans ((if_neg (by rw [h1]; decide)).trans (if_neg (by rw [hf]; decide))).symm
  rw [strsFrom_eq]
  refine ⟨_, _, rfl, q _ ?_⟩
  rw [← e]
  exact Reps.strValues _
theorem len_il {a : Addr} {vs : List Value} (ea : h.IsList a vs.toArray) (hsz : vs.length ≤ 10000) (q : ∀ t, P (.int vs.length t) h) : WP prog w A (call (.builtin "len") [.ref a] []) h P :=
  .of fun Q E gs dr tk os c => call_len_list ea (by simp; omega) (by have := c _ _ (tk + 1 + 1) (q (tk + 1)); simpa using this)
theorem g_il {a : Addr} {vs : List Value} {i : Int} {t : Tok} {x : Value} (e : h.IsList a vs.toArray) (h0 : 0 ≤ i) (hx : vs[i.toNat]? = some x) (hf : i < 2 ^ 63) (q : P x h) :
    GetQ prog w A (.ref a) (.int i t) h P := by
  have e' := e
  obtain ⟨o, eo, hc, n, hd⟩ := e'
  exact ⟨"list", _, TyH.ref eo hc, slot_list_getitem.lookup, .of fun Q E gs dr tk os c => wpAny_getItem_list e h0 hf (by simpa using hx) (c _ _ _ q)⟩
theorem s_int {l : List Nat} {t : Tok} {n : Int} (hn : PySem.intText? (Tx l) = some n) (hl : l.length ≤ 640) (q : ∀ t', P (.int n t') h) : WP prog w A (call (.type "int") [.str (Tx l) t] []) h P :=
  .of fun Q E gs dr tk os c => KIN.call_text hn (by rw [Tx.len]; exact hl) (c _ _ _ (q _))
/-- what a written price is read as -/
theorem reads_digs {p : Int} (hp : p.natAbs ≤ 10000) : PySem.intText? (Tx (digs p)) = some p ∧ (digs p).length ≤ 6 ∧ ∀ k, k ≠ 45 ∧ (k < 48 ∨ 57 < k) → k ∉ digs p := by
  refine ⟨?_, ?_, fun k hk => int_text_free' k hk p⟩
  · rw [← digs_ofString]
    by_cases h0 : 0 ≤ p
    · exact KIN.num_reads h0 (by omega)
    · obtain ⟨m, hm⟩ : ∃ m : Nat, p = -(m : Int) := ⟨p.natAbs, by omega⟩
      have hm0 : 1 ≤ m := by omega
      have hx : (Str.ofString (toString p)).cps.toList = 45 :: (Nat.toDigits 10 m).map Char.toNat := by
        rw [signs_ofString, Int.toString_eq_repr, Int.repr_eq_if, if_neg (by omega), String.toList_append, Nat.toList_repr, hm]
        have : (- -(m : Int)).toNat = m := by omega
        rw [this]; rfl
      have hd : NumText.AllDigits ((Nat.toDigits 10 m).map Char.toNat) := by
        intro c hc
        obtain ⟨ch, hch, e⟩ := List.mem_map.mp hc
        rw [← e]
        exact digit_range (Nat.isDigit_of_mem_toDigits (by decide) (by decide) hch)
      have hlen : (Str.ofString (toString p)).length ≤ 4300 := by
        show (Str.ofString (toString p)).cps.size ≤ _
        rw [← Array.length_toList, signs_ofString, List.length_map]
        have := int_text_length_le10 (a := p) (k := 5) (by decide) (by omega)
        exact Nat.le_trans this (by decide)
      have := intText_neg hx hd (by
        intro e
        have h := toDigits_len_ge 10 m
        rw [List.map_eq_nil_iff.mp e] at h
        exact absurd h (by decide)) hlen
      rw [this, KIN.val_back, hm]
  · have := int_text_length_le10 (a := p) (k := 5) (by decide) (by omega)
    unfold digs
    rw [signs_ofString, List.length_map]
    exact this
end
end Mine
end

section
set_option maxRecDepth 100000
set_option Elab.async false
set_option linter.unusedVariables false
set_option linter.unusedSimpArgs false
set_option autoImplicit false
namespace Mine
open PySem PySem.Calls PySem.W PyProof.Rows
local macro_rules | `(tactic| walk_at "lk") => `(tactic| first | assumption | exact upd_self | (refine' upd_ne (by decide) ?lkE; case lkE => walk_at "lk"))

section
variable {prog : Program} {w : World} {A : Around} {env : Env} {h : Heap}
variable {P : Value → Heap → Prop}
theorem e_tx {x : Str} {k : Nat} {pos : Pos} (l : List Nat) (q : ∀ t, P (.str (Tx l) t) h) (hx : x = Tx l := by decide +kernel) : WP prog w A (eval (.Constant (.str x) k pos) env) h P := by
  subst hx; exact e_str q
/-- a method of a text -/
theorem m_str {id : String} {name : Str} {o : Expr} {args : List Expr} {apos pos : Pos} (slot : Slot "str" name id) (hty : typeOf (.builtin id) = pure (.type "method_descriptor"))
    (q : WP prog w A (eval o env) h fun ov h₁ => ∃ x t, ov = .str x t ∧ WPs prog w A env args [] h₁ fun vs h₂ => WP prog w A (call (.builtin id) (.str x t :: vs) []) h₂ P)
    (hbase : attributeBase o name env (eval o env) = eval o env := by rfl) (hp : plainArgs args = true := by rfl) (hlen : decide (args.length + 0 + 0 < 30) = true := by rfl)
    (hline : (apos.endLine == pos.line) = true := by rfl) : WP prog w A (eval (.Call (.Attribute o name apos) args [] pos) env) h P :=
  e_meth F.plainAttrs_str slot hty (q.mono fun ov h₁ ⟨x, t, e, z⟩ => by subst e; exact ⟨TyH.str, (fun _ z => by cases z), z⟩) hbase hp hlen hline
end

/-- the answer of the server, as parse229 takes it -/
noncomputable def resp (m : Nat) (ds rest : List Nat) : List Nat := 50 :: 50 :: 57 :: 32 :: 40 :: m :: m :: m :: (ds ++ m :: 41 :: rest)
section
variable {prog : Program} {w : World} {A : Around} {h : Heap} {a : Ad} {d : Nat}
variable {P : Value → Heap → Prop}
theorem parse_spec (lv : Lv A d) (hd : d ≤ 90) (B : Base prog w a h.get?) {m : Nat} {ds rest : List Nat} {t : Tok} {v : Value} {low p : Int} (hm : m < 256 ∧ m ≠ 40 ∧ m ≠ 41) (hds : 40 ∉ ds ∧ 41 ∉ ds ∧ m ∉ ds) (hp : PySem.intText? (Tx ds) = some p) (hl : ds.length ≤ 100) (hr : rest.length ≤ 1000)
    (r : Rep prog w h.get? v (dPair (low, 21)))
    (q : ∀ h' v, KeepsH h h' → Rep prog w (fresh h h') v (dPair (low, p)) → P v h') : WP prog w A (call (.ref a.parse) [.str (Tx (resp m ds rest)) t, v] []) h P := by
  refine call_def (B.parse h fun _ _ e => e) (B.lim h fun _ _ e => e) (lv.depth (by omega)) (binds := [("resp", .str (Tx (resp m ds rest)) t), ("peer", v)]) (fun _ _ _ _ _ s _ => binds_of (by with_unfolding_all rfl) s) (by rfl) (fun L h₁ cd hk S => ?_) (by decide +kernel)
  have lv' := lv.deeper (fenv 11 L a.parse cd)
  generalize hA : A.deeper (fenv 11 L a.parse cd) = A' at lv' ⊢
  dsimp only [mapOf, List.foldl_cons, List.foldl_nil] at S
  obtain ⟨hm1, hm40, hm41⟩ := hm
  obtain ⟨hd40, hd41, hdm⟩ := hds
  have hlen : (resp m ds rest).length = ds.length + rest.length + 10 := by unfold resp; simp; omega
  have h40 : ∃ r, places 40 (resp m ds rest) 0 = 4 :: r := by
    unfold resp
    rw [places_cons, places_cons, places_cons, places_cons, places_cons]
    exact ⟨_, rfl⟩
  obtain ⟨r40, h40⟩ := h40
  have h41 : ∃ r, places 41 (resp m ds rest) 5 = (ds.length + 9) :: r := by
    have := places_from (c := 41) (a := [50, 50, 57, 32, 40]) (b := m :: m :: m :: (ds ++ m :: 41 :: rest))
    have e : places 41 (resp m ds rest) 5 = _ := this
    rw [e, places_cons, places_cons, places_cons, places_app, places_free hd41, places_cons, places_cons, if_neg hm41]
    simp; omega
  obtain ⟨r41, h41⟩ := h41
  have i5 : (resp m ds rest)[5]? = some m := rfl
  have i8 : (resp m ds rest)[ds.length + 8]? = some m := by
    show (ds ++ m :: 41 :: rest)[ds.length]? = some m
    rw [List.getElem?_append_right (Nat.le_refl _)]; simp
  have hcut : ((resp m ds rest).take (ds.length + 9)).drop 5 = m :: m :: m :: (ds ++ [m]) := by
    show m :: m :: m :: ((ds ++ m :: 41 :: rest).take (ds.length + 1)) = _
    rw [List.take_append, List.take_of_length_le (by omega)]
    simp
  refine x_if (t_cmp (e_sub (v_local S (by walk_at "lk") (e_slice_frz (p_none (p_some (e_int fun t1 => ⟨_, _, _, _, _, S, fun fr1 sl h₂ le1 esl S => ?_⟩)))))))
  refine slice_s none (some (3, t1)) (by omega) (S.fsub _ _ esl) fun t2 => e_tx [50, 50, 57] fun t3 => s_ne (c_bool ?_)
  rw [if_neg (by simp [resp])]
  refine x_nil (x_assign (m_str F.slot_str_find F.type_str_find (v_local S (by walk_at "lk") ⟨_, _, rfl, e_tx [40] fun t4 => s_find h40 fun t5 => store S fun h₃ S => ?_⟩)))
  refine x_if (t_cmp (v_local S (by walk_at "lk") (e_int fun t6 => i_lt (c_bool ?_))))
  rw [if_neg (by decide)]
  refine x_nil (x_assign (m_str F.slot_str_find F.type_str_find (v_local S (by walk_at "lk") ⟨_, _, rfl, e_tx [41] fun t4 => e_bin (v_local S (by walk_at "lk") (e_int fun t7 => i_add fun t8 => ?_))⟩)))
  refine s_find3 (j := 5) h41 fun t9 => store S fun h₄ S => ?_
  refine x_if (t_cmp (v_local S (by walk_at "lk") (e_int fun t10 => i_lt (c_bool ?_))))
  rw [if_neg (by rw [decide_eq_true_eq]; omega)]
  refine x_nil (x_if (t_cmp (e_sub (v_local S (by walk_at "lk") (e_bin (v_local S (by walk_at "lk") (e_int fun t11 => i_add fun t12 => ?_)))))))
  refine g_str (c := m) (by decide) (by decide) i5 fun t13 => ?_
  refine e_sub (v_local S (by walk_at "lk") (e_bin (v_local S (by walk_at "lk") (e_int fun t14 => i_sub fun t15 => ?_))))
  rw [show ((ds.length + 9 : Nat) : Int) - 1 = ((ds.length + 8 : Nat) : Int) by omega]
  refine g_str (c := m) (by omega) (by omega) (by rw [Int.toNat_natCast]; exact i8) fun t16 => s_ne (c_bool ?_)
  rw [if_neg (by simp)]
  refine x_nil (x_assign (m_str F.slot_str_split F.type_str_split (e_sub (v_local S (by walk_at "lk") (e_slice_frz (p_some (e_bin (v_local S (by walk_at "lk") (e_int fun t17 => i_add fun t18 => p_some (v_local S (by walk_at "lk") ⟨_, _, _, _, _, S, fun fr2 sl2 h₅ le2 esl2 S => ?_⟩))))))))))
  refine slice_s (some (5, t18)) (some (ds.length + 9, t9)) (by omega) (S.fsub _ _ esl2) fun t19 => ?_
  simp only [Option.map_some, Option.getD_some]
  rw [hcut]
  refine ⟨_, _, rfl, e_sub (v_local S (by walk_at "lk") (e_bin (v_local S (by walk_at "lk") (e_int fun t20 => i_add fun t21 => ?_))))⟩
  refine g_str (c := m) (by decide) (by decide) i5 fun t22 => ?_
  obtain ⟨rpm, hpm⟩ : ∃ r, places m (m :: m :: m :: (ds ++ [m])) 0 = 0 :: r := by
    rw [places_cons, if_pos rfl]; exact ⟨_, rfl⟩
  refine s_split (by simp; omega) hm1 hpm fun vs hvs => ?_
  rw [split_four hm1 hdm] at hvs
  obtain ⟨fr3, le3, e3, S⟩ := S.fnew (o := LO vs 0) rfl
  have hvl : vs.length = 5 := by rw [hvs.length]; rfl
  obtain ⟨x3, hx3, rx3⟩ := hvs.get (i := 3) (d := .str (Tx ds)) rfl
  obtain ⟨u3, rfl⟩ := rx3.strv
  refine store S fun h₇ S => ?_
  refine x_if (t_cmp (e_call_b (v_builtin (v := .builtin "len") B.glo S.base (by simp [biNames]) ⟨rfl, v_local S (by walk_at "lk") (len_l (S.fsub _ _ e3) (by omega) fun t23 => e_int fun t24 => i_ne (c_bool ?_))⟩)))
  rw [if_neg (by rw [hvl]; decide)]
  refine x_nil (x_assign (e_sub (v_local S (by walk_at "lk") (e_int fun t25 => r_tuple (d := .int low) S.base r (by decide) rfl (by decide) fun z rz => store S fun h₈ S => ?_))))
  refine x_assign (e_call_t (v_builtin (v := .type "int") B.glo S.base (by simp [biNames]) ⟨rfl, e_sub (v_local S (by walk_at "lk") (e_int fun t26 => g_list (S.fsub _ _ e3) (by decide) hx3 (by decide) ?_))⟩))
  refine s_int hp (by omega) fun t27 => store S fun h₉ S => ?_
  refine x_ret (e_tuple_frz (v_local S (by walk_at "lk") (v_local S (by walk_at "lk") ⟨by simp, _, _, _, _, _, [.int low, .int p], S, ?_, fun fr4 W h₁₀ le4 rW S => ?_⟩)))
  · obtain ⟨tz, rfl⟩ := rz.intv
    exact .cons .int (.cons .int .nil)
  · exact q _ _ (fun _ _ e => S.base _ _ e) (rW.mono (S.le_fresh fun _ _ e => e))
end
end Mine
end

section
set_option maxRecDepth 100000
set_option Elab.async false
set_option linter.unusedVariables false
set_option linter.unusedSimpArgs false
set_option autoImplicit false
namespace Mine
open PySem PySem.Calls PySem.W PyProof.Rows
local macro_rules | `(tactic| walk_at "lk") => `(tactic| first | assumption | exact upd_self | (refine' upd_ne (by decide) ?lkE; case lkE => walk_at "lk"))

noncomputable def markOf (p : Int) : Nat := [124, 33, 34, 36].getD (p.fmod 4).toNat 0
theorem markOf_mem (p : Int) : 0 ≤ p.fmod 4 ∧ p.fmod 4 < 4 ∧ [124, 33, 34, 36][(p.fmod 4).toNat]? = some (markOf p) ∧ (markOf p = 124 ∨ markOf p = 33 ∨ markOf p = 34 ∨ markOf p = 36) := by
  have h : 0 ≤ p.fmod 4 ∧ p.fmod 4 < 4 := by rw [Int.fmod_eq_emod_of_nonneg _ (by decide)]; omega
  unfold markOf
  generalize p.fmod 4 = x at h
  have : x = 0 ∨ x = 1 ∨ x = 2 ∨ x = 3 := by omega
  rcases this with rfl | rfl | rfl | rfl <;> decide
noncomputable def closeP (p : Int) : List Nat := 40 :: markOf p :: markOf p :: markOf p :: (digs p ++ [markOf p, 41, 41])
noncomputable def piecesF (T : Mx) (ps : Pairs) : List (List Nat) := ps.foldl (fun acc p => acc.set p.2.toNat (closeP (entP T p))) (List.replicate 6 [40])
noncomputable abbrev dTx (l : List Nat) : D := .str (Tx l)
theorem piecesF_take {T : Mx} {ps : Pairs} {i : Nat} {p : Int × Int} (h : ps[i]? = some p) : piecesF T (ps.take (i + 1)) = (piecesF T (ps.take i)).set p.2.toNat (closeP (entP T p)) := by
  unfold piecesF; rw [List.take_add_one, h]; simp
theorem piecesF_len (T : Mx) (ps : Pairs) : (piecesF T ps).length = 6 := by
  unfold piecesF
  have : ∀ (acc : List (List Nat)), (ps.foldl (fun acc p => acc.set p.2.toNat (closeP (entP T p))) acc).length = acc.length := by
    induction ps with
    | nil => intro acc; rfl
    | cons p r ih => intro acc; rw [List.foldl_cons, ih, List.length_set]
  rw [this]; rfl

inductive PI1 (prog : Program) (w : World) (W : Addr) (v₂ : Value) (T : List (List Int)) (ps : Pairs) (i : Nat) (m : Loc) (fr : Know) (own : List (Addr × Res)) : Prop
  | mk (m1 : m "table" = some v₂) (m2 : m "pieces" = some (.ref W)) (vs : List Value) (e : own = [(W, .lst vs)]) (r : Reps prog w Know.nil vs ((piecesF T (ps.take i)).map dTx))
section
variable {prog : Program} {w : World} {A : Around} {h : Heap} {a : Ad} {d : Nat}
variable {P : Value → Heap → Prop}
theorem Reps.repl {k : Know} {v : Value} {x : D} (r : Rep prog w k v x) : ∀ n, Reps prog w k (List.replicate n v) (List.replicate n x)
  | 0 => .nil
  | n + 1 => .cons r (Reps.repl r n)
theorem pieces_spec (lv : Lv A d) (hd : d ≤ 90) (B : Base prog w a h.get?) {v₁ v₂ : Value} {T : Mx} (tb : Tab T) {ps : Pairs} (hps : ∀ p ∈ ps, Valid p)
    (r₁ : Rep prog w h.get? v₁ (dPairs ps)) (r₂ : Rep prog w h.get? v₂ (.lst (T.map .ints)))
    (q : ∀ h' v, KeepsH h h' → Rep prog w (fresh h h') v (.lst ((piecesF T ps).map dTx)) → P v h') : WP prog w A (call (.ref a.pieces) [v₁, v₂] []) h P := by
  refine call_def (B.pieces h fun _ _ e => e) (B.lim h fun _ _ e => e) (lv.depth (by omega)) (binds := [("pairs", v₁), ("table", v₂)]) (fun _ _ _ _ _ s _ => binds_of (by with_unfolding_all rfl) s) (by rfl) (fun L h₁ cd hk S => ?_) (by decide +kernel)
  have lv' := lv.deeper (fenv 18 L a.pieces cd)
  generalize hA : A.deeper (fenv 18 L a.pieces cd) = A' at lv' ⊢
  dsimp only [mapOf, List.foldl_cons, List.foldl_nil] at S
  refine x_assign (e_bin (e_list_own (e_tx [40] fun t1 => ⟨by simp, _, _, _, _, _, S, fun W0 h₂ S => e_int fun t2 => ?_⟩)))
  obtain ⟨nW, gW⟩ := S.lst (.head _)
  refine mul_one_list gW (by decide) (by decide) ?_
  have S := own_list (S.drop (List.sublist_cons_self _ _)) (List.replicate (6 : Int).toNat (.str (Tx [40]) t1)) 0
  generalize h₂.objs.size = W at S ⊢
  refine store S fun h₃ S => ?_
  refine x_for_list lv'.hh S (PI1 prog w W v₂ T ps)
    (v_local S (by walk_at "lk") ⟨_, _, _, _, _, r₁, .inl rfl, S, ⟨by walk_at "lk", by walk_at "lk", _, rfl, Reps.repl .str 6⟩, ?_, ?_⟩)
  · rintro i I dd v m fr own o h₄ hdd rv ⟨m1, m2, vs, rfl, hvs⟩ hle S
    rw [List.getElem?_map] at hdd
    obtain ⟨p, hp, rfl⟩ := Option.map_eq_some_iff.mp hdd
    obtain ⟨v0, v1, v2', v3⟩ := hps p (List.mem_of_getElem? hp)
    obtain ⟨at2, n2, t3, t4, rfl, e2⟩ := rv.pair
    refine a_tuple2 lv'.hh S (S.base _ _ e2) fun h₄ S => store S fun h₄ S => store S fun h₄ S => ?_
    refine x_assign (e_tab tb (v_local S (by walk_at "lk") (v_local S (by walk_at "lk") ⟨_, _, rfl, v0, v1, S.base, r₂, v_local S (by walk_at "lk") ⟨_, _, rfl, v2', v3, S.base, fun t5 => store S fun h₄ S => ?_⟩⟩)))
    obtain ⟨-, -, -, hbd⟩ := tb.at (i := p.1.toNat) (j := p.2.toNat) (by omega) (by omega)
    have hset : piecesF T (ps.take (i + 1)) = (piecesF T (ps.take i)).set p.2.toNat (closeP (ent T p.1.toNat p.2.toNat)) := piecesF_take hp
    generalize ent T p.1.toNat p.2.toNat = x at S hbd hset
    obtain ⟨k0, k4, hk, hmm⟩ := markOf_mem x
    obtain ⟨-, hdl, -⟩ := reads_digs hbd
    refine x_assign (e_sub (e_list_frz (e_tx [124] fun t6 => e_tx [33] fun t7 => e_tx [34] fun t8 => e_tx [36] fun t9 => ⟨by simp, _, _, _, _, _, [dTx [124], dTx [33], dTx [34], dTx [36]], S, .cons .str (.cons .str (.cons .str (.cons .str .nil))), fun fr2 W2 h₅ le2 rW S => ?_⟩)))
    refine e_bin (v_local S (by walk_at "lk") (e_int fun t10 => i_mod (by decide) fun t11 => r_list (d := dTx [markOf x]) S.fsub rW k0 ?_ (by omega) fun z rz => store S fun h₆ S => ?_))
    · have e : ([dTx [124], dTx [33], dTx [34], dTx [36]] : List D) = [124, 33, 34, 36].map fun c => dTx [c] := rfl
      rw [e, List.getElem?_map, hk]; rfl
    obtain ⟨tz, rfl⟩ := rz.strv
    refine x_assign_sub (e_bin (e_bin (e_bin (e_bin (e_tx [40] fun t12 => e_bin (e_int fun t13 => v_local S (by walk_at "lk") (s_mul3 fun t14 => s_add (by simp) fun t15 => ?_)))))))
    refine e_call_t (v_builtin (v := .type "str") B.glo S.base (by simp [biNames]) ⟨rfl, v_local S (by walk_at "lk") (s_str hbd fun t16 => s_add (by simp; omega) fun t17 => ?_)⟩)
    refine v_local S (by walk_at "lk") (s_add (by simp; omega) fun t18 => e_tx [41, 41] fun t19 => s_add (by simp; omega) fun t20 => ?_)
    have hvl : vs.length = 6 := by rw [hvs.length, List.length_map, piecesF_len]
    refine v_local S (by walk_at "lk") (v_local S (by walk_at "lk") (set_list S (.tail .head) v2' (by omega) (by omega) fun h₇ S => x_nil ?_))
    refine ⟨_, _, _, le2, ⟨by walk_at "lk", by walk_at "lk", _, rfl, ?_⟩, S⟩
    rw [hset, List.map_set]
    have e : [40] ++ [markOf x, markOf x, markOf x] ++ digs x ++ [markOf x] ++ [41, 41] = closeP x := by unfold closeP; simp
    rw [e]
    exact hvs.set _ .str
  · rintro m fr own h₄ ⟨m1, m2, vs, rfl, hvs⟩ hle S
    rw [show (ps.map dPair).length = ps.length from List.length_map _, List.take_length] at hvs
    obtain ⟨fr3, _, r3, S3⟩ := frz_own (pre := []) (post := []) S rfl (hvs.mono (k' := fr) fun _ _ e => (by cases e))
    exact x_ret (v_local S (by walk_at "lk") (q _ _ (fun _ _ e => S3.base _ _ e) (r3.mono (S3.le_fresh fun _ _ e => e))))
end
end Mine
end

section
set_option maxRecDepth 100000
set_option Elab.async false
set_option linter.unusedVariables false
set_option linter.unusedSimpArgs false
set_option autoImplicit false
namespace Mine
open PySem PySem.Calls PySem.W PyProof.Rows

theorem plainAttrs_pattern : PlainAttrs "re.Pattern" :=
  ⟨⟨"object.__getattribute__", by rw [typeLookup_type, builtinLookup_eq_fast]; kernel_rfl, by decide +kernel⟩, by rw [typeLookup_type, builtinLookup_eq_fast]; kernel_rfl⟩
theorem owner_pattern : Manifest.owners.lookup (String.ofList ['n', 'r', 'e', 't', 't', 'a', 'P', '.', 'e', 'r'].reverse) = some Manifest.sig_re_Pattern := by kernel_rfl
theorem slot_sub : Slot "re.Pattern" "sub" "re.Pattern.sub" :=
  .of (owner := "re.Pattern") (n := "sub") (by rw [typeLookup_type, builtinLookup_eq_fast]; kernel_rfl) (by decide +kernel) (by decide +kernel) (by decide +kernel)
    (by first | exact .inl (by decide +kernel) | exact .inr (by decide +kernel)) (by rw [isSubtype_type]; kernel_rfl)
theorem type_sub : typeOf (.builtin "re.Pattern.sub") = pure (.type "method_descriptor") := by show builtinType _ = _; rw [builtinType_eq_fast]; kernel_rfl
theorem entry_sub : entryFor table "re.Pattern.sub" = some Builtin.«re.Pattern.sub» := entryFor_of_tree (by kernel_rfl)
theorem entry_sub_loop : entryFor table "re.Pattern.sub.loop" = some Builtin.«re.Pattern.sub.loop» := entryFor_of_tree (by kernel_rfl)
theorem args_sub (a b c : Value) : argsOk "re.Pattern.sub" ⟨[a, b, c], []⟩ := by
  unfold argsOk; rw [signature?_of (id := "re.Pattern.sub") (n := ['b', 'u', 's']) (o := ['n', 'r', 'e', 't', 't', 'a', 'P', '.', 'e', 'r']) (by kernel_rfl) owner_pattern]; kernel_rfl
theorem slot_count : Slot "bytes" "count" "bytes.count" :=
  .of (owner := "bytes") (n := "count") (by rw [typeLookup_type, builtinLookup_eq_fast]; kernel_rfl) (by decide +kernel) (by decide +kernel) (by decide +kernel)
    (by first | exact .inl (by decide +kernel) | exact .inr (by decide +kernel)) (by rw [isSubtype_type]; kernel_rfl)
theorem type_count : typeOf (.builtin "bytes.count") = pure (.type "method_descriptor") := by show builtinType _ = _; rw [builtinType_eq_fast]; kernel_rfl
theorem entry_count : entryFor table "bytes.count" = some Builtin.«bytes.count» := entryFor_of_tree (by kernel_rfl)
theorem args_count (a b : Value) : argsOk "bytes.count" ⟨[a, b], []⟩ := by
  unfold argsOk; rw [signature?_of (id := "bytes.count") (n := ['t', 'n', 'u', 'o', 'c']) (o := ['s', 'e', 't', 'y', 'b']) (by kernel_rfl) FB.owner_bytes]; kernel_rfl
theorem slot_join : Slot "bytes" "join" "bytes.join" :=
  .of (owner := "bytes") (n := "join") (by rw [typeLookup_type, builtinLookup_eq_fast]; kernel_rfl) (by decide +kernel) (by decide +kernel) (by decide +kernel)
    (by first | exact .inl (by decide +kernel) | exact .inr (by decide +kernel)) (by rw [isSubtype_type]; kernel_rfl)
theorem entry_join : entryFor table "bytes.join" = some Builtin.«bytes.join» := entryFor_of_tree (by kernel_rfl)
theorem args_join (a b : Value) : argsOk "bytes.join" ⟨[a, b], []⟩ := by
  unfold argsOk; rw [signature?_of (id := "bytes.join") (n := ['n', 'i', 'o', 'j']) (o := ['s', 'e', 't', 'y', 'b']) (by kernel_rfl) FB.owner_bytes]; kernel_rfl
end Mine
end

section
set_option maxRecDepth 100000
set_option Elab.async false
set_option linter.unusedVariables false
set_option linter.unusedSimpArgs false
set_option autoImplicit false
namespace Mine
open PySem PySem.Calls PySem.W PyProof.Rows

/-! ## bytes -/
noncomputable abbrev By (l : List Nat) : Array UInt8 := (l.map Nat.toUInt8).toArray
noncomputable def occStep (b sub : Array UInt8) (acc : List Nat × Nat) (i : Nat) : List Nat × Nat :=
  if i ≥ acc.2 && b.extract i (i + sub.size) == sub then (i :: acc.1, i + sub.size) else acc
theorem occB_eq (b sub : Array UInt8) (start stop : Nat) : Builtin.Bytes.occurrences b sub start stop = (((List.range (stop + 1 - (start + sub.size))).map (· + start)).foldl (occStep b sub) ([], 0)).1.reverse := rfl
theorem extract1 (l : List UInt8) (c : UInt8) (i : Nat) (hi : i < l.length) : (l.toArray.extract i (i + 1) == #[c]) = (l[i] == c) := by
  rw [Bool.eq_iff_iff, beq_iff_eq, beq_iff_eq, ← Array.toList_inj]
  simp only [Array.toList_extract, List.extract_eq_take_drop]
  rw [show i + 1 - i = 1 by omega, List.drop_eq_getElem_cons hi, List.take_succ_cons]
  simp
theorem occ_fold (l : List UInt8) (c : UInt8) : ∀ n, n ≤ l.length → ((List.range n).foldl (occStep l.toArray #[c]) ([], 0)).1.length = ((l.take n).filter (· == c)).length ∧ ((List.range n).foldl (occStep l.toArray #[c]) ([], 0)).2 ≤ n
  | 0, _ => by simp
  | n + 1, h => by
    obtain ⟨h1, h2⟩ := occ_fold l c n (by omega)
    rw [List.range_succ, List.foldl_append, List.foldl_cons, List.foldl_nil]
    generalize (List.range n).foldl (occStep l.toArray #[c]) ([], 0) = st at h1 h2
    rw [List.take_add_one, List.getElem?_eq_getElem (by omega), List.filter_append, List.length_append]
    unfold occStep
    have he := extract1 l c n (by omega)
    have hs : (#[c] : Array UInt8).size = 1 := rfl
    rw [hs, he]
    by_cases hc : l[n] = c
    · rw [if_pos (by simp [hc]; omega)]
      simp [hc, h1]
    · rw [if_neg (by simp [hc])]
      exact ⟨by simp [hc, h1], by omega⟩
theorem occB1 (l : List UInt8) (c : UInt8) : (Builtin.Bytes.occurrences l.toArray #[c] 0 l.length).length = (l.filter (· == c)).length := by
  rw [occB_eq]
  have hs : (#[c] : Array UInt8).size = 1 := rfl
  rw [hs, List.length_reverse]
  have e : (List.range (l.length + 1 - (0 + 1))).map (· + 0) = List.range l.length := by
    rw [show l.length + 1 - (0 + 1) = l.length by omega]; simp
  rw [e]
  have := (occ_fold l c l.length (Nat.le_refl _)).1
  rw [List.take_length] at this
  exact this
theorem filter_by (l : List Nat) (hl : ∀ x ∈ l, x < 128) (c : Nat) (hc : c < 128) : ((l.map Nat.toUInt8).filter (· == c.toUInt8)).length = (l.filter (· == c)).length := by
  induction l with
  | nil => rfl
  | cons x r ih =>
    have hx := hl x (.head _)
    have ih := ih fun y hy => hl y (.tail _ hy)
    rw [List.map_cons, List.filter_cons, List.filter_cons]
    have e : (x.toUInt8 == c.toUInt8) = (x == c) := by
      rw [Bool.eq_iff_iff, beq_iff_eq, beq_iff_eq]
      constructor
      · intro h
        have := congrArg UInt8.toNat h
        simp [Nat.toUInt8] at this
        omega
      · rintro rfl; rfl
    rw [e]
    split <;> simp [ih]
theorem gives_count {l : List UInt8} {c : UInt8} {t u : Tok} (h : 1 ≤ l.length) : Gives (Builtin.«bytes.count» ⟨[.bytes l.toArray t, .bytes #[c] u], []⟩) (.int (l.filter (· == c)).length) := by
  refine .of_wp fun M A E s Q hq => ?_
  show wpAny M A ((Builtin.Bytes.searchArgs .bytes "count" ⟨[.bytes l.toArray t, .bytes #[c] u], []⟩) >>= fun r => _) _ E s
  refine wpAny_bind ?_
  show wpAny M A (Builtin.Bytes.buffer? "bytes.count" (.bytes #[c] u) >>= fun r => _) _ E s
  refine wpAny_bind (wpAny_of_eq KBy.buffer_eq ?_)
  have hw : Builtin.Bytes.window l.toArray.size none none = (0, (l.length : Int)) := by
    unfold Builtin.Bytes.window
    simp
    omega
  show wpAny M A (pure (l.toArray, #[c], if (Builtin.Bytes.window l.toArray.size none none).2 - (Builtin.Bytes.window l.toArray.size none none).1 < ((#[c] : Array UInt8).size : Int) then none else some ((Builtin.Bytes.window l.toArray.size none none).1.toNat, (Builtin.Bytes.window l.toArray.size none none).2.toNat))) _ E s
  refine wpAny_pure ?_
  rw [hw]
  have : ¬ ((l.length : Int) - 0 < ((#[c] : Array UInt8).size : Int)) := by show ¬ ((l.length : Int) - 0 < 1); omega
  rw [if_neg this]
  show wpAny M A (retInt ((Builtin.Bytes.occurrences l.toArray #[c] 0 ((l.length : Int)).toNat).length : Nat)) _ E s
  rw [Int.toNat_natCast, occB1]
  exact wpAny_bind (wpAny_mkInt (wpAny_pure ⟨_, rfl, hq⟩))
theorem two_turns {σ : Type} {f : Nat → σ → Sem (ForInStep σ)} {s0 s1 : σ} (h1 : ∀ x, f x s0 = pure (ForInStep.yield s1)) (h2 : ∀ x, f x s1 = pure (ForInStep.done s1)) (k : Nat) : forIn (List.range' 0 (k + 1)) s0 f = pure s1 := by
  rw [List.range'_succ, List.forIn_cons, h1, pure_bind]
  cases k with
  | zero => rfl
  | succ k => 
    show forIn (List.range' (0 + 1) (k + 1)) s1 f = pure s1
    rw [List.range'_succ, List.forIn_cons, h2, pure_bind]
open Builtin._codecs in
theorem encode_narrow {l : List Nat} (hl : ∀ x ∈ l, x < 128) (hne : 1 ≤ l.length) (hsz : l.length ≤ 10000) (id : String) (self : Value) : encodeNarrow id utf8Codec none self (Tx l) = pure (By l) := by
  have hlen : (Tx l).length = l.length := Tx.len l
  obtain ⟨k, hk⟩ : ∃ k, l.length = k + 1 := ⟨l.length - 1, by omega⟩
  have hbad : ∀ x ∈ l, Str.isSurrogate x = false := fun x hx => by
    have := hl x hx
    unfold Str.isSurrogate
    rw [decide_eq_false (by omega)]; rfl
  have hfind : (Array.findIdx? utf8Codec.bad l.toArray) = none := by
    rw [Array.findIdx?_eq_none_iff]
    intro x hx
    exact hbad x (by simpa using hx)
  have hfold : ∀ (l : List Nat) (acc : Array UInt8), (∀ x ∈ l, x < 128) → l.foldl (fun acc y => acc ++ (Str.utf8Of y).toArray) acc = acc ++ By l := by
    intro l
    induction l with
    | nil => intro acc _; simp
    | cons x r ih =>
      intro acc hx
      rw [List.foldl_cons, ih _ fun y hy => hx y (.tail _ hy)]
      have : Str.utf8Of x = [x.toUInt8] := by unfold Str.utf8Of; rw [if_pos (hx x (.head _))]
      rw [this]
      apply Array.toList_inj.mp
      simp
  unfold encodeNarrow
  rw [hlen]
  simp only [Std.Legacy.Range.forIn_eq_forIn_range']
  have hsize : [:l.length].size = k + 1 := by simp [Std.Legacy.Range.size, hk]
  rw [hsize]
  refine Eq.trans (congrArg (fun t => t >>= _) (two_turns (s1 := (l.length, By l, ({} : Faults))) (fun x => ?_) (fun x => ?_) k)) ?_
  · dsimp only
    rw [if_neg (by show ¬ (0 > sizeLine); rw [sizeLine_eq]; omega)]
    have h0 : l.toArray[0]? = some l[0] := by simp [List.getElem?_eq_getElem (by omega : 0 < l.length)]
    have hx : (!utf8Codec.bad l[0]) = true := by show (!Str.isSurrogate l[0]) = true; rw [hbad _ (List.getElem_mem _)]; rfl
    have hext : l.toArray.extract 0 l.toArray.size = l.toArray := by simp
    simp only [h0, hx, if_true, hext, hfind, Option.getD_none]
    have : Array.foldl (fun acc y => acc ++ (utf8Codec.bytesOf y).toArray) #[] l.toArray = By l := by
      rw [List.foldl_toArray]
      exact (hfold l #[] hl).trans (by simp)
    have this' : Array.foldl (fun acc y => acc ++ (utf8Codec.bytesOf y).toArray) #[] l.toArray 0 l.length = By l := this
    simp only [Nat.zero_add, List.size_toArray, this']
  · dsimp only
    rw [if_neg (by show ¬ ((By l).size > sizeLine); rw [sizeLine_eq]; simp; omega)]
    have h0 : l.toArray[l.length]? = none := by simp
    simp only [h0]
  · rfl
theorem gives_encode {l : List Nat} {t : Tok} (hl : ∀ x ∈ l, x < 128) (hne : 1 ≤ l.length) (hsz : l.length ≤ 10000) : Gives (Builtin.«str.encode» ⟨[.str (Tx l) t], []⟩) (.bytes (By l)) := by
  rw [encode_tree, encodeRoad_utf8, encode_narrow hl hne hsz]
  exact .of_eq rfl
section
variable {prog : Program} {w : World} {A : Around} {env : Env} {h : Heap}
variable {P : Value → Heap → Prop}
theorem s_encode {l : List Nat} {t : Tok} (hl : ∀ x ∈ l, x < 128) (hne : 1 ≤ l.length) (hsz : l.length ≤ 10000) (q : ∀ t', P (.bytes (By l) t') h) : WP prog w A (call (.builtin "str.encode") [.str (Tx l) t] []) h P :=
  .of fun Q E gs dr tk os k => call_gives F.slot_str_encode (typeIs_str _ _ _) F.entry_str_encode (F.args_str_encode_1 _) (gives_encode hl hne hsz) ⟨by rw [sizeLine_eq]; simp; omega, k _ _ _ (q _)⟩
theorem b_count {l : List Nat} {c : Nat} {t u : Tok} (hl : ∀ x ∈ l, x < 128) (hc : c < 128) (hne : 1 ≤ l.length) (q : ∀ t', P (.int ((l.filter (· == c)).length : Nat) t') h) : WP prog w A (call (.builtin "bytes.count") [.bytes (By l) t, .bytes (By [c]) u] []) h P :=
  .of fun Q E gs dr tk os k => call_gives slot_count (typeIs_bytes _ _ _) entry_count (args_count _ _) (gives_count (l := l.map Nat.toUInt8) (c := c.toUInt8) (by simpa using hne)) (by
    rw [filter_by l hl c hc]; exact k _ _ _ (q _))
end
end Mine
end

section
set_option maxRecDepth 100000
set_option Elab.async false
set_option linter.unusedVariables false
set_option linter.unusedSimpArgs false
set_option autoImplicit false
namespace Mine
open PySem
open PySem.Sre (M Seen Kept Wait Outcome ops)

/-! ## the machine of the quoted strings' pattern -/
noncomputable def mk (txt : Array Nat) (st pc pos handed : Nat) (om : Bool) (loops : Array Sre.Loop) (inner : Option Nat) (frames : List Sre.Frame) (weight : Nat) (ans : Option Bool) (seen : Seen) : M :=
  { code := qcode, text := txt, lim := txt.size, start := st, lastStart := txt.size, wholeText := false, mustAdvance := false, pc, pos, handed, outermost := om, marks := #[], lastmark := -1, lastindex := -1, loops, inner, frames, weight, answer := ans, seen, outcome := none }
noncomputable def NS (s : Nat) (first : Bool) : Sre.Frame := { wait := .nextStart, pc := 9, pos := s, outermost := first }
noncomputable def PM (p : Nat) (first : Bool) (count : Int) : Sre.Frame := { wait := .possMore, pc := 11, pos := p, outermost := first, count, kept := { whole := true }, loop := 0 }
noncomputable def NB (pc p : Nat) : Sre.Frame := { wait := .nextBranch, pc, pos := p, outermost := false, kept := { whole := true } }
noncomputable def lps : Array Sre.Loop := #[{ pc := 0, outer := none }]
noncomputable def A0 (txt : Array Nat) (s : Nat) (first : Bool) (seen : Seen) : M := mk txt s 9 s s first #[] none [NS s first] 1 none seen
noncomputable def B0 (txt : Array Nat) (s p : Nat) (first : Bool) (count : Int) (seen : Seen) : M := mk txt s 15 p p false lps (some 0) [PM p first count, NS s first] 2 none seen

section
variable {txt : Array Nat} {s p hd : Nat} {first : Bool} {seen : Seen} {count : Int}
theorem acc_lit (pc c : Nat) (h : ops[qcode.getD pc 0]? = some .LITERAL) (seen : Seen) : Sre.accepts qcode pc c seen = .ok (c == qcode.getD (pc + 1) 0, seen) := by
  unfold Sre.accepts
  rw [h]
theorem acc_in (c : Nat) (seen : Seen) : ∃ seen', Sre.accepts qcode 17 c seen = .ok (!(c == 34 || c == 92), seen') := by
  have e : Sre.accepts qcode 17 c seen = Sre.inSet qcode c 38 19 true seen := rfl
  rw [e]
  have e1 : Sre.inSet qcode c 38 19 true seen = Sre.inSet qcode c 37 20 false (seen.add 21) := rfl
  have e2 : ∀ sn, Sre.inSet qcode c 37 20 false sn = if c == 34 then .ok (false, sn.add 16) else Sre.inSet qcode c 36 22 false (sn.add 16) := fun _ => rfl
  have e3 : ∀ sn, Sre.inSet qcode c 36 22 false sn = if c == 92 then .ok (false, sn.add 16) else Sre.inSet qcode c 35 24 false (sn.add 16) := fun _ => rfl
  have e4 : ∀ sn, Sre.inSet qcode c 35 24 false sn = .ok (true, sn.add 0) := fun _ => rfl
  rw [e1, e2]
  cases h1 : c == 34 with
  | true => exact ⟨_, rfl⟩
  | false =>
    rw [if_neg Bool.false_ne_true, e3]
    cases h2 : c == 92 with
    | true => exact ⟨_, rfl⟩
    | false => rw [if_neg Bool.false_ne_true, e4]; exact ⟨_, rfl⟩
/-- one sign asked for -/
theorem one_no {pc : Nat} {om : Bool} {loops : Array Sre.Loop} {inner : Option Nat} {frames : List Sre.Frame} {wt : Nat} {sn : Seen} (hpc : pc = 9 ∨ pc = 17 ∨ pc = 28 ∨ pc = 35) (hp : p < txt.size) (ha : Sre.accepts qcode pc (txt.getD p 0) (seen.add (qcode.getD pc 0)) = .ok (false, sn)) :
    (mk txt s pc p hd om loops inner frames wt none seen).step = mk txt s pc p hd om loops inner frames wt (some false) sn := by
  rcases hpc with rfl | rfl | rfl | rfl
  all_goals
    show (if p ≥ txt.size then _ else match Sre.accepts qcode _ (txt.getD p 0) _ with | .error why => _ | .ok (false, seen) => _ | .ok (true, seen) => _) = _
    rw [if_neg (by omega)]
    have ha' := ha
    simp only [show qcode.getD 9 0 = 16 from rfl, show qcode.getD 17 0 = 13 from rfl, show qcode.getD 28 0 = 16 from rfl, show qcode.getD 35 0 = 16 from rfl] at ha'
    first
      | (rw [ha']; rfl)
      | (erw [ha']; rfl)
theorem one_yes {pc : Nat} {om : Bool} {loops : Array Sre.Loop} {inner : Option Nat} {frames : List Sre.Frame} {wt : Nat} {sn : Seen} (hpc : pc = 9 ∨ pc = 17 ∨ pc = 28 ∨ pc = 35) (hp : p < txt.size) (ha : Sre.accepts qcode pc (txt.getD p 0) (seen.add (qcode.getD pc 0)) = .ok (true, sn)) :
    (mk txt s pc p hd om loops inner frames wt none seen).step = mk txt s (pc + Sre.itemWidth qcode pc) (p + 1) hd om loops inner frames wt none sn := by
  rcases hpc with rfl | rfl | rfl | rfl
  all_goals
    show (if p ≥ txt.size then _ else match Sre.accepts qcode _ (txt.getD p 0) _ with | .error why => _ | .ok (false, seen) => _ | .ok (true, seen) => _) = _
    rw [if_neg (by omega)]
    have ha' := ha
    first
      | (rw [ha']; rfl)
      | (erw [ha']; rfl)
theorem one_end {pc : Nat} {om : Bool} {loops : Array Sre.Loop} {inner : Option Nat} {frames : List Sre.Frame} {wt : Nat} (hpc : pc = 9 ∨ pc = 17 ∨ pc = 28 ∨ pc = 35) (hp : txt.size ≤ p) :
    (mk txt s pc p hd om loops inner frames wt none seen).step = mk txt s pc p hd om loops inner frames wt (some false) (seen.add (qcode.getD pc 0)) := by
  rcases hpc with rfl | rfl | rfl | rfl
  all_goals
    show (if p ≥ txt.size then _ else _) = _
    rw [if_pos (by omega)]
    rfl
end
end Mine
end

section
set_option maxRecDepth 100000
set_option Elab.async false
set_option linter.unusedVariables false
set_option linter.unusedSimpArgs false
set_option autoImplicit false
namespace Mine
open PySem
open PySem.Sre (M Seen Kept Wait Outcome ops)
section
variable {txt : Array Nat} {s p hd : Nat} {first om : Bool} {seen : Seen} {count : Int}
theorem st_poss : (mk txt s 11 p hd first #[] none [NS s first] 1 none seen).step = B0 txt s p first 0 (seen.add 28) := by rfl
theorem st_branch : (B0 txt s p first count seen).step = mk txt s 17 p p false lps (some 0) [NB 16 p, PM p first count, NS s first] 3 none (seen.add 7) := by rfl
theorem st_jump {loops : Array Sre.Loop} {inner : Option Nat} {frames : List Sre.Frame} {wt : Nat} : (mk txt s 25 p hd om loops inner frames wt none seen).step = mk txt s 34 p hd om loops inner frames wt none (seen.add 15) := by rfl
theorem st_succ {loops : Array Sre.Loop} {inner : Option Nat} {frames : List Sre.Frame} {wt : Nat} : (mk txt s 34 p hd false loops inner frames wt none seen).step = mk txt s 34 p p false loops inner frames wt (some true) (seen.add 1) := by rfl
theorem st_succ2 {loops : Array Sre.Loop} {inner : Option Nat} {frames : List Sre.Frame} {wt : Nat} : (mk txt s 37 p hd om loops inner frames wt none seen).step = mk txt s 37 p p om loops inner frames wt (some true) (seen.add 1) := by cases om <;> rfl
theorem st_nb_yes {pc q k : Nat} : (mk txt s pc p hd om lps (some 0) [NB k q, PM q first count, NS s first] 3 (some true) seen).step = mk txt s k q hd false lps (some 0) [PM q first count, NS s first] 2 (some true) seen := by rfl
theorem st_nb_no {pc q : Nat} : (mk txt s pc p hd om lps (some 0) [NB 16 q, PM q first count, NS s first] 3 (some false) seen).step = mk txt s 28 q q false lps (some 0) [NB 27 q, PM q first count, NS s first] 3 none seen := by rfl
theorem st_nb_no2 {pc q : Nat} : (mk txt s pc p hd om lps (some 0) [NB 27 q, PM q first count, NS s first] 3 (some false) seen).step = mk txt s 27 q hd false lps (some 0) [PM q first count, NS s first] 2 (some false) seen := by rfl
theorem st_pm_yes {pc q : Nat} (hq : q ≠ hd) (hc : 0 ≤ count) : (mk txt s pc p hd om lps (some 0) [PM q first count, NS s first] 2 (some true) seen).step = B0 txt s hd first (count + 1) seen := by
  show (if count + 1 < ((0 : Nat) : Int) then _ else if ((decide (count + 1 < ((4294967295 : Nat) : Int)) || (4294967295 : Nat) == Sre.maxRepeat) && (some q != some hd)) = true then _ else _) = _
  rw [if_neg (by omega), if_pos]
  · rfl
  · simp [Sre.maxRepeat, hq]
theorem st_pm_no {pc q : Nat} (hc : 0 ≤ count) : (mk txt s pc p hd om lps (some 0) [PM q first count, NS s first] 2 (some false) seen).step = mk txt s 35 q q first #[] none [NS s first] 1 none seen := by
  show (if count < ((0 : Nat) : Int) then _ else if ((decide (count < ((4294967295 : Nat) : Int)) || (4294967295 : Nat) == Sre.maxRepeat) && (some q != some q)) = true then _ else _) = _
  rw [if_neg (by omega), if_neg (by simp)]
  rfl
theorem st_ns_yes {pc : Nat} : (mk txt s pc p hd om #[] none [NS s first] 1 (some true) seen).step = mk txt s 9 s hd first #[] none [] 0 (some true) seen := by rfl
theorem st_ns_no {pc : Nat} (hs : s < txt.size) : (mk txt s pc p hd om #[] none [NS s first] 1 (some false) seen).step = A0 txt (s + 1) false seen := by
  show (if s < txt.size then _ else _) = _
  rw [if_pos hs]
  rfl
theorem st_ns_end {pc : Nat} (hs : txt.size ≤ s) : (mk txt s pc p hd om #[] none [NS s first] 1 (some false) seen).step = mk txt s 9 s hd first #[] none [] 0 (some false) seen := by
  show (if s < txt.size then _ else _) = _
  rw [if_neg (by omega)]
  rfl
theorem st_fin {pc wt : Nat} {b : Bool} {loops : Array Sre.Loop} {inner : Option Nat} : (mk txt s pc p hd om loops inner [] wt (some b) seen).step = { mk txt s pc p hd om loops inner [] wt (some b) seen with outcome := some (if b then .matched else .failed) } := by rfl
end

/-! running it -/
theorem runFor_add : ∀ (a b : Nat) (m : M), M.runFor (a + b) m = M.runFor b (M.runFor a m)
  | 0, b, m => by simp [M.runFor]
  | a + 1, b, m => by
    rw [show a + 1 + b = (a + b) + 1 by omega]
    show (if m.outcome.isSome = true then m else M.runFor (a + b) m.step) = M.runFor b (if m.outcome.isSome = true then m else M.runFor a m.step)
    by_cases h : m.outcome.isSome = true
    · rw [if_pos h, if_pos h]
      cases b with
      | zero => rfl
      | succ b => show m = (if m.outcome.isSome = true then m else _); rw [if_pos h]
    · rw [if_neg h, if_neg h]; exact runFor_add a b m.step
theorem runFor_one {n : Nat} {m : M} (h : m.outcome = none) : M.runFor (n + 1) m = M.runFor n m.step := by
  show (if m.outcome.isSome = true then m else M.runFor n m.step) = _
  rw [h]; rfl
noncomputable def Reach (n : Nat) (m m' : M) : Prop := M.runFor n m = m'
theorem Reach.trans {a b : Nat} {m m' m'' : M} (x : Reach a m m') (y : Reach b m' m'') : Reach (a + b) m m'' := by unfold Reach at *; rw [runFor_add, x, y]
theorem Reach.step {m m' : M} (h : m.outcome = none) (e : m.step = m') : Reach 1 m m' := by unfold Reach; rw [runFor_one h, e]; rfl
theorem Reach.cons {n : Nat} {m m' m'' : M} (h : m.outcome = none) (e : m.step = m') (y : Reach n m' m'') : Reach (n + 1) m m'' := by unfold Reach at *; rw [runFor_one h, e, y]
theorem Reach.nil {m : M} : Reach 0 m m := rfl

section
variable {txt : Array Nat} {s p : Nat} {first : Bool} {seen : Seen} {count : Int}
/-- over a sign that opens nothing -/
theorem go_skip (hs : s < txt.size) (hc : txt.getD s 0 ≠ 34) : ∃ sn, Reach 2 (A0 txt s first seen) (A0 txt (s + 1) false sn) := by
  have ha := acc_lit 9 (txt.getD s 0) rfl (seen.add (qcode.getD 9 0))
  rw [show (txt.getD s 0 == qcode.getD (9 + 1) 0) = false by show (txt.getD s 0 == 34) = false; simpa using hc] at ha
  exact ⟨_, .cons rfl (one_no (.inl rfl) hs ha) (.cons rfl (st_ns_no hs) .nil)⟩
/-- nothing more is found -/
theorem go_end (hs : txt.size ≤ s) : ∃ m, Reach 3 (A0 txt s first seen) m ∧ m.outcome = some .failed := 
  ⟨_, .cons rfl (one_end (.inl rfl) hs) (.cons rfl (st_ns_end hs) (.cons rfl st_fin .nil)), rfl⟩
/-- a quote opens -/
theorem go_open (hs : s < txt.size) (hc : txt.getD s 0 = 34) : ∃ sn, Reach 2 (A0 txt s first seen) (B0 txt s (s + 1) first 0 sn) := by
  have ha := acc_lit 9 (txt.getD s 0) rfl (seen.add (qcode.getD 9 0))
  rw [show (txt.getD s 0 == qcode.getD (9 + 1) 0) = true by show (txt.getD s 0 == 34) = true; simpa using hc] at ha
  exact ⟨_, .cons rfl (one_yes (.inl rfl) hs ha) (.cons rfl st_poss .nil)⟩
/-- a sign within the quotes -/
theorem go_in (hp : p < txt.size) (hc : txt.getD p 0 ≠ 34 ∧ txt.getD p 0 ≠ 92) (h0 : 0 ≤ count) : ∃ sn, Reach 6 (B0 txt s p first count seen) (B0 txt s (p + 1) first (count + 1) sn) := by
  obtain ⟨sn, ha⟩ := acc_in (txt.getD p 0) ((seen.add 7).add (qcode.getD 17 0))
  rw [show (!(txt.getD p 0 == 34 || txt.getD p 0 == 92)) = true by rw [Bool.not_eq_true', Bool.or_eq_false_iff]; exact ⟨beq_eq_false_iff_ne.mpr hc.1, beq_eq_false_iff_ne.mpr hc.2⟩] at ha
  exact ⟨_, .cons rfl st_branch (.cons rfl (one_yes (.inr (.inl rfl)) hp ha) (.cons rfl st_jump (.cons rfl st_succ (.cons rfl st_nb_yes (.cons rfl (st_pm_yes (by omega) h0) .nil)))))⟩
/-- the quote that closes -/
theorem go_close (hp : p < txt.size) (hc : txt.getD p 0 = 34) (h0 : 0 ≤ count) : ∃ m, Reach 10 (B0 txt s p first count seen) m ∧ m.outcome = some .matched ∧ m.start = s ∧ m.handed = p + 1 ∧ m.lastmark = -1 ∧ m.marks = #[] ∧ m.lastindex = -1 := by
  obtain ⟨sn, ha⟩ := acc_in (txt.getD p 0) ((seen.add 7).add (qcode.getD 17 0))
  rw [show (!(txt.getD p 0 == 34 || txt.getD p 0 == 92)) = false by simp [hc]] at ha
  have hb := acc_lit 28 (txt.getD p 0) rfl (sn.add (qcode.getD 28 0))
  rw [show (txt.getD p 0 == qcode.getD (28 + 1) 0) = false by show (txt.getD p 0 == 92) = false; rw [hc]; rfl] at hb
  have hd := acc_lit 35 (txt.getD p 0) rfl ((sn.add (qcode.getD 28 0)).add (qcode.getD 35 0))
  rw [show (txt.getD p 0 == qcode.getD (35 + 1) 0) = true by show (txt.getD p 0 == 34) = true; rw [hc]; rfl] at hd
  exact ⟨_, .cons rfl st_branch (.cons rfl (one_no (.inr (.inl rfl)) hp ha) (.cons rfl st_nb_no (.cons rfl (one_no (.inr (.inr (.inl rfl))) hp hb) (.cons rfl st_nb_no2 (.cons rfl (st_pm_no h0)
    (.cons rfl (one_yes (.inr (.inr (.inr rfl))) hp hd) (.cons rfl st_succ2 (.cons rfl st_ns_yes (.cons rfl st_fin .nil))))))))), rfl, rfl, rfl, rfl, rfl, rfl⟩
theorem go_skips : ∀ (n s : Nat) (first : Bool) (seen : Seen), s + n ≤ txt.size → (∀ i, s ≤ i → i < s + n → txt.getD i 0 ≠ 34) → ∃ sn f, Reach (2 * n) (A0 txt s first seen) (A0 txt (s + n) f sn)
  | 0, s, first, seen, _, _ => ⟨seen, first, .nil⟩
  | n + 1, s, first, seen, h, hc => by
    obtain ⟨sn, h1⟩ := go_skip (first := first) (seen := seen) (by omega : s < txt.size) (hc s (Nat.le_refl _) (by omega))
    obtain ⟨sn2, f, h2⟩ := go_skips n (s + 1) false sn (by omega) (fun i h1 h2 => hc i (by omega) (by omega))
    have := h1.trans h2
    rw [show 2 + 2 * n = 2 * (n + 1) by omega, show s + 1 + n = s + (n + 1) by omega] at this
    exact ⟨sn2, f, this⟩
theorem go_ins : ∀ (n p : Nat) (count : Int) (seen : Seen), 0 ≤ count → p + n ≤ txt.size → (∀ i, p ≤ i → i < p + n → txt.getD i 0 ≠ 34 ∧ txt.getD i 0 ≠ 92) → ∃ sn c, 0 ≤ c ∧ Reach (6 * n) (B0 txt s p first count seen) (B0 txt s (p + n) first c sn)
  | 0, p, count, seen, h0, _, _ => ⟨seen, count, h0, .nil⟩
  | n + 1, p, count, seen, h0, h, hc => by
    obtain ⟨sn, h1⟩ := go_in (s := s) (first := first) (seen := seen) (by omega : p < txt.size) (hc p (Nat.le_refl _) (by omega)) h0
    obtain ⟨sn2, c, hc0, h2⟩ := go_ins n (p + 1) (count + 1) sn (by omega) (by omega) (fun i h1 h2 => hc i (by omega) (by omega))
    have := h1.trans h2
    rw [show 6 + 6 * n = 6 * (n + 1) by omega, show p + 1 + n = p + (n + 1) by omega] at this
    exact ⟨sn2, c, hc0, this⟩
noncomputable def Found (s e : Nat) (m : M) : Prop := m.outcome = some .matched ∧ m.start = s ∧ m.handed = e ∧ m.lastmark = -1 ∧ m.marks = #[] ∧ m.lastindex = -1
theorem search_none (hs : s ≤ txt.size) (hc : ∀ i, s ≤ i → i < txt.size → txt.getD i 0 ≠ 34) : ∃ n m, n ≤ 2 * txt.size + 3 ∧ Reach n (A0 txt s first seen) m ∧ m.outcome = some .failed := by
  obtain ⟨sn, f, h1⟩ := go_skips (txt.size - s) s first seen (by omega) (fun i h1 h2 => hc i h1 (by omega))
  obtain ⟨m, h2, h3⟩ := go_end (first := f) (seen := sn) (by omega : txt.size ≤ s + (txt.size - s))
  exact ⟨_, m, by omega, h1.trans h2, h3⟩
theorem search_found {q r : Nat} (hq : s ≤ q) (hr : q < r) (hrz : r < txt.size) (h1 : ∀ i, s ≤ i → i < q → txt.getD i 0 ≠ 34) (h2 : txt.getD q 0 = 34) (h3 : ∀ i, q < i → i < r → txt.getD i 0 ≠ 34 ∧ txt.getD i 0 ≠ 92) (h4 : txt.getD r 0 = 34) :
    ∃ n m, n ≤ 8 * txt.size + 12 ∧ Reach n (A0 txt s first seen) m ∧ Found q (r + 1) m := by
  obtain ⟨sn, f, a1⟩ := go_skips (txt := txt) (q - s) s first seen (by omega) (fun i x y => h1 i x (by omega))
  rw [show s + (q - s) = q by omega] at a1
  obtain ⟨sn2, a2⟩ := go_open (first := f) (seen := sn) (by omega : q < txt.size) h2
  obtain ⟨sn3, c, hc, a3⟩ := go_ins (txt := txt) (s := q) (first := f) (r - (q + 1)) (q + 1) 0 sn2 (Int.le_refl _) (by omega) (fun i x y => h3 i (by omega) (by omega))
  rw [show q + 1 + (r - (q + 1)) = r by omega] at a3
  obtain ⟨m, a4, b⟩ := go_close (s := q) (first := f) (seen := sn3) hrz h4 hc
  exact ⟨_, m, by omega, ((a1.trans a2).trans a3).trans a4, b⟩
end
theorem stuck {m : M} (h : m.outcome.isSome = true) : ∀ j, M.runFor j m = m
  | 0 => rfl
  | j + 1 => by show (if m.outcome.isSome = true then m else _) = m; rw [if_pos h]
section
open PySem.Builtin.Re
variable {prog : Program} {w : World} {A : Around} {h : Heap}
theorem wp_rule {x : String} {PU : Unit → Heap → Prop} (q : PU () h) : WP prog w A (rule x) h PU := .of fun Q E gs dr tk os c => wpAny_rule (c _ _ _ q)
theorem drive : ∀ (n k : Nat) (m : M), 1 ≤ n → k ≤ 4 * n → (M.runFor k m).outcome.isSome = true → ∀ {P : M → Heap → Prop}, P (M.runFor k m) h → WP prog w A (reDrive n m) h P
  | 0, k, m, h1, _, _, P, q => by omega
  | n + 1, k, m, _, hk, ho, P, q => by
    show WP prog w A (if (M.runFor 4 m).outcome.isSome = true then pure (M.runFor 4 m) else (do rule "sre.turn"; reDrive n (M.runFor 4 m))) h P
    by_cases h4 : (M.runFor 4 m).outcome.isSome = true
    · rw [if_pos h4]
      have e : M.runFor k m = M.runFor 4 m := by
        rcases Nat.le_total k 4 with hle | hle
        · obtain ⟨j, hj⟩ : ∃ j, 4 = k + j := ⟨4 - k, by omega⟩
          rw [hj, runFor_add, stuck ho]
        · obtain ⟨j, rfl⟩ : ∃ j, k = 4 + j := ⟨k - 4, by omega⟩
          rw [runFor_add, stuck h4]
      rw [e] at q
      exact .pure q
    · rw [if_neg h4]
      have hk4 : 4 < k := by
        rcases Nat.lt_or_ge 4 k with hlt | hge
        · exact hlt
        · exfalso
          obtain ⟨j, hj⟩ : ∃ j, 4 = k + j := ⟨4 - k, by omega⟩
          apply h4
          rw [hj, runFor_add, stuck ho]; exact ho
      obtain ⟨j, rfl⟩ : ∃ j, k = 4 + j := ⟨k - 4, by omega⟩
      rw [runFor_add] at ho q
      exact .bind (wp_rule (drive n j _ (by omega) (by omega) ho q))
end
end Mine
end

section
set_option maxRecDepth 100000
set_option Elab.async false
set_option linter.unusedVariables false
set_option linter.unusedSimpArgs false
set_option autoImplicit false
namespace Mine
open PySem PySem.Calls PySem.W PyProof.Rows PySem.Builtin PySem.Builtin.Re

section
variable {b : Array UInt8} {t : Tok}
theorem take_eq {id : String} : Bytes.takeBuffer? id (.bytes b t) 0 = pure (some (b, none)) := by
  have e : ∀ full, Bytes.buffer? id (.bytes b t) full = pure (some b) := by
    intro full
    unfold Bytes.buffer?
    rw [KBy.special_eq KBy.look_buffer, KBy.own_buffer, KBy.own_release]
    cases full <;> kernel_rfl
  unfold Bytes.takeBuffer?
  rw [KBy.special_eq KBy.look_buffer, KBy.own_buffer]
  simp only [pure_bind]
  rw [if_neg (by decide), e]
  rfl
theorem takeQ_eq {id : String} : Bytes.takeBufferQuiet? id (.bytes b t) 0 = pure (some (b, none)) := by
  unfold Bytes.takeBufferQuiet?
  rw [take_eq]; rfl
theorem asStr_bytes : asStr? (.bytes b t) = pure none := by rfl
theorem textOf_eq : reTextOf (.bytes b t) = pure (b.map (·.toNat), 1) := by
  unfold reTextOf
  rw [asStr_bytes, KBy.quiet_eq]
  rfl
theorem noColl_eq : reNoCollectionInside (.bytes b t) 1 = pure () := by
  unfold reNoCollectionInside
  rw [KBy.isInstance_eq]
  rfl
theorem turned_eq : reLiteralCannotBeTurned (.bytes b t) = pure () := by
  unfold reLiteralCannotBeTurned
  rw [asStr_bytes, KBy.isInstance_eq]
  rfl
theorem look_call : typeLookup (.type "bytes") "__call__" = pure none := by rw [typeLookup_type, builtinLookup_eq_fast]; kernel_rfl
theorem special_call : specialOf (.bytes b t) "__call__" = pure none := KBy.special_eq look_call
theorem named_eq {p r : Value} : reNamed "re.Pattern.sub" "sub" ["repl", "string", "count"] 2 [p, r] [] = pure [some p, some r, none] := by
  with_unfolding_all rfl
end

section
variable {prog : Program} {w : World} {A : Around} {h : Heap} {κ : Know}
theorem WP.eq {α : Type} {t : Sem α} {a : α} {P : α → Heap → Prop} (e : t = Pure.pure a) (q : P a h) : WP prog w A t h P := by rw [e]; exact .pure q
theorem WP.hold {α : Type} {t : Sem α} {vs : List Value} {P : α → Heap → Prop} (q : WP prog w A t h P) : WP prog w A (holding vs t) h P := fun gs dr tk os => wpAny_holding (q gs dr tk os)
theorem wp_fields {a : Addr} {o : Obj} {fs : Array Value} {P : Array Value → Heap → Prop} (e : h.get? a = some o) (hd : o.data = .fields fs) (q : P fs h) : WP prog w A (fieldsOf (.ref a)) h P := .of fun Q E gs dr tk os c => wpAny_fieldsOf e hd (c _ _ _ q)
theorem wp_items {a : Addr} {o : Obj} {xs : Array Value} {n : Nat} {P : Option (Array Value) → Heap → Prop} (e : h.get? a = some o) (hd : o.data = .seq xs n) (q : P (some xs) h) : WP prog w A (seqItems? (.ref a)) h P := .of fun Q E gs dr tk os c => wpAny_seqItems e hd (c _ _ _ q)
noncomputable def tgt (p : Addr) (b : Array UInt8) (t : Tok) : ReTarget := { pattern := .ref p, string := .bytes b t, code := qcode, text := b.map (·.toNat), kind := 1, groups := 0, pos := 0, lim := (b.map (·.toNat)).size }
theorem wp_target {p : Addr} {b : Array UInt8} {t : Tok} {P : ReTarget → Heap → Prop} (hp : PatO κ p) (hk : Sub κ h) (q : P (tgt p b t) h) : WP prog w A (reWholeTarget (.ref p) (.bytes b t)) h P := by
  obtain ⟨o, fs, cA, co, cv, n, e1, c1, d0, d1, k6, k2, k5, e2, d2, hc⟩ := hp
  unfold reWholeTarget
  refine .bind (wp_fields (hk _ _ e1) d1 ?_)
  refine .bind (.eq textOf_eq ?_)
  dsimp only
  rw [k6]
  show WP prog w A (do
      reNoCollectionInside (Value.bytes b t) 1
      let __do_lift ← reRawItems (fs.getD 5 Value.none)
      pure { pattern := Value.ref p, string := Value.bytes b t, code := Array.map (fun x => x.toNat) __do_lift, text := b.map (·.toNat), kind := 1, groups := reRawNat (fs.getD 2 Value.none), pos := 0, lim := (b.map (·.toNat)).size }) h P
  refine .bind (.eq noColl_eq ?_)
  rw [k5]
  refine .bind ?_
  unfold reRawItems
  refine .bind (wp_items (hk _ _ e2) d2 (.pure (.pure ?_)))
  dsimp only [Option.getD_some]
  rw [hc, k2]
  exact q

/-- the search that begins at start -/
theorem wp_seen {P : Unit → Heap → Prop} {ls : List Nat} {c : Nat → Bool} {nm : Nat → String} (q : P () h) : WP prog w A (forIn ls PUnit.unit fun i r => if c i = true then (do rule (nm i); pure (ForInStep.yield PUnit.unit)) else pure (ForInStep.yield PUnit.unit)) h fun r h' => P () h' := by
  induction ls with
  | nil => exact .pure q
  | cons x r ih =>
    rw [List.forIn_cons]
    refine .bind ?_
    by_cases hc : c x = true
    · rw [if_pos hc]
      exact .bind (wp_rule (.pure ih))
    · rw [if_neg hc]
      exact .pure ih
theorem wp_run {m m' : Sre.M} {n : Nat} (hn : n ≤ 1000000) (hr : Reach n m m') {P : Option Sre.M → Heap → Prop} (ho : m'.outcome = some .matched ∨ m'.outcome = some .failed) (q : P (if m'.outcome matches some .matched then some m' else none) h) : WP prog w A (reRunToEnd m) h P := by
  unfold reRunToEnd
  have hr' : Sre.M.runFor n m = m' := hr
  refine .bind (drive (2 ^ 64) n m (by decide) (by omega) (by rw [hr']; rcases ho with h | h <;> rw [h] <;> rfl) ?_)
  rw [hr']
  refine .bind (WP.mono (wp_seen (P := fun _ h' => h' = h) rfl) fun _ h' e => ?_)
  subst e
  rcases ho with ho | ho
  · rw [ho] at q ⊢
    exact .pure q
  · rw [ho] at q ⊢
    exact .pure q
theorem fs_few {txt : Array Nat} {s : Nat} (h2 : txt.size - s < 2) : ∃ m', Reach 1 (Sre.forSearch qcode txt 0 s txt.size false) m' ∧ m'.outcome = some .failed := by
  show ∃ m', Reach 1 (if (decide (s > txt.size) || decide (txt.size - s < 2)) = true then _ else _) m' ∧ _
  rw [if_pos (by rw [Bool.or_eq_true]; exact .inr (decide_eq_true h2))]
  exact ⟨_, .step rfl rfl, rfl⟩
theorem fs_many {txt : Array Nat} {s : Nat} (hs : s ≤ txt.size) (h2 : ¬ txt.size - s < 2) : Sre.forSearch qcode txt 0 s txt.size false = A0 txt s true (({} : Sre.Seen).add 14) := by
  show (if (decide (s > txt.size) || decide (txt.size - s < 2)) = true then _ else _) = _
  rw [if_neg (by rw [Bool.or_eq_true]; rintro (h | h) <;> have := of_decide_eq_true h <;> omega)]
  rfl
theorem wp_none {p : Addr} {b : Array UInt8} {t : Tok} {s : Nat} (hs : s ≤ b.size) (hsz : b.size ≤ 10000) (hc : ∀ i, s ≤ i → i < b.size → (b.map (·.toNat)).getD i 0 ≠ 34) {P : Option Sre.M → Heap → Prop} (q : P none h) : WP prog w A (reNextFound (tgt p b t) s false) h P := by
  have hz : (b.map (·.toNat)).size = b.size := by simp
  unfold reNextFound tgt
  dsimp only
  by_cases h2 : (b.map (·.toNat)).size - s < 2
  · obtain ⟨m', h1, h3⟩ := fs_few h2
    exact wp_run (by omega) h1 (.inr h3) (by rw [h3]; exact q)
  · rw [fs_many (by omega) h2]
    obtain ⟨n, m', hn, h1, h3⟩ := search_none (txt := b.map (·.toNat)) (first := true) (seen := ({} : Sre.Seen).add 14) (s := s) (by omega) (fun i x y => hc i x (by omega))
    exact wp_run (by omega) h1 (.inr h3) (by rw [h3]; exact q)
theorem wp_found {p : Addr} {b : Array UInt8} {t : Tok} {s q r : Nat} (hsz : b.size ≤ 10000) (hq : s ≤ q) (hr : q < r) (hrz : r < b.size) (h1 : ∀ i, s ≤ i → i < q → (b.map (·.toNat)).getD i 0 ≠ 34) (h2 : (b.map (·.toNat)).getD q 0 = 34)
    (h3 : ∀ i, q < i → i < r → (b.map (·.toNat)).getD i 0 ≠ 34 ∧ (b.map (·.toNat)).getD i 0 ≠ 92) (h4 : (b.map (·.toNat)).getD r 0 = 34) {P : Option Sre.M → Heap → Prop} (qq : ∀ m, Found q (r + 1) m → P (some m) h) : WP prog w A (reNextFound (tgt p b t) s false) h P := by
  have hz : (b.map (·.toNat)).size = b.size := by simp
  unfold reNextFound tgt
  dsimp only
  rw [fs_many (by omega) (by omega)]
  obtain ⟨n, m', hn, a1, a2⟩ := search_found (txt := b.map (·.toNat)) (first := true) (seen := ({} : Sre.Seen).add 14) hq hr (by omega) h1 h2 h3 h4
  have := a2.1
  exact wp_run (by omega) a1 (.inl this) (by rw [this]; exact qq m' a2)
end
end Mine
end

section
set_option maxRecDepth 100000
set_option Elab.async false
set_option linter.unusedVariables false
set_option linter.unusedSimpArgs false
set_option autoImplicit false
namespace Mine
open PySem PySem.Calls PySem.W PyProof.Rows PySem.Builtin PySem.Builtin.Re

section
variable {prog : Program} {w : World} {A A₀ : Around} {h : Heap} {κ fr : Know} {L : Addr} {m : Loc} {own own' : List (Addr × Res)}
variable {P : Value → Heap → Prop} {PU : Unit → Heap → Prop}
noncomputable def FinP (prog : Program) (w : World) (A₀ : Around) (P : Value → Heap → Prop) (fin : Fin) (h : Heap) : Prop := match fin with
  | .done f => RetP P f h
  | .again c => c.quiet = true ∧ WPC prog w A₀ c h (RetP P)
theorem WPC.builtin {id : String} {args : Args} {b : Builtin} (hb : entryFor table id = some b) (hid : plainId id = true) (q : WP prog w A.in1 (b args) h (FinP prog w A P)) : WPC prog w A (.builtin id args) h (RetP P) := fun gs dr tk os => by
  refine codeAny_builtin hb ?_
  rw [Around.under_plainId hid _]
  refine run (q gs dr tk os) (fun fin h' tk' y => ?_) fun _ _ e => e.elim
  cases fin with
  | done f => exact ⟨h', tk', rfl, y⟩
  | again c => exact ⟨y.1, y.2 gs dr tk' os⟩
theorem WP.method {T : String} {name : Str} {id : String} {b : Builtin} {self : Value} {rest : List Value} (slot : Slot T name id) (hT : TyH h self T) (entry : entryFor table id = some b) (args : argsOk id ⟨self :: rest, []⟩)
    (q : WP prog w A.in1 (b ⟨self :: rest, []⟩) h (FinP prog w A P)) : WP prog w A (PySem.call (.builtin id) (self :: rest) []) h P := by
  refine WP.call fun gs dr tk os => codeAny_call_builtin slot.plain entry (slot.check _ _ _ _ _ _ _ _ (hT.to _ rfl) args ?_)
  refine run (q gs dr tk os) (fun fin h' tk' y => ?_) fun _ _ e => e.elim
  cases fin with
  | done f => exact ⟨h', tk', rfl, y⟩
  | again c => exact ⟨y.1, y.2 gs dr tk' os⟩
theorem wp_bytes {b : Array UInt8} (hb : b.size ≤ 100000) (q : ∀ t, P (.bytes b t) h) : WP prog w A (mkBytes b) h P := .of fun Q E gs dr tk os c => wpAny_mkBytes (c _ _ _ (q _)) (by rw [sizeLine_eq]; omega)
theorem wp_push {a : Addr} {vs : List Value} {v : Value} (S : Sat prog w κ fr L m own h) (U : OwnUpd a (.lst vs) (.lst (vs ++ [v])) own own') (hn : vs.length ≤ 10000)
    (q : ∀ h', Sat prog w κ fr L m own' h' → PU () h') : WP prog w A (updateSeq a (·.push v)) h PU := by
  obtain ⟨n, e⟩ := S.lst U.mem
  refine .of fun Q E gs dr tk os c => wpAny_updateSeq e rfl (c _ _ _ (q _ (S.update U (Heap.SameBut.update ..) (Heap.get?_update_self _ e ?_) ?_))) (by simp; rw [sizeLine_eq]; omega) (by simp; rw [sizeLine_eq]; omega)
  · unfold Obj.mapSeq LO; rfl
  · refine ⟨if (vs ++ [v]).length == vs.length then n else n + 1, ?_⟩
    unfold Obj.mapSeq LO
    simp
noncomputable def BytesAre (vs : List Value) (bs : List (Array UInt8)) : Prop := vs.length = bs.length ∧ ∀ (i : Nat) (b : Array UInt8), bs[i]? = some b → ∃ t, vs[i]? = some (Value.bytes b t)
theorem wp_forIn {σ : Type} {f : Nat → σ → Sem (ForInStep σ)} (I : Nat → σ → Prop) {PS : σ → Heap → Prop} (n : Nat) : ∀ (k : Nat) (s : σ), I k s → (∀ i s, k ≤ i → i < k + n → I i s → WP prog w A (f i s) h fun r h' => h' = h ∧ ∃ s', r = ForInStep.yield s' ∧ I (i + 1) s') → (∀ s, I (k + n) s → PS s h) →
    WP prog w A (forIn (List.range' k n) s f) h PS := by
  induction n with
  | zero => intro k s hI _ q; exact .pure (q s hI)
  | succ n ih =>
    intro k s hI ht q
    rw [List.range'_succ, List.forIn_cons]
    refine .bind ((ht k s (Nat.le_refl _) (by omega) hI).mono fun r h' y => ?_)
    obtain ⟨rfl, s', rfl, hI'⟩ := y
    exact ih (k + 1) s' hI' (fun i s h1 h2 hs => ht i s (by omega) (by omega) hs) (fun s hs => q s (by rw [show k + (n + 1) = k + 1 + n by omega]; exact hs))
theorem letGo_wp {r k : List Value} (q : PU () h) : WP prog w A (letGo r k) h PU := .of fun Q E gs dr tk os c => wpAny_letGo (c _ _ _ q)
theorem point_wp (q : PU () h) : WP prog w A point h PU := .of fun Q E gs dr tk os c => wpAny_point (c _ _ _ q)
theorem joinLetGo_wp {keep : List Value} : ∀ {taken : List (Value × Option Value)}, (∀ p ∈ taken, p.2 = none) → PU () h → WP prog w A (Bytes.joinLetGo taken keep) h PU
  | [], _, q => .pure q
  | (x, wv) :: r, hn, q => by
    have : wv = none := hn _ (.head _)
    subst this
    unfold Bytes.joinLetGo
    exact .bind (letGo_wp (joinLetGo_wp (fun p hp => hn p (.tail _ hp)) q))
theorem look_t {v : Value} {T : String} {P : Value → Heap → Prop} (hT : TyH h v T) (q : P (.type T) h) : WP prog w A (typeOf v) h P := .of fun Q E gs dr tk os c => wpAny_typeOf (hT.to _ rfl) (c _ _ _ q)
theorem b_join1 {D : Addr} {b : Array UInt8} {t u : Tok} {n : Nat} (e : h.get? D = some (LO [.bytes b u] n)) (q : P (.bytes b u) h) : WP prog w A (call (.builtin "bytes.join") [.bytes #[] t, .ref D] []) h P := by
  refine WP.method slot_join (typeIs_bytes _ _ _) entry_join (args_join _ _) ?_
  show WP prog w A.in1 (Bytes.joinItems (.ref D) >>= fun seq => _) h _
  unfold Bytes.joinItems
  refine .bind (.bind (look_t (TyH.ref e rfl) ?_))
  refine .pure ?_
  refine .bind (wp_items e rfl ?_)
  show WP prog w A.in1 (typeOf (.bytes b u) >>= fun ty => _) h _
  refine .bind (look_t (typeIs_bytes _ _ _) ?_)
  exact .bind (wp_rule (.pure q))
theorem b_join {D : Addr} {vs : List Value} {bs : List (Array UInt8)} {t : Tok} {n : Nat} (e : h.get? D = some (LO vs n)) (hb : BytesAre vs bs) (h2 : 2 ≤ vs.length) (hsz : (Bytes.joined #[] bs).size ≤ 100000) (hsm : bs.foldl (· + ·.size) 0 ≤ 100000) (q : ∀ t, P (.bytes (Bytes.joined #[] bs) t) h) :
    WP prog w A (call (.builtin "bytes.join") [.bytes #[] t, .ref D] []) h P := by
  refine WP.method slot_join (typeIs_bytes _ _ _) entry_join (args_join _ _) ?_
  show WP prog w A.in1 (Bytes.joinItems (.ref D) >>= fun seq => _) h _
  unfold Bytes.joinItems
  refine .bind (.bind (look_t (TyH.ref e rfl) ?_))
  refine .pure ?_
  refine .bind (wp_items e rfl ?_)
  obtain ⟨v0, v1, vr, rfl⟩ : ∃ v0 v1 vr, vs = v0 :: v1 :: vr := by
    match vs, h2 with
    | v0 :: v1 :: vr, _ => exact ⟨v0, v1, vr, rfl⟩
  show WP prog w A.in1 (forIn [: _] _ _ >>= fun r => _) h _
  rw [Std.Legacy.Range.forIn_eq_forIn_range']
  have hsize : [:(v0 :: v1 :: vr).toArray.size].size = bs.length := by have := hb.1; simp [Std.Legacy.Range.size] at this ⊢; omega
  show WP prog w A.in1 (forIn (List.range' 0 [:(v0 :: v1 :: vr).toArray.size].size) _ _ >>= fun r => _) h _
  rw [hsize]
  refine .bind (wp_forIn (fun i (s : Array (Array UInt8) × List (Value × Option Value)) => s.1.toList = bs.take i ∧ ∀ p ∈ s.2, p.2 = none ∧ p.1.onHeap = false) bs.length 0 _ ⟨rfl, fun _ hp => by cases hp⟩ ?_ ?_)
  · rintro i ⟨parts, taken⟩ h0 hi ⟨hp, ht⟩
    have hi' : i < bs.length := by omega
    obtain ⟨ti, hti⟩ := hb.2 i bs[i] (List.getElem?_eq_getElem hi')
    have hany : (taken.any fun x => x.1.onHeap) = false := by
      rw [List.any_eq_false]
      intro p hp'; rw [(ht p hp').2]; decide
    have hget : (v0 :: v1 :: vr).toArray.getD i .none = .bytes bs[i] ti := by
      rw [Array.getD_eq_getD_getElem?]
      have : (v0 :: v1 :: vr).toArray[i]? = some (.bytes bs[i] ti) := by simpa using hti
      rw [this]; rfl
    refine .bind (wp_items e rfl ?_)
    dsimp only
    rw [hget, hany]
    show WP prog w A.in1 (holding _ _ >>= fun r => _) h _
    refine .bind (WP.hold (.eq takeQ_eq ?_))
    dsimp only
    refine .bind (wp_items e rfl ?_)
    dsimp only
    rw [if_neg (by simp)]
    refine .pure ⟨rfl, _, rfl, ?_, ?_⟩
    · dsimp only at hp ⊢
      rw [Array.toList_push, hp, List.take_add_one, List.getElem?_eq_getElem hi']; rfl
    · intro p hp'
      rcases List.mem_append.mp hp' with h' | h'
      · exact ht p h'
      · rw [List.mem_singleton.mp h']; exact ⟨rfl, rfl⟩
  · rintro ⟨parts, taken⟩ ⟨hp, ht⟩
    rw [Nat.zero_add, List.take_length] at hp
    dsimp only at hp ht ⊢
    have hpay : Bytes.payload (.bytes #[] t) = pure #[] := by rfl
    refine .bind (.eq hpay ?_)
    rw [hp]
    have hpf : parts.foldl (fun x1 x2 => x1 + x2.size) ((#[] : Array UInt8).size * (parts.size - 1)) = bs.foldl (· + ·.size) 0 := by
      rw [← Array.foldl_toList, hp]
      have : (#[] : Array UInt8).size * (parts.size - 1) = 0 := by show 0 * _ = 0; omega
      rw [this]
    show WP prog w A.in1 (if Bytes.tooLong (parts.foldl (fun x1 x2 => x1 + x2.size) ((#[] : Array UInt8).size * (parts.size - 1))) = true then _ else _) h _
    rw [hpf, if_neg (by rw [KBy.tooLong_not (by omega)]; decide)]
    refine .bind (wp_bytes hsz fun t' => ?_)
    refine .bind (WP.hold (point_wp ?_))
    refine .bind (joinLetGo_wp (fun p hp' => (ht p hp').1) ?_)
    exact .pure (q t')
end
end Mine
end

section
set_option maxRecDepth 100000
set_option Elab.async false
set_option linter.unusedVariables false
set_option linter.unusedSimpArgs false
set_option autoImplicit false
namespace Mine
open PySem PySem.Calls PySem.W PyProof.Rows PySem.Builtin PySem.Builtin.Re

theorem slice_back (b : Array UInt8) (i j : Nat) : ((b.map (·.toNat)).extract i j).map (·.toUInt8) = b.extract i j := by
  apply Array.toList_inj.mp
  simp only [Array.toList_map, Array.toList_extract, List.extract_eq_take_drop]
  rw [← List.map_drop, ← List.map_take, List.map_map]
  conv => rhs; rw [← List.map_id ((b.toList.drop i).take (j - i))]
  apply List.map_congr_left
  intro x _
  show x.toNat.toUInt8 = x
  simp
section
variable {prog : Program} {w : World} {A : Around} {h : Heap} {κ fr : Know} {L : Addr} {m : Loc} {own own' : List (Addr × Res)}
variable {P : Value → Heap → Prop}
noncomputable def Lp (p D : Addr) (b : Array UInt8) (t u : Tok) (n done : Int) : Args := ⟨[.ref p, .bytes b t, .bytes #[] u, rawInt 0, rawInt 0, rawInt n, rawInt done, rawInt done, .bool false, .ref D, .bool false], []⟩
theorem wp_slice {p : Addr} {b : Array UInt8} {t : Tok} {i j : Nat} (hsz : b.size ≤ 10000) (q : ∀ t', P (.bytes (b.extract i j) t') h) : WP prog w A (reSlice (tgt p b t).text (tgt p b t).kind i j) h P := by
  show WP prog w A (mkBytes (((b.map (·.toNat)).extract i j).map (·.toUInt8))) h P
  rw [slice_back]
  exact wp_bytes (by simp; omega) q
theorem loop_none {p D : Addr} {b : Array UInt8} {t u : Tok} {n : Int} {done : Nat} {vs : List Value} (hp : PatO κ p) (S : Sat prog w κ fr L m ((D, .lst vs) :: own) h) (hsz : b.size ≤ 10000) (hv : vs.length ≤ 100)
    (hd : done < b.size) (hc : ∀ i, done ≤ i → i < b.size → (b.map (·.toNat)).getD i 0 ≠ 34)
    (q : ∀ t' tj h', Sat prog w κ fr L m ((D, .lst (vs ++ [.bytes (b.extract done b.size) t'])) :: own) h' → WP prog w A.in1 (PySem.call (.builtin "bytes.join") [.bytes #[] tj, .ref D] []) h' P) :
    WPC prog w A (.builtin "re.Pattern.sub.loop" (Lp p D b t u n done)) h (RetP P) := by
  refine WPC.builtin entry_sub_loop (by decide +kernel) ?_
  show WP prog w A.in1 (reWholeTarget (.ref p) (.bytes b t) >>= fun t => _) h _
  refine .bind (wp_target hp S.base ?_)
  show WP prog w A.in1 (reLiteralCannotBeTurned (.bytes #[] u) >>= fun _ => _) h _
  refine .bind (.eq turned_eq ?_)
  have hz : (tgt p b t).lim = b.size := by show (b.map (·.toNat)).size = _; simp
  show WP prog w A.in1 (reNextFound (tgt p b t) ((done : Int)).toNat false >>= fun r => _) h _
  rw [Int.toNat_natCast]
  refine .bind (wp_none (by omega) hsz hc ?_)
  show WP prog w A.in1 (if ((done : Int)).toNat < (tgt p b t).lim then _ else _) h _
  rw [Int.toNat_natCast, hz, if_pos hd]
  refine .bind (wp_slice hsz fun t' => ?_)
  refine .bind (wp_push S .head (by omega) fun h' S' => ?_)
  refine .bind (wp_slice hsz fun tj => ?_)
  have e0 : b.extract 0 0 = #[] := by simp
  rw [e0]
  obtain ⟨nD, gD⟩ := S'.lst (.head _)
  refine .bind (wp_items gD rfl ?_)
  show WP prog w A.in1 (if (vs ++ [Value.bytes (b.extract done b.size) t']).toArray.isEmpty = true then _ else _) h' _
  rw [if_neg (by simp)]
  refine .bind ((q t' tj h' S').mono fun v h'' z => ?_)
  exact .pure z
theorem loop_found {p D : Addr} {b : Array UInt8} {t u : Tok} {n : Int} {done q0 r : Nat} {vs : List Value} (hp : PatO κ p) (S : Sat prog w κ fr L m ((D, .lst vs) :: own) h) (hsz : b.size ≤ 10000) (hv : vs.length ≤ 100)
    (hq : done ≤ q0) (hr : q0 < r) (hrz : r < b.size) (h1 : ∀ i, done ≤ i → i < q0 → (b.map (·.toNat)).getD i 0 ≠ 34) (h2 : (b.map (·.toNat)).getD q0 0 = 34)
    (h3 : ∀ i, q0 < i → i < r → (b.map (·.toNat)).getD i 0 ≠ 34 ∧ (b.map (·.toNat)).getD i 0 ≠ 92) (h4 : (b.map (·.toNat)).getD r 0 = 34)
    (q : ∀ t' h', Sat prog w κ fr L m ((D, .lst ((if done < q0 then vs ++ [.bytes (b.extract done q0) t'] else vs) ++ [.bytes #[] u])) :: own) h' → WPC prog w A (.builtin "re.Pattern.sub.loop" (Lp p D b t u (n + 1) ((r + 1 : Nat) : Int))) h' (RetP P)) :
    WPC prog w A (.builtin "re.Pattern.sub.loop" (Lp p D b t u n done)) h (RetP P) := by
  refine WPC.builtin entry_sub_loop (by decide +kernel) ?_
  show WP prog w A.in1 (reWholeTarget (.ref p) (.bytes b t) >>= fun t => _) h _
  refine .bind (wp_target hp S.base ?_)
  show WP prog w A.in1 (reLiteralCannotBeTurned (.bytes #[] u) >>= fun _ => _) h _
  refine .bind (.eq turned_eq ?_)
  show WP prog w A.in1 (reNextFound (tgt p b t) ((done : Int)).toNat false >>= fun r => _) h _
  rw [Int.toNat_natCast]
  refine .bind (wp_found hsz hq hr hrz h1 h2 h3 h4 fun m' hm => ?_)
  obtain ⟨-, hst, hhd, -, -, -⟩ := hm
  have hlast : ∀ (t' : Tok) (ws : List Value) h', ws.length ≤ 101 → Sat prog w κ fr L m ((D, .lst ws) :: own) h' → (ws = if done < q0 then vs ++ [.bytes (b.extract done q0) t'] else vs) → WP prog w A.in1 (do
      updateSeq D (·.push (Value.bytes #[] u))
      again (.builtin "re.Pattern.sub.loop" ⟨[.ref p, .bytes b t, .bytes #[] u, rawInt 0, rawInt 0, rawInt (n + 1), rawInt m'.handed, rawInt m'.handed, .bool (m'.handed == q0), .ref D, .bool false], []⟩)) h' (FinP prog w A P) := by
    intro t' ws h' hl S' e
    refine .bind (wp_push S' .head (by omega) fun h'' S'' => ?_)
    rw [hhd]
    have hb : ((r + 1 : Nat) == q0) = false := by simp; omega
    rw [hb]
    rw [e] at S''
    exact .pure ⟨Code.quiet_builtin _ (by decide +kernel), q t' h'' S''⟩
  show WP prog w A.in1 (if ((done : Int)).toNat < m'.start then _ else _) h _
  rw [Int.toNat_natCast, hst]
  by_cases hlt : done < q0
  · rw [if_pos hlt]
    refine .bind (wp_slice hsz fun t' => ?_)
    refine .bind (wp_push S .head (by omega) fun h' S' => ?_)
    exact hlast t' _ h' (by simp; omega) S' (by rw [if_pos hlt])
  · rw [if_neg hlt]
    exact hlast 0 _ h (by omega) S (by rw [if_neg hlt])
/-- _quoted.sub(b'', data) up to its loop -/
theorem sub_start {p : Addr} {b : Array UInt8} {t u : Tok} (hp : PatO κ p) (S : Sat prog w κ fr L m own h)
    (q : ∀ D h', Sat prog w κ fr L m ((D, .lst []) :: own) h' → WPC prog w A (.builtin "re.Pattern.sub.loop" (Lp p D b t u 0 0)) h' (RetP P)) : WP prog w A (PySem.call (.builtin "re.Pattern.sub") [.ref p, .bytes #[] u, .bytes b t] []) h P := by
  have hT : TyH h (.ref p) "re.Pattern" := by
    obtain ⟨o, _, _, _, _, _, e1, c1, _⟩ := hp
    exact TyH.ref (S.base _ _ e1) c1
  refine WP.method slot_sub hT entry_sub (args_sub _ _ _) ?_
  show WP prog w A.in1 (reNamed "re.Pattern.sub" "sub" ["repl", "string", "count"] 2 [.bytes #[] u, .bytes b t] [] >>= fun r => _) h _
  refine .bind (.eq named_eq ?_)
  refine .bind (.pure ?_)
  refine .bind (.eq special_call ?_)
  show WP prog w A.in1 (asStr? (.bytes #[] u) >>= fun r => _) h _
  refine .bind (.eq asStr_bytes ?_)
  show WP prog w A.in1 (Bytes.bufferQuiet? "re.Pattern.sub" (.bytes #[] u) >>= fun r => _) h _
  refine .bind (.eq KBy.quiet_eq ?_)
  dsimp only
  refine .bind (.pure ?_)
  rw [if_neg (by decide), if_pos (by simp)]
  refine .bind (.pure ?_)
  refine .bind (WP.hold (wp_target hp S.base ?_))
  dsimp only
  rw [if_neg (by decide)]
  refine .bind (.of fun Q E gs dr tk os c => wpAny_newObj_type (c _ _ _ ?_))
  exact .pure ⟨Code.quiet_builtin _ (by decide +kernel), q _ _ (own_list S [] 0)⟩
end
end Mine
end

section
set_option maxRecDepth 100000
set_option Elab.async false
set_option linter.unusedVariables false
set_option linter.unusedSimpArgs false
set_option autoImplicit false
namespace Mine
open PySem PySem.Calls PySem.W PyProof.Rows
local macro_rules | `(tactic| walk_at "lk") => `(tactic| first | assumption | exact upd_self | (refine' upd_ne (by decide) ?lkE; case lkE => walk_at "lk"))

theorem By_nat {l : List Nat} (hl : ∀ x ∈ l, x < 128) : (By l).map (·.toNat) = l.toArray := by
  apply Array.toList_inj.mp
  simp only [Array.toList_map, List.map_map]
  conv => rhs; rw [← List.map_id l]
  apply List.map_congr_left
  intro x hx
  have := hl x hx
  show (x.toUInt8).toNat = x
  simp [Nat.toUInt8]; omega
theorem By_size (l : List Nat) : (By l).size = l.length := by simp
theorem By_extract (l : List Nat) (i j : Nat) : (By l).extract i j = By ((l.drop i).take (j - i)) := by
  apply Array.toList_inj.mp
  simp [List.extract_eq_take_drop, List.map_drop, List.map_take]
section
variable {prog : Program} {w : World} {A : Around} {h : Heap} {κ fr : Know} {L : Addr} {m : Loc} {own own' : List (Addr × Res)}
variable {P : Value → Heap → Prop}
theorem sub_plain {p : Addr} {l : List Nat} {t u : Tok} (hp : PatO κ p) (S : Sat prog w κ fr L m own h) (hl : ∀ x ∈ l, x < 128) (hsz : l.length ≤ 10000) (hne : 1 ≤ l.length) (hc : 34 ∉ l)
    (q : ∀ t' h', Sat prog w κ fr L m own h' → P (.bytes (By l) t') h') : WP prog w A (PySem.call (.builtin "re.Pattern.sub") [.ref p, .bytes #[] u, .bytes (By l) t] []) h P := by
  have hs := By_size l
  refine sub_start hp S fun D h₁ S => ?_
  refine loop_none (done := 0) hp S (by omega) (by simp) (by omega) ?_ fun t' tj h₂ S => ?_
  · intro i _ hi
    rw [By_nat hl]
    rw [By_size] at hi
    intro e
    apply hc
    have : l[i]? = some 34 := by
      rw [List.getElem?_eq_getElem hi]
      have e2 : l.toArray.getD i 0 = l[i] := by simp [Array.getD, hi]
      rw [← e2, e]
    exact List.mem_of_getElem? this
  · obtain ⟨nD, gD⟩ := S.lst (.head _)
    refine b_join1 gD ?_
    have e : (By l).extract 0 (By l).size = By l := by rw [By_extract, By_size, List.drop_zero, Nat.sub_zero, List.take_length]
    rw [e]
    exact q t' h₂ (S.drop (List.sublist_cons_self _ _))
theorem sub_quote {p : Addr} {ds rest : List Nat} {t u : Tok} (hp : PatO κ p) (S : Sat prog w κ fr L m own h) (hd : ∀ x ∈ ds, x < 128 ∧ x ≠ 34 ∧ x ≠ 92) (hr : ∀ x ∈ rest, x < 128 ∧ x ≠ 34) (hsz : ds.length + rest.length ≤ 9000)
    (q : ∀ t' h', Sat prog w κ fr L m own h' → P (.bytes (By (40 :: 41 :: 41 :: rest)) t') h') :
    WP prog w A (PySem.call (.builtin "re.Pattern.sub") [.ref p, .bytes #[] u, .bytes (By (40 :: 34 :: 34 :: 34 :: (ds ++ 34 :: 41 :: 41 :: rest))) t] []) h P := by
  generalize hl : 40 :: 34 :: 34 :: 34 :: (ds ++ 34 :: 41 :: 41 :: rest) = l
  have hlen : l.length = ds.length + rest.length + 7 := by rw [← hl]; simp; omega
  have hl128 : ∀ x ∈ l, x < 128 := by
    intro x hx
    rw [← hl] at hx
    simp only [List.mem_cons, List.mem_append] at hx
    rcases hx with rfl | rfl | rfl | rfl | h | rfl | rfl | rfl | h
    all_goals first | omega | exact (hd x h).1 | exact (hr x h).1
  have hs := By_size l
  have hg : ∀ i, ((By l).map (·.toNat)).getD i 0 = l.getD i 0 := by
    intro i
    rw [By_nat hl128]
    simp [Array.getD_eq_getD_getElem?, List.getD_eq_getElem?_getD]
  have g0 : l.getD 0 0 = 40 := by rw [← hl]; rfl
  have g1 : l.getD 1 0 = 34 := by rw [← hl]; rfl
  have g2 : l.getD 2 0 = 34 := by rw [← hl]; rfl
  have g3 : l.getD 3 0 = 34 := by rw [← hl]; rfl
  have gd : ∀ i, 4 ≤ i → i < 4 + ds.length → l.getD i 0 ∈ ds := by
    intro i h1 h2
    obtain ⟨k, rfl⟩ : ∃ k, i = k + 4 := ⟨i - 4, by omega⟩
    rw [← hl]
    show (ds ++ 34 :: 41 :: 41 :: rest).getD k 0 ∈ ds
    rw [List.getD_eq_getElem?_getD, List.getElem?_append_left (by omega), List.getElem?_eq_getElem (by omega)]
    exact List.getElem_mem _
  have gq : l.getD (4 + ds.length) 0 = 34 := by
    rw [← hl, Nat.add_comm]
    show (ds ++ 34 :: 41 :: 41 :: rest).getD ds.length 0 = 34
    rw [List.getD_eq_getElem?_getD, List.getElem?_append_right (Nat.le_refl _)]; simp
  have gr : ∀ i, 5 + ds.length ≤ i → i < l.length → l.getD i 0 ≠ 34 := by
    intro i h1 h2
    obtain ⟨k, rfl⟩ : ∃ k, i = ds.length + (k + 1) + 4 := ⟨i - ds.length - 5, by omega⟩
    rw [← hl]
    show (ds ++ 34 :: 41 :: 41 :: rest).getD (ds.length + (k + 1)) 0 ≠ 34
    rw [List.getD_eq_getElem?_getD, List.getElem?_append_right (by omega), Nat.add_sub_cancel_left]
    match k with
    | 0 | 1 => simp
    | k + 2 =>
      show (rest[k]?).getD 0 ≠ 34
      rw [List.getElem?_eq_getElem (by omega)]
      exact (hr _ (List.getElem_mem _)).2
  refine sub_start hp S fun D h₁ S => ?_
  refine loop_found (done := 0) (q0 := 1) (r := 2) hp S (by omega) (by simp) (by omega) (by omega) (by omega) ?_ (by rw [hg]; exact g1) ?_ (by rw [hg]; exact g2) fun t1 h₂ S => ?_
  · intro i h1 h2; rw [hg, show i = 0 by omega, g0]; decide
  · intro i h1 h2; omega
  rw [if_pos (by omega)] at S
  refine loop_found (done := 3) (q0 := 3) (r := 4 + ds.length) hp S (by omega) (by simp) (by omega) (by omega) (by omega) ?_ (by rw [hg]; exact g3) ?_ (by rw [hg]; exact gq) fun t2 h₃ S => ?_
  · intro i h1 h2; omega
  · intro i h1 h2
    rw [hg]
    exact (hd _ (gd i (by omega) h2)).2
  rw [if_neg (by omega)] at S
  refine loop_none (done := 4 + ds.length + 1) hp S (by omega) (by simp) (by omega) ?_ fun t3 tj h₄ S => ?_
  · intro i h1 h2; rw [hg]; exact gr i (by omega) (by omega)
  obtain ⟨nD, gD⟩ := S.lst (.head _)
  have e1 : (By l).extract 0 1 = By [40] := by rw [By_extract, ← hl]; rfl
  have e2 : (By l).extract (4 + ds.length + 1) (By l).size = By (41 :: 41 :: rest) := by
    rw [By_extract, By_size]
    congr 1
    have : l.drop (4 + ds.length + 1) = 41 :: 41 :: rest := by
      rw [← hl, show 4 + ds.length + 1 = ds.length + 1 + 4 by omega]
      show (ds ++ 34 :: 41 :: 41 :: rest).drop (ds.length + 1) = _
      rw [List.drop_append]; simp
    rw [this, List.take_of_length_le (by simp; omega)]
  rw [e1, e2] at gD S
  refine b_join (bs := [By [40], #[], #[], By (41 :: 41 :: rest)]) gD ⟨by simp, ?_⟩ (by simp) ?_ ?_ fun t' => ?_
  · intro i b hb
    match i with
    | 0 | 1 | 2 | 3 => simp at hb; subst hb; exact ⟨_, rfl⟩
    | i + 4 => simp at hb
  · show (Builtin.Bytes.joined #[] [By [40], #[], #[], By (41 :: 41 :: rest)]).size ≤ _
    unfold Builtin.Bytes.joined
    simp; omega
  · simp; omega
  · have e : Builtin.Bytes.joined #[] [By [40], #[], #[], By (41 :: 41 :: rest)] = By (40 :: 41 :: 41 :: rest) := by
      unfold Builtin.Bytes.joined
      apply Array.toList_inj.mp
      simp
    rw [e]
    exact q t' h₄ (S.drop (List.sublist_cons_self _ _))
end

section
variable {prog : Program} {w : World} {A : Around} {h : Heap} {a : Ad} {d : Nat}
variable {P : Value → Heap → Prop}
noncomputable def opens (l : List Nat) : Nat := (l.filter (· == 40)).length
noncomputable def closes (l : List Nat) : Nat := (l.filter (· == 41)).length
/-- what stands of a line when its quoted strings are gone -/
noncomputable def Bare (l r : List Nat) : Prop := (∀ x ∈ l, x < 128) ∧ l.length ≤ 9000 ∧ ((34 ∉ l ∧ 1 ≤ l.length ∧ r = l) ∨ ∃ ds rest, l = 40 :: 34 :: 34 :: 34 :: (ds ++ 34 :: 41 :: 41 :: rest) ∧ r = 40 :: 41 :: 41 :: rest ∧ (∀ x ∈ ds, x ≠ 34 ∧ x ≠ 92) ∧ 34 ∉ rest)
theorem paren_spec (lv : Lv A d) (hd : d ≤ 90) (B : Base prog w a h.get?) {l r : List Nat} (hb : Bare l r) {t u : Tok} {dep : Int}
    (q : ∀ h' t, KeepsH h h' → P (.int (dep + opens r - closes r) t) h') : WP prog w A (call (.ref a.paren) [.bytes (By l) t, .int dep u] []) h P := by
  obtain ⟨Td, nd, td, hbd, hTd⟩ := B.pard
  have F := B.paren h fun _ _ e => e
  rw [hbd] at F
  refine call_def F (B.lim h fun _ _ e => e) (lv.depth (by omega)) (binds := [("data", .bytes (By l) t), ("depth", .int dep u)]) (fun _ _ _ _ _ s e => ?_) (by rfl) (fun L h₁ cd hk S => ?_) (by decide +kernel)
  · subst e
    exact BindsTo.of_defaults (T := Td) rfl hTd rfl (by with_unfolding_all rfl) (by with_unfolding_all rfl)
  have lv' := lv.deeper (fenv 14 L a.paren cd)
  generalize hA : A.deeper (fenv 14 L a.paren cd) = A' at lv' ⊢
  dsimp only [mapOf, List.foldl_cons, List.foldl_nil] at S
  obtain ⟨h128, hsz, hcase⟩ := hb
  have hpat := B.pat
  have hTp : ∀ h₂, Sub h.get? h₂ → TyH h₂ (.ref a.quoted) "re.Pattern" ∧ ∀ b, Value.ref a.quoted = .ref b → ∃ ob, h₂.get? b = some ob ∧ ob.dict = none := by
    intro h₂ hs
    obtain ⟨o, _, _, _, _, _, e1, c1, d1, _⟩ := hpat
    exact ⟨TyH.ref (hs _ _ e1) c1, fun b e => by cases e; exact ⟨_, hs _ _ e1, d1⟩⟩
  have cont : ∀ (h₂ : Heap) (m : Loc) (t' : Tok), 1 ≤ r.length → (∀ x ∈ r, x < 128) → Sat prog w h.get? Know.nil L m [] h₂ → m "depth" = some (.int dep u) → m "data" = some (.bytes (By r) t') →
      WP prog w A' (execs ((bodyOf 14).drop 1) (fenv 14 L a.paren cd)) h₂ fun f h' => P (retOf f) h' := by
    intro h₂ m t' hr1 hr128 S m1 m2
    refine x_ret (e_bin (e_bin (v_local S (by walk_at "lk") (e_meth FB.plainAttrs_bytes slot_count type_count (v_local S (by walk_at "lk") ⟨typeIs_bytes _ _ _, (fun _ z => by cases z), e_bytes fun t1 => ?_⟩)))))
    refine b_count (c := 40) hr128 (by decide) hr1 fun t2 => i_add fun t3 => ?_
    refine e_meth FB.plainAttrs_bytes slot_count type_count (v_local S (by walk_at "lk") ⟨typeIs_bytes _ _ _, (fun _ z => by cases z), e_bytes fun t4 => ?_⟩)
    refine b_count (c := 41) hr128 (by decide) hr1 fun t5 => i_sub fun t6 => q _ _ fun _ _ e => S.base _ _ e
  have hT := hTp h₁ S.base
  refine x_assign (e_meth plainAttrs_pattern slot_sub type_sub (v_global (v := .ref a.quoted) B.glo S.base (by simp [Ad.gl]) ⟨hT.1, hT.2, e_bytes fun t1 => v_local S (by walk_at "lk") ?_⟩))
  rcases hcase with ⟨hno, hne, rfl⟩ | ⟨ds, rest, rfl, rfl, hds, hrest⟩
  · refine sub_plain hpat S h128 (by omega) hne hno fun t' h₂ S => store S fun h₃ S => ?_
    exact cont h₃ _ t' hne h128 S (by walk_at "lk") (by walk_at "lk")
  · have hlen : ds.length + rest.length ≤ 9000 := by simp at hsz; omega
    refine sub_quote hpat S (fun x hx => ⟨h128 x (by simp [hx]), hds x hx⟩) (fun x hx => ⟨h128 x (by simp [hx]), fun e => hrest (e ▸ hx)⟩) hlen fun t' h₂ S => store S fun h₃ S => ?_
    exact cont h₃ _ t' (by simp) (fun x hx => by
      simp only [List.mem_cons] at hx
      rcases hx with rfl | rfl | rfl | hx
      · decide
      · decide
      · decide
      · exact h128 x (by simp [hx])) S (by walk_at "lk") (by walk_at "lk")
end
end Mine
end

section
set_option maxRecDepth 100000
set_option Elab.async false
set_option linter.unusedVariables false
set_option linter.unusedSimpArgs false
set_option autoImplicit false
namespace Mine

/-! ## determinants, by the first column -/
noncomputable abbrev Row := Nat → Int
noncomputable def alt (d : List Row → Int) (e : Row → Int) : List Row → List Row → Int
  | _, [] => 0
  | pre, r :: post => e r * d (pre ++ post) - alt d e (pre ++ [r]) post
noncomputable def DD : List Nat → List Row → Int
  | [], _ => 1
  | c :: cs, rows => alt (DD cs) (fun r => r c) [] rows

theorem alt_swap_pre {d : List Row → Int} {e : Row → Int} {n : Nat} (hd : ∀ xs a b ys, (xs ++ a :: b :: ys).length = n → d (xs ++ a :: b :: ys) = - d (xs ++ b :: a :: ys)) {xs : List Row} {a b : Row} :
    ∀ {post ys : List Row}, (xs ++ a :: b :: ys).length + post.length = n + 1 → alt d e (xs ++ a :: b :: ys) post = - alt d e (xs ++ b :: a :: ys) post
  | [], ys, _ => by simp [alt]
  | r :: post, ys, h => by
    have h1 := hd xs a b (ys ++ post) (by simp at h ⊢; omega)
    have h2 := alt_swap_pre (e := e) hd (xs := xs) (a := a) (b := b) (post := post) (ys := ys ++ [r]) (by simp at h ⊢; omega)
    simp only [alt, List.append_assoc, List.cons_append] at h1 h2 ⊢
    rw [h1, h2]; simp only [Int.mul_neg]; omega
theorem alt_swap {d : List Row → Int} {e : Row → Int} {n : Nat} (hd : ∀ xs a b ys, (xs ++ a :: b :: ys).length = n → d (xs ++ a :: b :: ys) = - d (xs ++ b :: a :: ys)) {a b : Row} {ys : List Row} :
    ∀ {xs pre : List Row}, pre.length + (xs ++ a :: b :: ys).length = n + 1 → alt d e pre (xs ++ a :: b :: ys) = - alt d e pre (xs ++ b :: a :: ys)
  | [], pre, h => by
    have h2 := alt_swap_pre (e := e) hd (xs := pre) (a := a) (b := b) (post := ys) (ys := []) (by simp at h ⊢; omega)
    simp only [alt, List.append_assoc, List.cons_append, List.nil_append] at h2 ⊢
    rw [h2]; omega
  | x :: xs, pre, h => by
    have h1 := hd (pre ++ xs) a b ys (by simp at h ⊢; omega)
    have h2 := alt_swap (e := e) hd (a := a) (b := b) (ys := ys) (xs := xs) (pre := pre ++ [x]) (by simp at h ⊢; omega)
    simp only [alt, List.append_assoc, List.cons_append] at h1 h2 ⊢
    rw [h1, h2]; simp only [Int.mul_neg]; omega
theorem DD_swap : ∀ (cs : List Nat) (xs : List Row) (a b : Row) (ys : List Row), (xs ++ a :: b :: ys).length = cs.length → DD cs (xs ++ a :: b :: ys) = - DD cs (xs ++ b :: a :: ys)
  | [], xs, a, b, ys, h => by simp at h
  | c :: cs, xs, a, b, ys, h => alt_swap (pre := []) (n := cs.length) (fun xs a b ys h => DD_swap cs xs a b ys h) (by simp at h ⊢; omega)

noncomputable def lin (α : Int) (a : Row) (β : Int) (b : Row) : Row := fun j => α * a j + β * b j
theorem alt_lin_pre {d : List Row → Int} {e : Row → Int} {n : Nat} {α β : Int} {a b : Row} (hd : ∀ xs ys, (xs ++ a :: ys).length = n → d (xs ++ lin α a β b :: ys) = α * d (xs ++ a :: ys) + β * d (xs ++ b :: ys)) {xs : List Row} :
    ∀ {post ys : List Row}, (xs ++ a :: ys).length + post.length = n + 1 → alt d e (xs ++ lin α a β b :: ys) post = α * alt d e (xs ++ a :: ys) post + β * alt d e (xs ++ b :: ys) post
  | [], ys, _ => by simp [alt]
  | r :: post, ys, h => by
    have h1 := hd xs (ys ++ post) (by simp at h ⊢; omega)
    have h2 := alt_lin_pre (e := e) hd (xs := xs) (post := post) (ys := ys ++ [r]) (by simp at h ⊢; omega)
    simp only [alt, List.append_assoc, List.cons_append] at h1 h2 ⊢
    rw [h1, h2]; grind
theorem alt_lin {d : List Row → Int} {e : Row → Int} {n : Nat} {α β : Int} {a b : Row} (he : e (lin α a β b) = α * e a + β * e b) (hd : ∀ xs ys, (xs ++ a :: ys).length = n → d (xs ++ lin α a β b :: ys) = α * d (xs ++ a :: ys) + β * d (xs ++ b :: ys)) {ys : List Row} :
    ∀ {xs pre : List Row}, pre.length + (xs ++ a :: ys).length = n + 1 → alt d e pre (xs ++ lin α a β b :: ys) = α * alt d e pre (xs ++ a :: ys) + β * alt d e pre (xs ++ b :: ys)
  | [], pre, h => by
    have h2 := alt_lin_pre (e := e) hd (xs := pre) (post := ys) (ys := []) (by simp at h ⊢; omega)
    simp only [alt, List.append_assoc, List.cons_append, List.nil_append] at h2 ⊢
    rw [h2, he]; grind
  | x :: xs, pre, h => by
    have h1 := hd (pre ++ xs) ys (by simp at h ⊢; omega)
    have h2 := alt_lin he hd (ys := ys) (xs := xs) (pre := pre ++ [x]) (by simp at h ⊢; omega)
    simp only [alt, List.append_assoc, List.cons_append] at h1 h2 ⊢
    rw [h1, h2]; grind
theorem DD_lin : ∀ (cs : List Nat) (xs : List Row) (α β : Int) (a b : Row) (ys : List Row), (xs ++ a :: ys).length = cs.length → DD cs (xs ++ lin α a β b :: ys) = α * DD cs (xs ++ a :: ys) + β * DD cs (xs ++ b :: ys)
  | [], xs, α, β, a, b, ys, h => by simp at h
  | c :: cs, xs, α, β, a, b, ys, h => alt_lin (pre := []) (n := cs.length) rfl (fun xs ys h => DD_lin cs xs α β a b ys h) (by simp at h ⊢; omega)
theorem DD_eq (cs : List Nat) (a : Row) (zs : List Row) : ∀ (ys xs : List Row), (xs ++ a :: (ys ++ a :: zs)).length = cs.length → DD cs (xs ++ a :: (ys ++ a :: zs)) = 0
  | [], xs, h => by
    have := DD_swap cs xs a a zs h
    simp only [List.nil_append]; omega
  | y :: ys, xs, h => by
    have h1 := DD_swap cs xs a y (ys ++ a :: zs) h
    have h2 := DD_eq cs a zs ys (xs ++ [y]) (by simp at h ⊢; omega)
    simp only [List.append_assoc, List.cons_append, List.nil_append] at h1 h2 ⊢
    rw [h1, h2]; rfl
theorem DD_swap2 (cs : List Nat) (xs ys zs : List Row) (a b : Row) (h : (xs ++ a :: (ys ++ b :: zs)).length = cs.length) : DD cs (xs ++ a :: (ys ++ b :: zs)) = - DD cs (xs ++ b :: (ys ++ a :: zs)) := by
  have h0 := DD_eq cs (lin 1 a 1 b) zs ys xs (by simpa using h)
  have h1 := DD_lin cs xs 1 1 a b (ys ++ lin 1 a 1 b :: zs) (by simpa using h)
  have h2 := DD_lin cs (xs ++ a :: ys) 1 1 a b zs (by simp at h ⊢; omega)
  have h3 := DD_lin cs (xs ++ b :: ys) 1 1 a b zs (by simp at h ⊢; omega)
  have h4 := DD_eq cs a zs ys xs (by simpa using h)
  have h5 := DD_eq cs b zs ys xs (by simpa using h)
  simp only [List.append_assoc, List.cons_append] at h0 h1 h2 h3 h4 h5
  rw [h0, h2, h3, h4, h5] at h1
  omega
theorem DD_addrows (cs : List Nat) (r0 : Row) (p : Int) (k : Row → Int) : ∀ (rs pre : List Row), (r0 :: (pre ++ rs)).length = cs.length → DD cs (r0 :: (pre ++ rs.map fun r => lin p r (k r) r0)) = p ^ rs.length * DD cs (r0 :: (pre ++ rs))
  | [], pre, h => by simp
  | r :: rs, pre, h => by
    have h1 := DD_lin cs (r0 :: pre) p (k r) r r0 (rs.map fun r => lin p r (k r) r0) (by simp at h ⊢; omega)
    have h2 := DD_eq cs r0 (rs.map fun r => lin p r (k r) r0) pre [] (by simp at h ⊢; omega)
    have h3 := DD_addrows cs r0 p k rs (pre ++ [r]) (by simp at h ⊢; omega)
    simp only [List.append_assoc, List.cons_append, List.nil_append, List.map_cons, List.length_cons] at h1 h2 h3 ⊢
    rw [h1, h2, h3, Int.pow_succ]; grind
theorem DD_scale (cs : List Nat) (α : Int) : ∀ (rs pre : List Row), (pre ++ rs).length = cs.length → DD cs (pre ++ rs.map fun r => lin α r 0 r) = α ^ rs.length * DD cs (pre ++ rs)
  | [], pre, h => by simp
  | r :: rs, pre, h => by
    have h1 := DD_lin cs pre α 0 r r (rs.map fun r => lin α r 0 r) (by simp at h ⊢; omega)
    have h3 := DD_scale cs α rs (pre ++ [r]) (by simp at h ⊢; omega)
    simp only [List.append_assoc, List.cons_append, List.nil_append, List.map_cons, List.length_cons] at h1 h3 ⊢
    rw [h1, h3, Int.pow_succ]; grind
theorem alt_zero {d : List Row → Int} {e : Row → Int} : ∀ {post pre : List Row}, (∀ r ∈ post, e r = 0) → alt d e pre post = 0
  | [], pre, _ => rfl
  | r :: post, pre, h => by
    show e r * _ - _ = 0
    rw [h r (.head _), alt_zero fun x hx => h x (.tail _ hx)]; simp
theorem DD_col0 {c : Nat} {cs : List Nat} {rows : List Row} (h : ∀ r ∈ rows, r c = 0) : DD (c :: cs) rows = 0 := alt_zero h
theorem DD_first {c : Nat} {cs : List Nat} {r0 : Row} {qs : List Row} (h : ∀ r ∈ qs, r c = 0) : DD (c :: cs) (r0 :: qs) = r0 c * DD cs qs := by
  show r0 c * DD cs ([] ++ qs) - alt _ _ _ qs = _
  rw [alt_zero h]; simp
theorem chio {c : Nat} {cs : List Nat} {r0 : Row} {rs : List Row} (h : rs.length = cs.length) :
    r0 c * DD cs (rs.map fun r => lin (r0 c) r (-(r c)) r0) = r0 c ^ rs.length * DD (c :: cs) (r0 :: rs) := by
  have h1 := DD_addrows (c :: cs) r0 (r0 c) (fun r => -(r c)) rs [] (by simpa using h)
  simp only [List.nil_append] at h1
  rw [← h1, DD_first]
  intro r hr
  obtain ⟨q, hq, rfl⟩ := List.mem_map.mp hr
  show r0 c * q c + -(q c) * r0 c = 0
  grind
end Mine
end

section
set_option maxRecDepth 100000
set_option Elab.async false
set_option linter.unusedVariables false
set_option linter.unusedSimpArgs false
set_option autoImplicit false
namespace Mine

noncomputable abbrev row (M : Mx) (i : Nat) : Row := fun j => ent M i j
noncomputable def Inv (M : Mx) (a : Int) (c : Nat) : Prop := ∀ (ρ cs : List Nat), ρ.length = cs.length + 1 → ∀ i0 c0 ρ' , ρ = i0 :: ρ' → (∀ i ∈ ρ, c ≤ i ∧ i < 6) → ∃ X, DD (c0 :: cs) (ρ.map (row M)) = a ^ cs.length * X
noncomputable def fullD (M : Mx) (c : Nat) : Int := DD (List.range' c (6 - c)) ((List.range' c (6 - c)).map (row M))

theorem ent_big {M : Mx} {b : Nat} (t : Mat M b) {i j : Nat} (hj : 6 ≤ j) : ent M i j = 0 := by
  unfold ent
  rw [List.getD_eq_getElem?_getD, List.getD_eq_getElem?_getD]
  cases h : M[i]? with
  | none => simp
  | some r =>
    have := (t.row r (List.mem_of_getElem? h)).1
    simp only [Option.getD_some]
    rw [List.getElem?_eq_none (by omega)]; rfl
theorem elim_ent_new {M : Mx} {b : Nat} (t : Mat M b) {c : Nat} {a : Int} (j : Nat) (hj : j < 6) {k : Nat} : ∀ {n : Nat}, k < n → c + n ≤ 5 → ent (elim M c a n) (c + 1 + k) j = (ent M (c + 1 + k) j * ent M c c - ent M (c + 1 + k) c * ent M c j).fdiv a
  | 0, h, _ => by omega
  | n + 1, h, h5 => by
    show ent (List.set (elim M c a n) (c + 1 + n) (newRow (elim M c a n) (c + 1 + n) c a 6)) _ j = _
    by_cases hk : k = n
    · subst hk
      rw [elim_newRow]
      unfold ent
      rw [List.getD_eq_getElem?_getD (l := List.set _ _ _) , List.getElem?_set_self (by rw [elim_len, t.len]; omega)]
      unfold newRow
      simp only [Option.getD_some]
      rw [List.getD_eq_getElem?_getD, List.getElem?_map, List.getElem?_range hj]
      rfl
    · have ih := elim_ent_new t (c := c) (a := a) j hj (k := k) (n := n) (by omega) (by omega)
      rw [← ih]
      unfold ent
      rw [List.getD_eq_getElem?_getD (l := List.set _ _ _), List.getElem?_set_ne (by omega), ← List.getD_eq_getElem?_getD]
theorem Inv.exact {M : Mx} {a : Int} {c i j : Nat} (I : Inv M a c) (hc : c < 6) (hi : c < i) (hi6 : i < 6) (ha : a ≠ 0) :
    a * (ent M i j * ent M c c - ent M i c * ent M c j).fdiv a = ent M i j * ent M c c - ent M i c * ent M c j := by
  obtain ⟨X, hX⟩ := I [c, i] [j] rfl c c [i] rfl (by intro x hx; simp at hx; omega)
  have e : DD [c, j] ([c, i].map (row M)) = ent M i j * ent M c c - ent M i c * ent M c j := by
    simp only [List.map_cons, List.map_nil, DD, alt, List.nil_append, List.cons_append]
    grind
  rw [e] at hX
  rw [hX]
  simp only [List.length_cons, List.length_nil]
  rw [show a ^ (0 + 1) * X = a * X by rw [Int.pow_succ, Int.pow_zero, Int.one_mul], Int.mul_fdiv_cancel_left _ ha]
theorem Inv.step {M : Mx} {a : Int} {b c : Nat} (t : Mat M b) (I : Inv M a c) (hc : c < 5) (ha : a ≠ 0) (hp : ent M c c ≠ 0) : Inv (elim M c a (5 - c)) (ent M c c) (c + 1) ∧
    ∀ g d0, fullD M c = g * a ^ (5 - c) * d0 → fullD (elim M c a (5 - c)) (c + 1) = g * ent M c c ^ (5 - (c + 1)) * d0 := by
  have hrow : ∀ i, c + 1 ≤ i → i < 6 → (lin a (row (elim M c a (5 - c)) i) 0 (row (elim M c a (5 - c)) i) : Row) = lin (row M c c) (row M i) (-(row M i c)) (row M c) := by
    intro i h1 h2
    funext j
    show a * ent (elim M c a (5 - c)) i j + 0 * _ = ent M c c * ent M i j + -(ent M i c) * ent M c j
    by_cases hj : j < 6
    · have e1 := elim_ent_new t (a := a) j hj (c := c) (k := i - (c + 1)) (n := 5 - c) (by omega) (by omega)
      rw [show c + 1 + (i - (c + 1)) = i by omega] at e1
      rw [e1, I.exact (by omega) (by omega) h2 ha]
      grind
    · rw [ent_big (elim_mat t (c := c) a (5 - c) (by omega)) (j := j) (by omega), ent_big t (i := i) (j := j) (by omega), ent_big t (i := c) (j := j) (by omega)]
      simp
  have main : ∀ (ρ cs : List Nat), ρ.length = cs.length → (∀ i ∈ ρ, c + 1 ≤ i ∧ i < 6) → ∀ X, DD (c :: cs) ((c :: ρ).map (row M)) = a ^ cs.length * X → ent M c c * DD cs (ρ.map (row (elim M c a (5 - c)))) = ent M c c ^ cs.length * X := by
    intro ρ cs hl hm X hX
    have h1 := chio (c := c) (cs := cs) (r0 := row M c) (rs := ρ.map (row M)) (by simpa using hl)
    have h2 := DD_scale cs a (ρ.map (row (elim M c a (5 - c)))) [] (by simpa using hl)
    have e : (ρ.map (row M)).map (fun r => lin (row M c c) r (-(r c)) (row M c)) = (ρ.map (row (elim M c a (5 - c)))).map fun r => lin a r 0 r := by
      rw [List.map_map, List.map_map]
      apply List.map_congr_left
      intro i hi
      exact (hrow i (hm i hi).1 (hm i hi).2).symm
    rw [e] at h1
    simp only [List.nil_append] at h2
    rw [h2] at h1
    rw [List.map_cons] at hX
    rw [hX] at h1
    simp only [List.length_map] at h1
    rw [hl] at h1
    have ha' : a ^ cs.length ≠ 0 := Int.pow_ne_zero ha
    have : a ^ cs.length * (ent M c c * DD cs (ρ.map (row (elim M c a (5 - c))))) = a ^ cs.length * (ent M c c ^ cs.length * X) := by
      rw [Int.mul_left_comm]
      show ent M c c * _ = _
      rw [h1]
      show ent M c c ^ cs.length * _ = _
      rw [Int.mul_left_comm]
    exact Int.eq_of_mul_eq_mul_left ha' this
  constructor
  · intro ρ cs hl i0 c0 ρ' hρ hm
    obtain ⟨X, hX⟩ := I (c :: ρ) (c0 :: cs) (by simp [hl]) c c ρ rfl (by
      intro i hi
      rcases List.mem_cons.mp hi with rfl | hi
      · omega
      · have := hm i hi; omega)
    have h := main ρ (c0 :: cs) (by simp [hl]) hm X hX
    refine ⟨X, ?_⟩
    rw [List.length_cons, Int.pow_succ, Int.mul_comm (ent M c c ^ cs.length) (ent M c c), Int.mul_assoc] at h
    exact Int.eq_of_mul_eq_mul_left hp h
  · intro g d0 hf
    have hr : List.range' c (6 - c) = c :: List.range' (c + 1) (5 - c) := by
      rw [show 6 - c = 5 - c + 1 by omega, List.range'_succ]
    unfold fullD at hf ⊢
    rw [hr] at hf
    have e6 : 6 - (c + 1) = 5 - c := by omega
    rw [e6]
    have hl : (List.range' (c + 1) (5 - c)).length = 5 - c := List.length_range'
    have h := main (List.range' (c + 1) (5 - c)) (List.range' (c + 1) (5 - c)) rfl (by intro i hi; have := List.mem_range'_1.mp hi; omega) (g * d0) (by rw [hf, hl]; grind)
    rw [hl] at h
    obtain ⟨k, hk⟩ : ∃ k, 5 - c = k + 1 := ⟨4 - c, by omega⟩
    have hk2 : 5 - (c + 1) = k := by omega
    rw [hk, Int.pow_succ, Int.mul_comm (ent M c c ^ k) (ent M c c), Int.mul_assoc] at h
    have := Int.eq_of_mul_eq_mul_left hp h
    rw [hk, hk2, this]
    grind
theorem Inv.zero (T : Mx) : Inv T 1 0 := fun ρ cs _ i0 c0 _ _ _ => ⟨DD (c0 :: cs) (ρ.map (row T)), by rw [Int.one_pow, Int.one_mul]⟩

/-! swapping -/
noncomputable def sig (c f i : Nat) : Nat := if i = f then c else if i = c then f else i
theorem row_swapR {M : Mx} {b : Nat} (t : Mat M b) {c f : Nat} (hc : c < 6) (hf : f < 6) {i : Nat} (hi : i < 6) : row (swapR M c f) i = row M (sig c f i) := by
  funext j
  show ent (swapR M c f) i j = ent M (sig c f i) j
  have h1 : c < M.length := by rw [t.len]; exact hc
  have h2 : f < M.length := by rw [t.len]; exact hf
  unfold ent swapR sig
  by_cases e1 : i = f
  · subst e1
    rw [if_pos rfl, List.getD_eq_getElem?_getD (l := List.set _ _ _), List.getElem?_set_self (by rw [List.length_set]; exact h2)]
    rfl
  · rw [if_neg e1, List.getD_eq_getElem?_getD (l := List.set _ _ _), List.getElem?_set_ne (Ne.symm e1)]
    by_cases e2 : i = c
    · subst e2
      rw [if_pos rfl, List.getElem?_set_self h1]; rfl
    · rw [if_neg e2, List.getElem?_set_ne (Ne.symm e2), ← List.getD_eq_getElem?_getD]
theorem Inv.swap {M : Mx} {a : Int} {b c f : Nat} (t : Mat M b) (I : Inv M a c) (hc : c < 6) (hcf : c < f) (hf : f < 6) : Inv (swapR M c f) a c := by
  intro ρ cs hl i0 c0 ρ' hρ hm
  have e : ρ.map (row (swapR M c f)) = (ρ.map (sig c f)).map (row M) := by
    rw [List.map_map]
    apply List.map_congr_left
    intro i hi
    exact row_swapR t hc hf (hm i hi).2
  rw [e]
  refine I (ρ.map (sig c f)) cs (by simpa using hl) (sig c f i0) c0 (ρ'.map (sig c f)) (by rw [hρ]; rfl) ?_
  intro i hi
  obtain ⟨k, hk, rfl⟩ := List.mem_map.mp hi
  have := hm k hk
  unfold sig
  split
  · omega
  · split <;> omega
theorem full_swap {M : Mx} {b c f : Nat} (t : Mat M b) (hc : c < 6) (hcf : c < f) (hf : f < 6) : fullD (swapR M c f) c = - fullD M c := by
  obtain ⟨n, hn⟩ : ∃ n, 6 - c = (n + 1) + (5 - f) + 1 ∧ f = c + n + 1 := ⟨f - c - 1, by omega, by omega⟩
  obtain ⟨hn, rfl⟩ := hn
  have hr : List.range' c (6 - c) = c :: (List.range' (c + 1) n ++ (c + n + 1) :: List.range' (c + n + 2) (5 - (c + n + 1))) := by
    rw [hn, List.range'_succ]
    congr 1
    have : n + 1 + (5 - (c + n + 1)) = n + (1 + (5 - (c + n + 1))) := by omega
    rw [this, ← List.range'_append]
    congr 1
    rw [Nat.add_comm 1, List.range'_succ]
    simp only [Nat.one_mul]
    have e1 : c + 1 + n = c + n + 1 := by omega
    have e2 : c + n + 1 + 1 = c + n + 2 := by omega
    rw [e1]
  unfold fullD
  have e : (List.range' c (6 - c)).map (row (swapR M c (c + n + 1))) = row M (c + n + 1) :: ((List.range' (c + 1) n).map (row M) ++ row M c :: (List.range' (c + n + 2) (5 - (c + n + 1))).map (row M)) := by
    rw [hr, List.map_cons, List.map_append, List.map_cons]
    have s1 : row (swapR M c (c + n + 1)) c = row M (c + n + 1) := by
      rw [row_swapR t hc hf hc]; congr 1; unfold sig; rw [if_neg (by omega), if_pos rfl]
    have s2 : row (swapR M c (c + n + 1)) (c + n + 1) = row M c := by
      rw [row_swapR t hc hf hf]; congr 1; unfold sig; rw [if_pos rfl]
    have s3 : (List.range' (c + 1) n).map (row (swapR M c (c + n + 1))) = (List.range' (c + 1) n).map (row M) := by
      apply List.map_congr_left
      intro i hi
      have := List.mem_range'_1.mp hi
      rw [row_swapR t hc hf (by omega)]; congr 1; unfold sig; rw [if_neg (by omega), if_neg (by omega)]
    have s4 : (List.range' (c + n + 2) (5 - (c + n + 1))).map (row (swapR M c (c + n + 1))) = (List.range' (c + n + 2) (5 - (c + n + 1))).map (row M) := by
      apply List.map_congr_left
      intro i hi
      have := List.mem_range'_1.mp hi
      rw [row_swapR t hc hf (by omega)]; congr 1; unfold sig; rw [if_neg (by omega), if_neg (by omega)]
    rw [s1, s2, s3, s4]
  have e' : (List.range' c (6 - c)).map (row M) = row M c :: ((List.range' (c + 1) n).map (row M) ++ row M (c + n + 1) :: (List.range' (c + n + 2) (5 - (c + n + 1))).map (row M)) := by
    rw [hr, List.map_cons, List.map_append, List.map_cons]
  rw [e, e']
  have hlen : (List.range' c (6 - c)).length = ([] ++ row M (c + n + 1) :: ((List.range' (c + 1) n).map (row M) ++ row M c :: (List.range' (c + n + 2) (5 - (c + n + 1))).map (row M))).length := by
    rw [hr]; simp
  exact DD_swap2 _ [] _ _ _ _ hlen.symm

theorem found_none {M : Mx} {c n : Nat} (h : found M c n = []) : ∀ i, i < n → ent M (c + i) c = 0 := by
  intro i hi
  unfold found at h
  rw [List.map_eq_nil_iff, List.filter_eq_nil_iff] at h
  have := h i (List.mem_range.mpr hi)
  simpa using this
/-- what stands when column c is reached -/
noncomputable def BState (T : Mx) (c : Nat) : Prop :=
  (∃ M g a, detState T c = some (M, g, a) ∧ Mat M (bb c) ∧ a ≠ 0 ∧ g * g = 1 ∧ Inv M a c ∧ fullD M c = g * a ^ (5 - c) * fullD T 0) ∨ (detState T c = none ∧ fullD T 0 = 0)
/-- one step up to the pivot -/
theorem pivot {T : Mx} {c : Nat} (hc : c < 6) (h : BState T c) :
    (detState T (c + 1) = none ∧ fullD T 0 = 0) ∨ ∃ M g a, detState T (c + 1) = some (elim M c a (5 - c), g, ent (elim M c a (5 - c)) c c) ∧ Mat M (bb c) ∧ a ≠ 0 ∧ g * g = 1 ∧ ent M c c ≠ 0 ∧ Inv M a c ∧ fullD M c = g * a ^ (5 - c) * fullD T 0 := by
  rcases h with ⟨M, g, a, hst, hM, ha, hg, I, hf⟩ | ⟨h1, h2⟩
  · have hs : detState T (c + 1) = detStep c (M, g, a) := by show (detState T c).bind _ = _; rw [hst]; rfl
    cases hfd : found M c (6 - c) with
    | nil =>
      left
      refine ⟨by rw [hs]; unfold detStep; simp only [hfd], ?_⟩
      have hz := found_none hfd
      have h0 : fullD M c = 0 := by
        unfold fullD
        obtain ⟨k, hk⟩ : ∃ k, 6 - c = k + 1 := ⟨5 - c, by omega⟩
        have e : List.range' c (6 - c) = c :: List.range' (c + 1) k := by rw [hk, List.range'_succ]
        conv => lhs; arg 1; rw [e]
        refine DD_col0 fun r hr => ?_
        obtain ⟨i, hi, rfl⟩ := List.mem_map.mp hr
        have := List.mem_range'_1.mp hi
        have := hz (i - c) (by omega)
        rw [show c + (i - c) = i by omega] at this
        exact this
      rw [hf] at h0
      rcases Int.mul_eq_zero.mp h0 with h1 | h1
      · rcases Int.mul_eq_zero.mp h1 with h2 | h2
        · rw [h2] at hg; simp at hg
        · exact absurd h2 (Int.pow_ne_zero ha)
      · exact h1
    | cons f fl =>
      right
      obtain ⟨i, hi, hfi, hne⟩ := found_head hfd
      by_cases hfc : f = (c : Int)
      · have : i = 0 := by omega
        subst this
        refine ⟨M, g, a, ?_, hM, ha, hg, hne, I, hf⟩
        rw [hs]; unfold detStep; simp only [hfd, hfc, if_true]
      · have hi0 : i ≠ 0 := by rintro rfl; exact hfc hfi
        refine ⟨swapR M c (c + i), -g, a, ?_, swapR_mat hM hc (by omega), ha, by grind, by rw [ent_swapR hM hc (by omega) (by omega)]; exact hne, I.swap hM hc (by omega) (by omega), ?_⟩
        · rw [hs]; unfold detStep
          simp only [hfd, hfc, if_false]
          rw [hfi, Int.toNat_natCast]
        · rw [full_swap hM hc (by omega) (by omega), hf]; grind
  · exact .inl ⟨by show (detState T c).bind _ = _; rw [h1]; rfl, h2⟩
theorem BState.next {T : Mx} {c : Nat} (hc : c < 5) (h : BState T c) : BState T (c + 1) := by
  rcases pivot (by omega) h with h | ⟨M, g, a, hst, hM, ha, hg, hp, I, hf⟩
  · exact .inr h
  · have e : ent (elim M c a (5 - c)) c c = ent M c c := elim_ent _ _ _ _ _ _ (.inl (Nat.le_refl _))
    obtain ⟨I', F'⟩ := I.step hM hc ha hp
    rw [e] at hst
    exact .inl ⟨_, g, _, hst, elim_mat hM a (5 - c) (by omega), hp, hg, I', F' _ _ hf⟩
theorem BState.all {T : Mx} (t : Mat T 14) : ∀ c, c < 6 → BState T c
  | 0, _ => .inl ⟨T, 1, 1, rfl, t, by decide, by decide, Inv.zero T, by rw [Int.one_pow]; grind⟩
  | c + 1, h => (BState.all t c (by omega)).next (by omega)
theorem bareiss {T : Mx} (t : Mat T 14) : detF T = fullD T 0 := by
  rcases pivot (by decide) (BState.all t 5 (by decide)) with ⟨h1, h2⟩ | ⟨M, g, a, hst, hM, ha, hg, hp, I, hf⟩
  · unfold detF
    rw [show detState T 6 = none from h1, h2]
  · unfold detF
    rw [show detState T 6 = _ from hst]
    show g * ent (elim M 5 a 0) 5 5 = _
    have e : fullD M 5 = ent M 5 5 := by
      show alt (DD []) (fun r => r 5) [] [row M 5] = _
      simp [alt, DD]
    rw [e] at hf
    show g * ent M 5 5 = _
    rw [hf]
    simp only [Nat.sub_self, Int.pow_zero, Int.mul_one]
    rw [← Int.mul_assoc, hg, Int.one_mul]
noncomputable def Pf (T : Mx) : Int :=
  ent T 0 1 * (ent T 2 3 * ent T 4 5 - ent T 2 4 * ent T 3 5 + ent T 2 5 * ent T 3 4) - ent T 0 2 * (ent T 1 3 * ent T 4 5 - ent T 1 4 * ent T 3 5 + ent T 1 5 * ent T 3 4) + ent T 0 3 * (ent T 1 2 * ent T 4 5 - ent T 1 4 * ent T 2 5 + ent T 1 5 * ent T 2 4) -
    ent T 0 4 * (ent T 1 2 * ent T 3 5 - ent T 1 3 * ent T 2 5 + ent T 1 5 * ent T 2 3) + ent T 0 5 * (ent T 1 2 * ent T 3 4 - ent T 1 3 * ent T 2 4 + ent T 1 4 * ent T 2 3)
noncomputable def vec (l : List Int) : Row := fun j => l.getD j 0
theorem pf_square (a b c d e f g h i j k l m n o : Int) :
    DD [0, 1, 2, 3, 4, 5] [vec [0, a, b, c, d, e], vec [-a, 0, f, g, h, i], vec [-b, -f, 0, j, k, l], vec [-c, -g, -j, 0, m, n], vec [-d, -h, -k, -m, 0, o], vec [-e, -i, -l, -n, -o, 0]] =
    (a * (j * o - k * n + l * m) - b * (g * o - h * n + i * m) + c * (f * o - h * l + i * k) - d * (f * n - g * l + i * j) + e * (f * m - g * k + h * j)) ^ 2 := by
  simp only [DD, alt, vec, List.nil_append, List.cons_append, List.getD_cons_zero, List.getD_cons_succ, Int.mul_one, Int.zero_mul, Int.sub_zero]
  grind
theorem row_vec {T : Mx} (t : Tab T) {i : Nat} (hi : i < 6) : row T i = vec [ent T i 0, ent T i 1, ent T i 2, ent T i 3, ent T i 4, ent T i 5] := by
  funext j
  show ent T i j = List.getD _ j 0
  have tm : Mat T 14 := ⟨t.len, fun r hr => ⟨(t.row r hr).1, fun x hx => Nat.lt_of_le_of_lt ((t.row r hr).2 x hx) (by decide)⟩⟩
  match j with
  | 0 | 1 | 2 | 3 | 4 | 5 => rfl
  | j + 6 => rw [ent_big tm (by omega)]; rfl
theorem Tab.mat {T : Mx} (t : Tab T) : Mat T 14 := ⟨t.len, fun r hr => ⟨(t.row r hr).1, fun x hx => Nat.lt_of_le_of_lt ((t.row r hr).2 x hx) (by decide)⟩⟩
theorem full_pf {T : Mx} (t : Tab T) (s : Skew T) : fullD T 0 = Pf T ^ 2 := by
  have e : fullD T 0 = DD [0, 1, 2, 3, 4, 5] [row T 0, row T 1, row T 2, row T 3, row T 4, row T 5] := rfl
  have d : ∀ i, i < 6 → ent T i i = 0 := fun i hi => by have := s i i hi hi; omega
  rw [e, row_vec t (i := 0) (by decide), row_vec t (i := 1) (by decide), row_vec t (i := 2) (by decide), row_vec t (i := 3) (by decide), row_vec t (i := 4) (by decide), row_vec t (i := 5) (by decide)]
  rw [d 0 (by decide), d 1 (by decide), d 2 (by decide), d 3 (by decide), d 4 (by decide), d 5 (by decide)]
  rw [s 1 0 (by decide) (by decide), s 2 0 (by decide) (by decide), s 2 1 (by decide) (by decide), s 3 0 (by decide) (by decide), s 3 1 (by decide) (by decide), s 3 2 (by decide) (by decide), s 4 0 (by decide) (by decide), s 4 1 (by decide) (by decide),
    s 4 2 (by decide) (by decide), s 4 3 (by decide) (by decide), s 5 0 (by decide) (by decide), s 5 1 (by decide) (by decide), s 5 2 (by decide) (by decide), s 5 3 (by decide) (by decide), s 5 4 (by decide) (by decide)]
  exact pf_square ..
theorem det_pf {T : Mx} (t : Tab T) (s : Skew T) : detF T = Pf T ^ 2 := (bareiss t.mat).trans (full_pf t s)
end Mine
end

section
set_option maxRecDepth 100000
set_option Elab.async false
set_option linter.unusedVariables false
set_option linter.unusedSimpArgs false
set_option autoImplicit false
namespace Mine
open PySem

/-! ## reading a line, in plain words -/
noncomputable def partnerF (ps : Pairs) : List (Int × Int) := ps.foldl (fun acc p => dput acc p.2 p.1) []
theorem partnerF_take {ps : Pairs} {i : Nat} {p : Int × Int} (h : ps[i]? = some p) : partnerF (ps.take (i + 1)) = dput (partnerF (ps.take i)) p.2 p.1 := by
  unfold partnerF; rw [List.take_add_one, h]; simp
theorem partnerF_len (ps : Pairs) : (partnerF ps).length ≤ ps.length := by
  have : ∀ acc : List (Int × Int), (ps.foldl (fun acc p => dput acc p.2 p.1) acc).length ≤ acc.length + ps.length := by
    induction ps with
    | nil => intro acc; simp
    | cons p r ih =>
      intro acc
      rw [List.foldl_cons, List.length_cons]
      have h1 := ih (dput acc p.2 p.1)
      have h2 := dput_len acc p.2 p.1
      omega
  simpa [partnerF] using this []
noncomputable def runF (ps : Pairs) : Nat → List Int
  | 0 => []
  | i + 1 => match dget (partnerF ps) (i : Int) with
    | some low => (runF ps i).eraseIdx (cntLe (runF ps i) low - 1)
    | none => runF ps i ++ [(i : Int)]
noncomputable def withinF (ps : Pairs) : Nat → Int
  | 0 => 0
  | i + 1 => match dget (partnerF ps) (i : Int) with
    | some low => withinF ps i + ((cntLe (runF ps i) low : Int) - 1)
    | none => withinF ps i
noncomputable def acrossF (ps : Pairs) : Nat → Int
  | 0 => 0
  | i + 1 => match dget (partnerF ps) (i : Int) with
    | some low => acrossF ps i + (((runF ps i).length : Int) - cntLe (runF ps i) low)
    | none => acrossF ps i
noncomputable def prodR (T : Mx) (ps : Pairs) : Nat → Int
  | 0 => 1
  | i + 1 => match dget (partnerF ps) (i : Int) with
    | some low => prodR T ps i * ent T low.toNat i
    | none => prodR T ps i
noncomputable def segF (T : Mx) (ps : Pairs) (i : Nat) : List Nat := match dget (partnerF ps) (i : Int) with
  | some low => closeP (ent T low.toNat i)
  | none => [40]
noncomputable def goodB (ps : Pairs) : Bool := decide (ps.length = 3) && (List.range 6).all fun i => decide ((runF ps i).Pairwise (· < ·)) && decide ((runF ps i).length ≤ 6) && match dget (partnerF ps) (i : Int) with
  | some low => decide (0 ≤ low) && decide (low < 6) && decide (1 ≤ cntLe (runF ps i) low) && decide (cntLe (runF ps i) low ≤ (runF ps i).length)
  | none => true
structure Good (T : Mx) (ps : Pairs) : Prop where
  len : ps.length = 3
  run : ∀ i, i < 6 → (runF ps i).Pairwise (· < ·) ∧ (runF ps i).length ≤ 6
  low : ∀ i : Nat, i < 6 → ∀ low, dget (partnerF ps) (i : Int) = some low → 0 ≤ low ∧ low < 6 ∧ 1 ≤ cntLe (runF ps i) low ∧ cntLe (runF ps i) low ≤ (runF ps i).length
  seg : piecesF T ps = (List.range 6).map (segF T ps)
noncomputable def W15 : List Pairs := [
  [(0, 1), (2, 3), (4, 5)], [(0, 1), (2, 4), (3, 5)], [(0, 1), (2, 5), (3, 4)],
  [(0, 2), (1, 3), (4, 5)], [(0, 2), (1, 4), (3, 5)], [(0, 2), (1, 5), (3, 4)],
  [(0, 3), (1, 2), (4, 5)], [(0, 3), (1, 4), (2, 5)], [(0, 3), (1, 5), (2, 4)],
  [(0, 4), (1, 2), (3, 5)], [(0, 4), (1, 3), (2, 5)], [(0, 4), (1, 5), (2, 3)],
  [(0, 5), (1, 2), (3, 4)], [(0, 5), (1, 3), (2, 4)], [(0, 5), (1, 4), (2, 3)]]
theorem ways_W15 : waysF 6 [0, 1, 2, 3, 4, 5] = W15 := by decide +kernel
theorem good_of {T : Mx} {ps : Pairs} (h : goodB ps = true) (hs : piecesF T ps = (List.range 6).map (segF T ps)) : Good T ps := by
  unfold goodB at h
  rw [Bool.and_eq_true] at h
  obtain ⟨h1, h2⟩ := h
  rw [List.all_eq_true] at h2
  have g : ∀ i, i < 6 → _ := fun i hi => h2 i (List.mem_range.mpr hi)
  refine ⟨of_decide_eq_true h1, fun i hi => ?_, fun i hi low hl => ?_, hs⟩
  · have := g i hi
    rw [Bool.and_eq_true, Bool.and_eq_true] at this
    exact ⟨of_decide_eq_true this.1.1, of_decide_eq_true this.1.2⟩
  · have := g i hi
    rw [Bool.and_eq_true, hl] at this
    have := this.2
    simp only [Bool.and_eq_true, decide_eq_true_eq] at this
    exact ⟨this.1.1.1, this.1.1.2, this.1.2, this.2⟩
theorem W15_mem {P : Pairs → Prop} (h : ∀ i, (hi : i < 15) → P (W15[i]'hi)) : ∀ ps ∈ W15, P ps := by
  intro ps hps
  obtain ⟨i, hi, rfl⟩ := List.mem_iff_getElem.mp hps
  exact h i hi
theorem W15_good (T : Mx) : ∀ ps ∈ W15, Good T ps := by
  intro ps hps
  refine good_of ?_ ?_
  · have : ∀ ps ∈ W15, goodB ps = true := by decide +kernel
    exact this ps hps
  · simp only [W15, List.mem_cons, List.not_mem_nil, or_false] at hps
    rcases hps with rfl | rfl | rfl | rfl | rfl | rfl | rfl | rfl | rfl | rfl | rfl | rfl | rfl | rfl | rfl <;> rfl
theorem W15_valid : ∀ ps ∈ W15, ∀ p ∈ ps, Valid p := by
  have : ∀ ps ∈ W15, ∀ p ∈ ps, 0 ≤ p.1 ∧ p.1 < 6 ∧ 0 ≤ p.2 ∧ p.2 < 6 := by decide +kernel
  exact this
theorem W15_across : ∀ ps ∈ W15, acrossF ps 6 = (cross ps : Int) := by decide +kernel
theorem W15_prod (T : Mx) : ∀ ps ∈ W15, prodR T ps 6 = prodF T ps := by
  intro ps hps
  simp only [W15, List.mem_cons, List.not_mem_nil, or_false] at hps
  rcases hps with rfl | rfl | rfl | rfl | rfl | rfl | rfl | rfl | rfl | rfl | rfl | rfl | rfl | rfl | rfl
  all_goals
    show 1 * _ * _ * _ = 1 * _ * _ * _
    simp only [Int.one_mul]
    first
      | rfl
      | exact Int.mul_right_comm _ _ _
      | (rw [Int.mul_comm, ← Int.mul_assoc]; rfl)
      | (show ent T _ _ * ent T _ _ * ent T _ _ = ent T _ _ * ent T _ _ * ent T _ _; ac_rfl)
theorem W15_within : (W15.map fun ps => withinF ps 6).sum = 15 ∧ (W15.map fun ps => acrossF ps 6).sum = 15 := by decide +kernel

/-! what the depth is counted on -/
theorem closeP_mem {p : Int} (hp : p.natAbs ≤ 10000) : ∀ x ∈ closeP p, x < 128 := by
  intro x hx
  obtain ⟨-, -, -, hm⟩ := markOf_mem p
  obtain ⟨-, -, hd⟩ := reads_digs hp
  unfold closeP at hx
  simp only [List.mem_cons, List.mem_append, List.not_mem_nil, or_false] at hx
  rcases hx with rfl | rfl | rfl | rfl | h | rfl | rfl | rfl
  all_goals first | omega | skip
  rcases Nat.lt_or_ge x 128 with h' | h'
  · exact h'
  · exact absurd h (hd x ⟨by omega, by omega⟩)
theorem digs_free {p : Int} (hp : p.natAbs ≤ 10000) {k : Nat} (h : k ≠ 45 ∧ (k < 48 ∨ 57 < k)) : ∀ x ∈ digs p, x ≠ k := by
  intro x hx e
  exact (reads_digs hp).2.2 k h (e ▸ hx)
theorem count_free {l : List Nat} {k : Nat} (h : ∀ x ∈ l, x ≠ k) : l.filter (· == k) = [] := by
  rw [List.filter_eq_nil_iff]
  intro x hx
  simpa using h x hx
theorem bare_open {n : Nat} (h : 1 ≤ n) (h2 : n ≤ 100) : Bare (List.replicate n 40) (List.replicate n 40) ∧ (opens (List.replicate n 40) : Int) - closes (List.replicate n 40) = n := by
  refine ⟨⟨fun x hx => by rw [List.eq_of_mem_replicate hx]; decide, by simp; omega, .inl ⟨fun hx => by have := List.eq_of_mem_replicate hx; omega, by simpa using h, rfl⟩⟩, ?_⟩
  unfold opens closes
  rw [List.filter_replicate, List.filter_replicate]
  simp
theorem bare_close {p : Int} (hp : p.natAbs ≤ 10000) {n : Nat} (h2 : n ≤ 100) : ∃ r, Bare (closeP p ++ List.replicate n 40) r ∧ (opens r : Int) - closes r = (n : Int) - 1 := by
  obtain ⟨-, -, -, hm⟩ := markOf_mem p
  obtain ⟨-, hdl, -⟩ := reads_digs hp
  have h128 : ∀ x ∈ closeP p ++ List.replicate n 40, x < 128 := by
    intro x hx
    rcases List.mem_append.mp hx with h | h
    · exact closeP_mem hp x h
    · rw [List.eq_of_mem_replicate h]; decide
  have hlen : (closeP p ++ List.replicate n 40).length ≤ 9000 := by unfold closeP; simp; omega
  by_cases h34 : markOf p = 34
  · refine ⟨40 :: 41 :: 41 :: List.replicate n 40, ⟨h128, hlen, .inr ⟨digs p, List.replicate n 40, ?_, rfl, fun x hx => ⟨digs_free hp ⟨by decide, by decide⟩ x hx, digs_free hp ⟨by decide, by decide⟩ x hx⟩, fun hx => by have := List.eq_of_mem_replicate hx; omega⟩⟩, ?_⟩
    · unfold closeP; rw [h34]; simp
    · unfold opens closes
      simp [List.filter_replicate]
      omega
  · refine ⟨_, ⟨h128, hlen, .inl ⟨?_, by unfold closeP; simp, rfl⟩⟩, ?_⟩
    · intro hx
      rcases List.mem_append.mp hx with h | h
      · unfold closeP at h
        simp only [List.mem_cons, List.mem_append, List.not_mem_nil, or_false] at h
        rcases h with h | h | h | h | h | h | h | h
        all_goals first | omega | exact digs_free hp ⟨by decide, by decide⟩ _ h rfl
      · have := List.eq_of_mem_replicate h; omega
    · have e1 : (digs p).filter (· == 40) = [] := count_free (digs_free hp ⟨by decide, by decide⟩)
      have e2 : (digs p).filter (· == 41) = [] := count_free (digs_free hp ⟨by decide, by decide⟩)
      have m1 : (markOf p == 40) = false := by simp; omega
      have m2 : (markOf p == 41) = false := by simp; omega
      unfold opens closes closeP
      simp [List.filter_append, List.filter_cons, List.filter_replicate, e1, e2, m1, m2]
      omega
end Mine
end

section
set_option maxRecDepth 100000
set_option Elab.async false
set_option linter.unusedVariables false
set_option linter.unusedSimpArgs false
set_option autoImplicit false
namespace Mine

/-! ## the totals, in plain words -/
theorem dget_none {ds : List (Int × Int)} {k : Int} : dget ds k = none ↔ k ∉ ds.map (·.1) := by
  unfold dget
  rw [Option.map_eq_none_iff, List.find?_eq_none]
  constructor
  · intro h hm
    obtain ⟨p, hp, e⟩ := List.mem_map.mp hm
    have := h p hp
    simp [e] at this
  · intro h p hp
    simp only [decide_eq_true_eq]
    intro e
    exact h (List.mem_map.mpr ⟨p, hp, e⟩)
theorem dput_new {ds : List (Int × Int)} {k v : Int} (h : k ∉ ds.map (·.1)) : dput ds k v = ds ++ [(k, v)] := by
  unfold dput
  rw [if_neg]
  intro hm
  rw [List.any_eq_true] at hm
  obtain ⟨p, hp, e⟩ := hm
  exact h (List.mem_map.mpr ⟨p, hp, by simpa using e⟩)
theorem dput_keys (ds : List (Int × Int)) (k v : Int) : (dput ds k v).map (·.1) = if k ∈ ds.map (·.1) then ds.map (·.1) else ds.map (·.1) ++ [k] := by
  by_cases h : k ∈ ds.map (·.1)
  · rw [if_pos h]
    unfold dput
    rw [if_pos]
    · rw [List.map_map]
      apply List.map_congr_left
      intro p _
      show (if p.1 = k then (p.1, v) else p).1 = p.1
      split <;> rfl
    · rw [List.any_eq_true]
      obtain ⟨p, hp, e⟩ := List.mem_map.mp h
      exact ⟨p, hp, by simpa using e⟩
  · rw [if_neg h, dput_new h]; simp
theorem dput_nodup {ds : List (Int × Int)} (h : (ds.map (·.1)).Nodup) (k v : Int) : ((dput ds k v).map (·.1)).Nodup := by
  rw [dput_keys]
  split
  · exact h
  · rename_i hk
    rw [List.nodup_append]
    exact ⟨h, by simp, fun x hx y hy => by simp at hy; subst hy; intro e; exact hk (e ▸ hx)⟩
theorem putAll_id : ∀ (t acc : List (Int × Int)), ((acc ++ t).map (·.1)).Nodup → putAll acc t = acc ++ t
  | [], acc, _ => by simp [putAll]
  | p :: r, acc, h => by
    have hp : p.1 ∉ acc.map (·.1) := by
      rw [List.map_append, List.nodup_append] at h
      intro hm
      exact h.2.2 p.1 hm p.1 (by simp) rfl
    show putAll (dput acc p.1 p.2) r = _
    rw [dput_new hp, putAll_id r (acc ++ [(p.1, p.2)]) (by simpa using h)]
    simp
theorem dueF_nodup (T : Mx) (ws : List Pairs) : ((dueF T ws).map (·.1)).Nodup := by
  unfold dueF
  have : ∀ acc : List (Int × Int), (acc.map (·.1)).Nodup → ((ws.foldl (dueStep T) acc).map (·.1)).Nodup := by
    induction ws with
    | nil => intro acc h; exact h
    | cons p r ih => intro acc h; exact ih _ (dput_nodup h _ _)
  exact this [] (by simp)
theorem addC_due {T : Mx} {t : List (Int × Int)} {ps : Pairs} {k v : Int} (hn : (t.map (·.1)).Nodup) (hk : k = (cross ps : Int)) (hv : v = prodF T ps) : addC t [(k, v)] = dueStep T t ps := by
  subst hk hv
  unfold addC
  rw [putAll_id t [] (by simpa using hn), List.nil_append]
  show addOne t ((cross ps : Int), prodF T ps) = _
  unfold addOne dueStep
  dsimp only
  cases dget t (cross ps : Int) with
  | none => simp
  | some x => rfl
noncomputable def keepF (X : List (Int × Int)) (par : Int) : List (Int × Int) := X.foldl (fun acc p => if p.1.fmod 2 = par then dput acc p.1 p.2 else acc) []
theorem keepF_take {X : List (Int × Int)} {par : Int} {i : Nat} {p : Int × Int} (h : X[i]? = some p) : keepF (X.take (i + 1)) par = if p.1.fmod 2 = par then dput (keepF (X.take i) par) p.1 p.2 else keepF (X.take i) par := by
  unfold keepF; rw [List.take_add_one, h]; simp
theorem keepF_len (X : List (Int × Int)) (par : Int) : (keepF X par).length ≤ X.length := by
  have : ∀ acc : List (Int × Int), (X.foldl (fun acc p => if p.1.fmod 2 = par then dput acc p.1 p.2 else acc) acc).length ≤ acc.length + X.length := by
    induction X with
    | nil => intro acc; simp
    | cons p r ih =>
      intro acc
      rw [List.foldl_cons, List.length_cons]
      split
      · have h1 := ih (dput acc p.1 p.2)
        have h2 := dput_len acc p.1 p.2
        omega
      · have h1 := ih acc
        omega
  simpa [keepF] using this []
noncomputable def foldG (l : List (Int × Int)) : List (Int × Int) := l.foldl (fun acc p => dput acc p.1 ((dget acc p.1).getD 0 + p.2)) []
theorem foldG15 (x0 x1 x2 x3 x4 x5 x6 x7 x8 x9 x10 x11 x12 x13 x14 : Int) : foldG [(0, x0), (1, x1), (0, x2), (1, x3), (2, x4), (1, x5), (0, x6), (3, x7), (2, x8), (1, x9), (2, x10), (1, x11), (0, x12), (1, x13), (0, x14)] = [(0, 0 + x0 + x2 + x6 + x12 + x14), (1, 0 + x1 + x3 + x5 + x9 + x11 + x13), (2, 0 + x4 + x8 + x10), (3, 0 + x7)] := by
  simp [foldG, dput, dget]
theorem dueF_foldG (T : Mx) (ws : List Pairs) : dueF T ws = foldG (ws.map fun ps => ((cross ps : Int), prodF T ps)) := by
  unfold dueF foldG
  rw [List.foldl_map]
  rfl
theorem crosses : W15.map cross = [0, 1, 0, 1, 2, 1, 0, 3, 2, 1, 2, 1, 0, 1, 0] := by decide +kernel
theorem pairs15 (T : Mx) : (W15.map fun ps => ((cross ps : Int), prodF T ps)) = [(0, prodF T [(0, 1), (2, 3), (4, 5)]), (1, prodF T [(0, 1), (2, 4), (3, 5)]), (0, prodF T [(0, 1), (2, 5), (3, 4)]), (1, prodF T [(0, 2), (1, 3), (4, 5)]), (2, prodF T [(0, 2), (1, 4), (3, 5)]), (1, prodF T [(0, 2), (1, 5), (3, 4)]), (0, prodF T [(0, 3), (1, 2), (4, 5)]), (3, prodF T [(0, 3), (1, 4), (2, 5)]), (2, prodF T [(0, 3), (1, 5), (2, 4)]), (1, prodF T [(0, 4), (1, 2), (3, 5)]), (2, prodF T [(0, 4), (1, 3), (2, 5)]), (1, prodF T [(0, 4), (1, 5), (2, 3)]), (0, prodF T [(0, 5), (1, 2), (3, 4)]), (1, prodF T [(0, 5), (1, 3), (2, 4)]), (0, prodF T [(0, 5), (1, 4), (2, 3)])] := by
  have h : (W15.map fun ps => ((cross ps : Int), prodF T ps)) = List.zipWith (fun (c : Nat) (ps : Pairs) => ((c : Int), prodF T ps)) (W15.map cross) W15 := by
    rw [List.zipWith_map_left]
    induction W15 with
    | nil => rfl
    | cons p r ih => rw [List.map_cons, List.zipWith_cons_cons, ih]
  rw [h, crosses]
  rfl
/-- the products by their crossings -/
theorem due_four (T : Mx) : ∃ a b c d, dueF T W15 = [(0, a), (1, b), (2, c), (3, d)] ∧ a - b + c - d = Pf T ∧ a + b + c + d = (W15.map (prodF T)).sum := by
  refine ⟨_, _, _, _, by rw [dueF_foldG, pairs15, foldG15], ?_, ?_⟩
  · have hp : ∀ p q r : Int × Int, prodF T [p, q, r] = entP T p * entP T q * entP T r := fun p q r => by
      show 1 * _ * _ * _ = _; rw [Int.one_mul]
    simp only [hp]
    show (0 + ent T 0 1 * ent T 2 3 * ent T 4 5 + ent T 0 1 * ent T 2 5 * ent T 3 4 + ent T 0 3 * ent T 1 2 * ent T 4 5 + ent T 0 5 * ent T 1 2 * ent T 3 4 + ent T 0 5 * ent T 1 4 * ent T 2 3) - (0 + ent T 0 1 * ent T 2 4 * ent T 3 5 + ent T 0 2 * ent T 1 3 * ent T 4 5 + ent T 0 2 * ent T 1 5 * ent T 3 4 + ent T 0 4 * ent T 1 2 * ent T 3 5 + ent T 0 4 * ent T 1 5 * ent T 2 3 + ent T 0 5 * ent T 1 3 * ent T 2 4) + (0 + ent T 0 2 * ent T 1 4 * ent T 3 5 + ent T 0 3 * ent T 1 5 * ent T 2 4 + ent T 0 4 * ent T 1 3 * ent T 2 5) - (0 + ent T 0 3 * ent T 1 4 * ent T 2 5) = Pf T
    unfold Pf
    grind
  · simp only [W15, List.map_cons, List.map_nil, List.sum_cons, List.sum_nil]
    omega
end Mine
end

section
set_option maxRecDepth 100000
set_option Elab.async false
set_option linter.unusedVariables false
set_option linter.unusedSimpArgs false
set_option autoImplicit false
namespace Mine
open PySem PySem.Calls PySem.W PyProof.Rows
local macro_rules | `(tactic| walk_at "lk") => `(tactic| first | assumption | exact upd_self | (refine' upd_ne (by decide) ?lkE; case lkE => walk_at "lk"))

section
variable {prog : Program} {w : World} {A : Around} {env : Env} {h : Heap} {κ fr : Know} {L : Addr} {m : Loc} {own own' : List (Addr × Res)}
variable {P : Value → Heap → Prop} {PU : Unit → Heap → Prop}
theorem glued_empty : ∀ (segs : List (List Nat)), segs ≠ [] → Builtin.Str.glued (Tx []) (segs.map Tx) = Tx segs.flatten
  | [], h => absurd rfl h
  | s :: r, _ => by
    unfold Builtin.Str.glued
    have : ∀ (r : List (List Nat)) (acc : Array Nat), (r.map Tx).foldl (fun acc p => acc ++ (Tx []).cps ++ p.cps) acc = acc ++ r.flatten.toArray := by
      intro r
      induction r with
      | nil => intro acc; simp
      | cons x r ih =>
        intro acc
        rw [List.map_cons, List.foldl_cons, ih]
        apply Array.toList_inj.mp
        simp
    simp only [List.map_cons, List.drop_succ_cons, List.drop_zero, List.headD_cons]
    rw [this]
    show (⟨_⟩ : Str) = ⟨_⟩
    congr 1
    apply Array.toList_inj.mp
    simp
theorem s_join {v : Value} {segs : List (List Nat)} {kn : Know} {t : Tok} (hk : Sub kn h) (r : Rep prog w kn v (.lst (segs.map dTx))) (hne : segs ≠ []) (hsz : segs.flatten.length ≤ 10000) (q : ∀ t', P (.str (Tx segs.flatten) t') h) : WP prog w A (call (.builtin "str.join") [.str (Tx []) t, v] []) h P := by
  obtain ⟨D, vs, n, rfl, e, rs⟩ := r.list
  have hs : StrsAre vs (segs.map Tx) := Reps.strs (prog := prog) (w := w) (k := kn) (by rw [List.map_map]; exact rs)
  refine .of fun Q E gs dr tk os c => join_list (LO.isList (hk _ _ e)) hs ?_ fun t' k => ?_
  · rw [List.map_map]
    have h1 : (segs.map (Str.length ∘ Tx)).sum = segs.flatten.length := by
      rw [List.length_flatten]
      congr 1
    rw [h1, Tx.len]; simp only [List.length_nil, Nat.mul_zero, Nat.add_zero]; omega
  · have : Txt.join (Tx []) (segs.map Tx) = Tx segs.flatten := glued_empty segs hne
    rw [this]; exact c _ _ _ (q _)
theorem d_setc {a : Addr} {kvs : List (Int × Value)} {k : Int} {t : Tok} {v : Value} (S : Sat prog w κ fr L m own h) (U : OwnUpd a (.dct kvs) (.dct (stored kvs k v)) own own') (hn : kvs.length ≤ 10000)
    (q : ∀ h', Sat prog w κ fr L m own' h' → PU () h') : WP prog w A (dictSet a (.int k t) v) h PU := by
  obtain ⟨o, e, x⟩ := S.dct U.mem
  refine .of fun Q E gs dr tk os c => wpAny_dictSet_pairs (knd := intKind prog w) (is_int k t) (DictO.dictOf e x) (fun h' hd hs => ?_) (by rw [sizeLine_eq]; omega)
  obtain ⟨o', e', x'⟩ := DictO.of hd
  exact c _ _ _ (q h' (S.update U hs e' x'))
end
noncomputable def lineF (T : Mx) (ps : Pairs) (i : Nat) : List Nat := ((piecesF T ps).take i).flatten
theorem lineF_succ {T : Mx} {ps : Pairs} (g : Good T ps) {i : Nat} (hi : i < 6) : lineF T ps (i + 1) = lineF T ps i ++ segF T ps i := by
  unfold lineF
  rw [g.seg, List.take_add_one]
  have : ((List.range 6).map (segF T ps))[i]? = some (segF T ps i) := by rw [List.getElem?_map, List.getElem?_range hi]; rfl
  rw [this]; simp
theorem lineF_all {T : Mx} {ps : Pairs} (g : Good T ps) {i : Nat} (hi : i < 6) : ∃ rest, (piecesF T ps).flatten = lineF T ps i ++ (segF T ps i ++ rest) := by
  refine ⟨((piecesF T ps).drop (i + 1)).flatten, ?_⟩
  rw [← List.append_assoc, ← lineF_succ g hi]
  unfold lineF
  rw [← List.flatten_append, List.take_append_drop]
theorem segF_ok {T : Mx} {ps : Pairs} (tb : Tab T) (g : Good T ps) {i : Nat} (hi : i < 6) : (segF T ps i).length ≤ 13 ∧ ∀ x ∈ segF T ps i, x < 128 := by
  unfold segF
  cases h : dget (partnerF ps) (i : Int) with
  | none => exact ⟨by simp, fun x hx => by simp at hx; omega⟩
  | some low =>
    obtain ⟨l0, l6, -, -⟩ := g.low i hi low h
    obtain ⟨-, -, -, hb⟩ := tb.at (i := low.toNat) (j := i) (by omega) hi
    obtain ⟨-, hl, -⟩ := reads_digs hb
    refine ⟨by unfold closeP; simp; omega, closeP_mem hb⟩
theorem lineF_len {T : Mx} {ps : Pairs} (tb : Tab T) (g : Good T ps) : ∀ i, i ≤ 6 → (lineF T ps i).length ≤ 13 * i ∧ ∀ x ∈ lineF T ps i, x < 128
  | 0, _ => ⟨by simp [lineF], fun x hx => by simp [lineF] at hx⟩
  | i + 1, h => by
    obtain ⟨h1, h2⟩ := lineF_len tb g i (by omega)
    obtain ⟨h3, h4⟩ := segF_ok tb g (by omega : i < 6)
    rw [lineF_succ g (by omega)]
    refine ⟨by rw [List.length_append]; omega, fun x hx => ?_⟩
    rcases List.mem_append.mp hx with h | h
    · exact h2 x h
    · exact h4 x h
theorem line_all {T : Mx} {ps : Pairs} (tb : Tab T) (g : Good T ps) : (piecesF T ps).flatten.length ≤ 78 := by
  have e : (piecesF T ps).flatten = lineF T ps 6 := by unfold lineF; rw [List.take_of_length_le (by rw [piecesF_len]; omega)]
  rw [e]
  exact (lineF_len tb g 6 (by omega)).1

/-- what is known of the line when a place is reached -/
noncomputable def Seg (T : Mx) (ps : Pairs) (i since : Nat) (dep : Int) : Prop := since ≤ (lineF T ps i).length ∧ ∃ a cl, (lineF T ps i).drop since = cl ++ List.replicate a 40 ∧ a ≤ i ∧ ((cl = [] ∧ dep = 0 ∧ a = (runF ps i).length) ∨ ∃ p : Int, p.natAbs ≤ 10000 ∧ cl = closeP p ∧ dep + a - 1 = (runF ps i).length)
theorem Seg.bare {T : Mx} {ps : Pairs} {i since : Nat} {dep : Int} (s : Seg T ps i since dep) (hi : i ≤ 6) (hr : 1 ≤ (runF ps i).length) : ∃ r, Bare ((lineF T ps i).drop since) r ∧ dep + opens r - closes r = (runF ps i).length := by
  obtain ⟨-, a, cl, e, ha, ⟨rfl, rfl, h⟩ | ⟨p, hp, rfl, h⟩⟩ := s
  · rw [e, List.nil_append]
    obtain ⟨h1, h2⟩ := bare_open (n := a) (by omega) (by omega)
    exact ⟨_, h1, by omega⟩
  · rw [e]
    obtain ⟨r, h1, h2⟩ := bare_close hp (n := a) (by omega)
    exact ⟨r, h1, by omega⟩
theorem Seg.opened {T : Mx} {ps : Pairs} {i since : Nat} {dep : Int} (s : Seg T ps i since dep) (g : Good T ps) (hi : i < 6) (hn : dget (partnerF ps) (i : Int) = none) : Seg T ps (i + 1) since dep := by
  obtain ⟨hs, a, cl, e, ha, h⟩ := s
  have hseg : segF T ps i = [40] := by unfold segF; rw [hn]
  have hrun : runF ps (i + 1) = runF ps i ++ [(i : Int)] := by show (match dget (partnerF ps) (i : Int) with | some low => _ | none => _) = _; rw [hn]
  rw [Seg, lineF_succ g hi, hseg, hrun]
  refine ⟨by rw [List.length_append]; omega, a + 1, cl, ?_, by omega, ?_⟩
  · rw [List.drop_append_of_le_length hs, e, List.append_assoc, ← List.replicate_succ' ]
  · rcases h with ⟨h1, h2, h3⟩ | ⟨p, h1, h2, h3⟩
    · exact .inl ⟨h1, h2, by simp; omega⟩
    · refine .inr ⟨p, h1, h2, ?_⟩
      simp; omega
theorem Seg.closed {T : Mx} {ps : Pairs} {i : Nat} (tb : Tab T) (g : Good T ps) (hi : i < 6) {low : Int} (hn : dget (partnerF ps) (i : Int) = some low) : Seg T ps (i + 1) (lineF T ps i).length ((runF ps i).length : Int) := by
  obtain ⟨l0, l6, c1, c2⟩ := g.low i hi low hn
  obtain ⟨-, -, -, hb⟩ := tb.at (i := low.toNat) (j := i) (by omega) hi
  have hseg : segF T ps i = closeP (ent T low.toNat i) := by unfold segF; rw [hn]
  have hrun : runF ps (i + 1) = (runF ps i).eraseIdx (cntLe (runF ps i) low - 1) := by show (match dget (partnerF ps) (i : Int) with | some low => _ | none => _) = _; rw [hn]
  rw [Seg, lineF_succ g hi, hseg, hrun]
  refine ⟨by rw [List.length_append]; omega, 0, closeP (ent T low.toNat i), by simp, by omega, .inr ⟨_, hb, rfl, ?_⟩⟩
  rw [List.length_eraseIdx_of_lt (by omega)]
  omega
end Mine
end

section
set_option maxRecDepth 100000
set_option Elab.async false
set_option linter.unusedVariables false
set_option linter.unusedSimpArgs false
set_option autoImplicit false
namespace Mine
open PySem PySem.Calls PySem.W PyProof.Rows
local macro_rules | `(tactic| walk_at "lk") => `(tactic| first | assumption | exact upd_self | (refine' upd_ne (by decide) ?lkE; case lkE => walk_at "lk"))

/-! the loops' invariants -/
inductive EI1 (L Dp : Addr) (oL : Obj) (ps : Pairs) (i : Nat) (m : Loc) (fr : Know) (own : List (Addr × Res)) : Prop
  | mk (kvs : List (Int × Value)) (e : own = [(L, .obj oL), (Dp, .dct kvs)]) (y : IntVals kvs (partnerF (ps.take i)))
inductive EI2 (prog : Program) (w : World) (T : Mx) (ps : Pairs) (tl : Tok) (Dp R : Addr) (v₂ : Value) (kvs : List (Int × Value)) (i : Nat) (m : Loc) (fr : Know) (own : List (Addr × Res)) : Prop
  | mk (since : Nat) (dep : Int) (u1 u2 u3 u4 u5 u6 : Tok) (vs : List Value) (m1 : m "line" = some (.str (Tx (piecesF T ps).flatten) tl)) (m2 : m "partner" = some (.ref Dp)) (m3 : m "running" = some (.ref R)) (m4 : m "pieces" = some v₂)
      (m5 : m "since" = some (.int (since : Int) u1)) (m6 : m "at" = some (.int ((lineF T ps i).length : Int) u2)) (m7 : m "depth" = some (.int dep u3)) (m8 : m "within" = some (.int (withinF ps i) u4)) (m9 : m "across" = some (.int (acrossF ps i) u5)) (m10 : m "product" = some (.int (prodR T ps i) u6))
      (e : own = [(R, .lst vs), (Dp, .dct kvs)]) (r : Reps prog w Know.nil vs ((runF ps i).map .int)) (s : Seg T ps i since dep)
inductive EI3 (prog : Program) (w : World) (κ fr3 : Know) (L I : Addr) (o : Obj) (T : Mx) (ps : Pairs) (tl : Tok) (Dp R : Addr) (v₂ : Value) (kvs : List (Int × Value)) (i : Nat) (t11 u2 : Tok) (hq : Heap) : Prop
  | mk (since' : Nat) (dep' : Int) (u1 u3 u4 u5 u6 : Tok) (vs : List Value) (m : Loc) (fr' : Know) (le : Know.le fr3 fr') (m1 : m "line" = some (.str (Tx (piecesF T ps).flatten) tl)) (m2 : m "partner" = some (.ref Dp)) (m3 : m "running" = some (.ref R)) (m4 : m "pieces" = some v₂)
      (m5 : m "since" = some (.int (since' : Int) u1)) (m6 : m "at" = some (.int ((lineF T ps i).length : Int) u2)) (m7 : m "depth" = some (.int dep' u3)) (m8 : m "within" = some (.int (withinF ps (i + 1)) u4)) (m9 : m "across" = some (.int (acrossF ps (i + 1)) u5)) (m10 : m "product" = some (.int (prodR T ps (i + 1)) u6))
      (m11 : m "place" = some (.int (i : Int) t11)) (S : Sat prog w κ fr' L m [(I, .obj o), (R, .lst vs), (Dp, .dct kvs)] hq) (r : Reps prog w Know.nil vs ((runF ps (i + 1)).map .int)) (s : Seg T ps (i + 1) since' dep')
section
variable {prog : Program} {w : World} {A : Around} {h : Heap} {a : Ad} {d : Nat}
variable {P : Value → Heap → Prop}
theorem map_erase {α β : Type} (f : α → β) : ∀ (l : List α) (k : Nat), (l.eraseIdx k).map f = (l.map f).eraseIdx k
  | [], _ => rfl
  | _ :: _, 0 => rfl
  | x :: r, k + 1 => by simp [map_erase f r k]
set_option maxHeartbeats 4000000 in
theorem read_spec (lv : Lv A d) (hd : d ≤ 80) (B : Base prog w a h.get?) {v₁ v₂ : Value} {T : Mx} (tb : Tab T) {ps : Pairs} (g : Good T ps)
    (r₁ : Rep prog w h.get? v₁ (dPairs ps)) (r₂ : Rep prog w h.get? v₂ (.lst ((piecesF T ps).map dTx)))
    (q : ∀ h' v, KeepsH h h' → Rep prog w (fresh h h') v (Stats 1 (2 * withinF ps 6) (3 * acrossF ps 6) (prodR T ps 6) [(acrossF ps 6, prodR T ps 6)]) → P v h') : WP prog w A (call (.ref a.read) [v₁, v₂] []) h P := by
  refine call_def (B.read h fun _ _ e => e) (B.lim h fun _ _ e => e) (lv.depth (by omega)) (binds := [("pairs", v₁), ("pieces", v₂)]) (fun _ _ _ _ _ s _ => binds_of (by with_unfolding_all rfl) s) (by rfl) (fun L h₁ cd hk S => ?_) (by decide +kernel)
  have lv' := lv.deeper (fenv 19 L a.read cd)
  generalize hA : A.deeper (fenv 19 L a.read cd) = A' at lv' ⊢
  dsimp only [mapOf, List.foldl_cons, List.foldl_nil] at S
  have hline := line_all tb g
  have hne : piecesF T ps ≠ [] := by
    intro e
    have := piecesF_len T ps
    rw [e] at this; simp at this
  refine x_assign (m_str F.slot_str_join F.type_str_join (e_tx [] fun t0 => ⟨_, _, rfl, v_local S (by walk_at "lk") (s_join S.base r₂ hne (by omega) fun tl => store S fun h₂ S => ?_)⟩))
  obtain ⟨ap, vp, np, rfl, ep, rp⟩ := r₁.list
  refine x_dc _ (v_local S (by walk_at "lk") (pi_list (S.base _ _ ep) ?_))
  have S := S.push (.obj (LI ap)) rfl rfl
  refine ⟨_, _, _, _, S, fun Dp C h₃ oL S => ⟨self_list lv'.hh (I := h₂.objs.size) (by obtain ⟨_, g, e⟩ := S.at (.tail _ (.tail _ (.head _))); cases e; exact g) (S.base _ _ ep), ?_⟩⟩
  have hDp : NoSys Dp := B.noSysF (S.hown (Dp, _) (.tail _ (.head _))).2.1
  refine it_list (env := compEnvC _ _ C _) lv'.hh loop_bd BD.mono (.inl rfl) ep rp (S.perm (perm3 _ _ _ _)) (EI1 L Dp oL ps) ⟨[], rfl, by simp [partnerF, IntVals]⟩ ?_ ?_
  · rintro i dd v m fr own o h₄ hdd rv ⟨kvs, rfl, hI⟩ hle S
    rw [List.getElem?_map] at hdd
    obtain ⟨p, hp, rfl⟩ := Option.map_eq_some_iff.mp hdd
    obtain ⟨at1, n1, t3, t4, rfl, e1⟩ := rv.pair
    refine a_tuple2 lv'.hh S (S.base _ _ e1) fun h₄ S => store S fun h₄ S => store S fun h₄ S => WPT.nil ?_
    show WP _ _ _ _ _ _
    refine v_local S (by walk_at "lk") (v_local S (by walk_at "lk") (d_setc S (.tail (.tail .head)) ?_ fun h₅ S => ?_))
    · have := hI.length; have := partnerF_len (ps.take i); have := take_len_le ps i; have := g.len; omega
    refine ⟨_, _, _, Know.le.refl _, ⟨_, rfl, ?_⟩, S⟩
    rw [partnerF_take hp]; exact hI.put _ _ _
  rintro m fr own h₄ ⟨kvs, rfl, hI⟩ hle S
  rw [show (ps.map dPair).length = ps.length from List.length_map _, List.take_length] at hI
  refine ⟨_, _, _, S, fun h₅ S => ?_⟩
  refine x_assign (e_list_own ⟨by simp, _, _, _, _, _, S, fun R h₅ S => store S fun h₅ S => ?_⟩)
  refine x_assign (e_int fun t1 => store S fun h₅ S => x_assign (e_int fun t2 => store S fun h₅ S => x_assign (e_int fun t3 => store S fun h₅ S => x_assign (e_int fun t4 => store S fun h₅ S => x_assign (e_int fun t5 => store S fun h₅ S => x_assign (e_int fun t6 => store S fun h₅ S => ?_))))))
  refine x_for_range lv'.hh S (EI2 prog w T ps tl Dp R v₂ kvs)
    (e_call_t (v_builtin (v := .type "range") B.glo S.base (by simp [biNames]) ⟨rfl, e_int fun t7 => range1 fun t8 t9 t10 => ?_⟩))
  obtain ⟨fr2, le2, e2, S⟩ := S.fnew (o := RO 0 6 t8 t9 t10) rfl
  refine ⟨_, _, _, _, 0, 6, _, _, _, rfl, S.fsub _ _ e2, by omega, by omega, by omega, by omega, S, ⟨0, 0, t1, t2, t3, t4, t5, t6, [], by walk_at "lk", by walk_at "lk", by walk_at "lk", by walk_at "lk", by walk_at "lk", by walk_at "lk", by walk_at "lk", by walk_at "lk", by walk_at "lk", by walk_at "lk", rfl, .nil, ?_⟩, ?_, ?_⟩
  · exact ⟨Nat.zero_le _, 0, [], rfl, Nat.le_refl _, .inl ⟨rfl, rfl, rfl⟩⟩
  · rintro i I t11 m fr3 own o h₆ hi6 ⟨since, dep, u1, u2, u3, u4, u5, u6, vs, m1, m2, m3, m4, m5, m6, m7, m8, m9, m10, rfl, hvs, hseg⟩ hle3 S
    simp only [Int.zero_add] at hi6 ⊢
    have hi6 : i < 6 := by omega
    obtain ⟨hrun1, hrun2⟩ := g.run i hi6
    have hvl : vs.length = (runF ps i).length := by rw [hvs.length]; simp
    refine a_name (store S fun h₆ S => ?_)
    refine x_if_join (EI3 prog w h.get? fr3 L I o T ps tl Dp R v₂ kvs i t11 u2) ?_ ?_
    · obtain ⟨oD, eD, xD⟩ := S.dct (.tail _ (.tail _ (.head _)))
      refine t_cmp (v_local S (by walk_at "lk") (v_local S (by walk_at "lk") (d_in hDp eD xD hI (c_bool ?_))))
      cases hn : dget (partnerF ps) (i : Int) with
      | none =>
        rw [if_neg (by simp)]
        obtain ⟨nR, gR⟩ := S.lst (.tail _ (.head _))
        refine x_expr (e_meth F.plainAttrs_list F.slot_list_append F.type_list_append (v_local S (by walk_at "lk") ⟨TyH.ref gR rfl, fun _ z => by cases z; exact ⟨_, gR, rfl⟩, v_local S (by walk_at "lk") (append_list S (.tail .head) (by omega) fun h₇ S => x_nil ?_)⟩))
        refine ⟨rfl, since, dep, u1, u3, u4, u5, u6, _, _, _, Know.le.refl _, by walk_at "lk", by walk_at "lk", by walk_at "lk", by walk_at "lk", by walk_at "lk", by walk_at "lk", by walk_at "lk", ?_, ?_, ?_, by walk_at "lk", S, ?_, hseg.opened g hi6 hn⟩
        · have : withinF ps (i + 1) = withinF ps i := by show (match dget (partnerF ps) (i : Int) with | some low => _ | none => _) = _; rw [hn]
          rw [this]; walk_at "lk"
        · have : acrossF ps (i + 1) = acrossF ps i := by show (match dget (partnerF ps) (i : Int) with | some low => _ | none => _) = _; rw [hn]
          rw [this]; walk_at "lk"
        · have : prodR T ps (i + 1) = prodR T ps i := by show (match dget (partnerF ps) (i : Int) with | some low => _ | none => _) = _; rw [hn]
          rw [this]; walk_at "lk"
        · have : runF ps (i + 1) = runF ps i ++ [(i : Int)] := by show (match dget (partnerF ps) (i : Int) with | some low => _ | none => _) = _; rw [hn]
          rw [this, List.map_append]; exact hvs.append (.cons .int .nil)
      | some low =>
        rw [if_pos (by simp)]
        obtain ⟨l0, l6, c1, c2⟩ := g.low i hi6 low hn
        obtain ⟨-, -, -, hb⟩ := tb.at (i := low.toNat) (j := i) (by omega) hi6
        obtain ⟨hrd, hdl, hdf⟩ := reads_digs hb
        obtain ⟨-, -, -, hmk⟩ := markOf_mem (ent T low.toNat i)
        obtain ⟨rb, hbare, hdep⟩ := hseg.bare (by omega) (by omega)
        obtain ⟨rest, hall⟩ := lineF_all g hi6
        have hsg : segF T ps i = closeP (ent T low.toNat i) := by unfold segF; rw [hn]
        have hcutA : ((piecesF T ps).flatten.take (lineF T ps i).length).drop since = (lineF T ps i).drop since := by rw [hall, List.take_left']; rfl
        have hcutB : [50, 50, 57, 32] ++ (piecesF T ps).flatten.drop (lineF T ps i).length = resp (markOf (ent T low.toNat i)) (digs (ent T low.toNat i)) (41 :: rest) := by
          rw [hall, List.drop_left', hsg]
          · unfold closeP resp; simp
          · rfl
        have hLF := (lineF_len tb g i (by omega))
        have hrl : rest.length ≤ 78 := by
          have := congrArg List.length hall
          rw [List.length_append, List.length_append] at this
          omega
        -- the depth
        refine x_assign (e_call_d (f := a.paren) (v_global (v := .ref a.paren) B.glo S.base (by simp [Ad.gl]) ⟨rfl, m_str F.slot_str_encode F.type_str_encode (e_sub (v_local S (by walk_at "lk") (e_slice_frz (p_some (v_local S (by walk_at "lk") (p_some (v_local S (by walk_at "lk") ⟨_, _, _, _, _, S, fun fr4 sl h₇ le4 esl S => ?_⟩)))))))⟩))
        refine slice_s (some (since, u1)) (some ((lineF T ps i).length, u2)) (by omega) (S.fsub _ _ esl) fun t12 => ?_
        simp only [Option.map_some, Option.getD_some]
        rw [hcutA]
        refine ⟨_, _, rfl, s_encode hbare.1 ?_ (Nat.le_trans hbare.2.1 (by omega)) fun t13 => v_local S (by walk_at "lk") ⟨(B.paren _ S.base).fn, paren_spec lv' (by omega) (B.all S.base) hbare fun h₈ t14 k8 => ?_⟩⟩
        · rcases hbare.2.2 with ⟨_, h1, _⟩ | ⟨ds, rs, e, _⟩
          · exact h1
          · rw [e]; simp
        have S := S.keeps k8
        rw [hdep]
        refine store S fun h₈ S => ?_
        refine x_assign (v_local S (by walk_at "lk") (store S fun h₈ S => ?_))
        -- the server's answer
        obtain ⟨oD, eD, xD⟩ := S.dct (.tail _ (.tail _ (.head _)))
        refine x_assign_tuple (e_call_d (f := a.parse) (v_global (v := .ref a.parse) B.glo S.base (by simp [Ad.gl]) ⟨rfl, e_bin (e_tx [50, 50, 57, 32] fun t15 => e_sub (v_local S (by walk_at "lk") (e_slice_frz (p_some (v_local S (by walk_at "lk") (p_none ⟨_, _, _, _, _, S, fun fr5 sl2 h₉ le5 esl2 S => ?_⟩))))))⟩))
        refine slice_s (some ((lineF T ps i).length, u2)) none (by omega) (S.fsub _ _ esl2) fun t16 => ?_
        simp only [Option.map_some, Option.getD_some, Option.map_none, Option.getD_none, List.take_length]
        refine s_add (by rw [List.length_drop]; show 4 + _ ≤ _; omega) fun t17 => ?_
        rw [hcutB]
        obtain ⟨oD, eD, xD⟩ := S.dct (.tail _ (.tail _ (.head _)))
        refine e_tuple_frz (e_sub (v_local S (by walk_at "lk") (v_local S (by walk_at "lk") (d_get eD xD hI hn fun t18 => e_int fun t19 => ⟨by simp, _, _, _, _, _, [.int low, .int 21], S, .cons .int (.cons .int .nil), fun fr6 W6 h₁₀ le6 rW S => ⟨(B.parse _ S.base).fn, ?_⟩⟩))))
        refine parse_spec lv' (by omega) (B.all S.base) (by omega) ⟨hdf 40 ⟨by decide, by decide⟩, hdf 41 ⟨by decide, by decide⟩, hdf _ ⟨by omega, by omega⟩⟩ hrd (by omega) (by simp; omega) (rW.mono S.fsub) fun h₁₁ v11 k11 r11 => ?_
        have S0 := S
        have S := S.called k11
        obtain ⟨ad, nd, t20, t21, rfl, e11⟩ := (r11.mono (S0.right h₁₁)).pair
        refine a_tuple lv'.hh S (S.fsub _ _ e11) rfl fun h₁₂ S => ?_
        refine a_name (store S fun h₁₂ S => a_name (store S fun h₁₂ S => ?_))
        -- the place among the open ones
        obtain ⟨nR, gR⟩ := S.lst (.tail _ (.head _))
        refine x_assign (e_call_d (f := a.bisect) (v_global (v := .ref a.bisect) B.glo S.base (by simp [Ad.gl]) ⟨rfl, v_local S (by walk_at "lk") (v_local S (by walk_at "lk") ⟨(B.bisect _ S.base).fn, ?_⟩)⟩))
        refine bisect_spec lv' (by omega) (B.all S.base) (.lst gR (hvs.mono fun _ _ e => by cases e)) hrun1 (by omega) fun h₁₃ t22 k13 => ?_
        have S := S.keeps k13
        refine store S fun h₁₃ S => ?_
        refine x_aug (l_local S.ns (by walk_at "lk") (e_bin (v_local S (by walk_at "lk") (e_int fun t23 => i_sub fun t24 => i_iadd fun t25 => store S fun h₁₄ S => ?_))))
        refine x_aug (l_local S.ns (by walk_at "lk") (e_bin (v_local S (by walk_at "lk") (v_local S (by walk_at "lk") (i_sub fun t26 => i_iadd fun t27 => store S fun h₁₅ S => ?_)))))
        obtain ⟨nR, gR⟩ := S.lst (.tail _ (.head _))
        have hci : ((cntLe (runF ps i) low : Nat) : Int) - 1 = ((cntLe (runF ps i) low - 1 : Nat) : Int) := by omega
        obtain ⟨vx, hvx⟩ : ∃ vx, vs[cntLe (runF ps i) low - 1]? = some vx := ⟨_, List.getElem?_eq_getElem (by omega)⟩
        refine x_expr (e_meth F.plainAttrs_list F.slot_list_pop F.type_list_pop (v_local S (by walk_at "lk") ⟨TyH.ref gR rfl, fun _ z => by cases z; exact ⟨_, gR, rfl⟩, e_bin (v_local S (by walk_at "lk") (e_int fun t28 => i_sub fun t29 => ?_))⟩))
        rw [hci]
        refine pop_list S (.tail .head) (by omega) (by rw [Int.toNat_natCast]; exact hvx) (by omega) fun h₁₆ S => ?_
        rw [Int.toNat_natCast] at S
        refine x_aug (l_local S.ns (by walk_at "lk") (v_local S (by walk_at "lk") (i_imul (.of_right (bits_small hb)) fun t30 => store S fun h₁₇ S => x_nil ?_)))
        have hw' : withinF ps (i + 1) = withinF ps i + ((cntLe (runF ps i) low : Int) - 1) := by show (match dget (partnerF ps) (i : Int) with | some low => _ | none => _) = _; rw [hn]
        have ha' : acrossF ps (i + 1) = acrossF ps i + (((runF ps i).length : Int) - cntLe (runF ps i) low) := by show (match dget (partnerF ps) (i : Int) with | some low => _ | none => _) = _; rw [hn]
        have hp' : prodR T ps (i + 1) = prodR T ps i * ent T low.toNat i := by show (match dget (partnerF ps) (i : Int) with | some low => _ | none => _) = _; rw [hn]
        have hr' : runF ps (i + 1) = (runF ps i).eraseIdx (cntLe (runF ps i) low - 1) := by show (match dget (partnerF ps) (i : Int) with | some low => _ | none => _) = _; rw [hn]
        refine ⟨rfl, (lineF T ps i).length, ((runF ps i).length : Int), u2, t14, t25, t27, t30, _, _, _, ((le4.trans le5).trans le6).trans (Know.le_or _ _), by walk_at "lk", by walk_at "lk", by walk_at "lk", by walk_at "lk", by walk_at "lk", by walk_at "lk", by walk_at "lk", ?_, ?_, ?_, by walk_at "lk", S, ?_, Seg.closed tb g hi6 hn⟩
        · rw [hw']; walk_at "lk"
        · rw [ha']; walk_at "lk"
        · rw [hp']; walk_at "lk"
        · rw [hr', map_erase]; exact hvs.erase _
    · rintro h₇ ⟨since', dep', u1, u3, u4, u5, u6, vs, m, fr', le', m1, m2, m3, m4, m5, m6, m7, m8, m9, m10, m11, S, hvs, hseg⟩
      have hsi : (piecesF T ps)[i]? = some (segF T ps i) := by rw [g.seg, List.getElem?_map, List.getElem?_range hi6]; rfl
      refine x_aug (l_local S.ns (by walk_at "lk") (e_call_b (v_builtin (v := .builtin "len") B.glo S.base (by simp [biNames]) ⟨rfl, e_sub (v_local S (by walk_at "lk") (v_local S (by walk_at "lk") (r_list (d := dTx (segF T ps i)) S.base r₂ (by omega) (by rw [Int.toNat_natCast, List.getElem?_map, hsi]; rfl) (by omega) fun z rz => ?_)))⟩)))
      obtain ⟨tz, rfl⟩ := rz.strv
      have hsl := (segF_ok tb g hi6).1
      refine len_s (by rw [Tx.len]; omega) fun t12 => i_iadd fun t13 => store S fun h₈ S => x_nil ?_
      refine ⟨_, _, _, le', ⟨since', dep', u1, t13, u3, u4, u5, u6, vs, by walk_at "lk", by walk_at "lk", by walk_at "lk", by walk_at "lk", by walk_at "lk", ?_, by walk_at "lk", by walk_at "lk", by walk_at "lk", by walk_at "lk", rfl, hvs, hseg⟩, S⟩
      rw [upd_self, lineF_succ g hi6, List.length_append, Tx.len, Int.natCast_add]
  · rintro m fr3 own h₆ ⟨since, dep, u1, u2, u3, u4, u5, u6, vs, m1, m2, m3, m4, m5, m6, m7, m8, m9, m10, rfl, hvs, hseg⟩ hle3 S
    have m8 : m "within" = some (.int (withinF ps 6) u4) := m8
    have m9 : m "across" = some (.int (acrossF ps 6) u5) := m9
    have m10 : m "product" = some (.int (prodR T ps 6) u6) := m10
    refine x_ret (e_tuple_frz (e_int fun t12 => e_bin (e_int fun t13 => v_local S (by walk_at "lk") (i_mul (.of_left (by decide)) fun t14 => e_bin (e_int fun t15 => v_local S (by walk_at "lk") (i_mul (.of_left (by decide)) fun t16 => v_local S (by walk_at "lk") ?_))))))
    refine e_dict1 S fun h₇ S => v_local S (by walk_at "lk") (v_local S (by walk_at "lk") ⟨_, _, rfl, S, fun h₈ S => ?_⟩)
    generalize h₆.objs.size = D4 at S ⊢
    obtain ⟨fr4, le4, r4, S⟩ := frz_dict (pre := []) (ds := [(acrossF ps 6, prodR T ps 6)]) S rfl ⟨rfl, ⟨_, rfl⟩, True.intro⟩ (B.noSysF (S.hown _ (.head _)).2.1)
    refine ⟨by simp, _, _, _, _, _, [.int 1, .int (2 * withinF ps 6), .int (3 * acrossF ps 6), .int (prodR T ps 6), .dct [(acrossF ps 6, prodR T ps 6)]], S, .cons .int (.cons .int (.cons .int (.cons .int (.cons r4 .nil)))), fun fr5 W h₉ le5 rW S => ?_⟩
    exact q _ _ (fun _ _ e => S.base _ _ e) (rW.mono (S.le_fresh fun _ _ e => e))
end
end Mine
end

section
set_option maxRecDepth 100000
set_option Elab.async false
set_option linter.unusedVariables false
set_option linter.unusedSimpArgs false
set_option autoImplicit false
namespace Mine
open PySem PySem.Calls PySem.W PyProof.Rows
local macro_rules | `(tactic| walk_at "lk") => `(tactic| first | assumption | exact upd_self | (refine' upd_ne (by decide) ?lkE; case lkE => walk_at "lk"))

section
variable {prog : Program} {w : World} {A : Around} {env : Env} {h : Heap} {κ fr : Know} {L : Addr} {m : Loc} {own own' : List (Addr × Res)}
variable {P : Value → Heap → Prop}
theorem keys_same {ka kb : List (Int × Value)} {X : List (Int × Int)} (hb : IntVals kb X) {s : Shared} : ∀ {k2 : List (Int × Value)} {X2 : List (Int × Int)}, IntVals k2 X2 → (∀ p ∈ X2, dget X p.1 = some p.2) → KeqHits A s kb k2 true
  | [], [], _, _ => .nil
  | (k, v) :: r, (k', i) :: r', ⟨e, ⟨t, hv⟩, x⟩, h => by
    subst e hv
    have h1 := h (k, i) (.head _)
    rcases hb.at k with ⟨i', t', a1, a2⟩ | ⟨a1, _⟩
    · rw [h1] at a1; cases a1
      have := KeqHits.hit (A := A) (s := s) (k := k) (v := .int i t) a2 (SeqAt.EqAt.int_int i t i t') (keys_same (ka := ka) hb x fun p hp => h p (.tail _ hp))
      simpa using this
    · rw [h1] at a1; cases a1
  | [], _ :: _, x, _ => x.elim
  | _ :: _, [], x, _ => x.elim
theorem IntVals.keys : ∀ {kvs : List (Int × Value)} {X : List (Int × Int)}, IntVals kvs X → X.map (·.1) = kvs.map (·.1)
  | [], [], _ => rfl
  | (k, v) :: r, (k', i) :: r', ⟨e, _, x⟩ => by rw [List.map_cons, List.map_cons, x.keys, e]
  | [], _ :: _, x => x.elim
  | _ :: _, [], x => x.elim
theorem dget_mem : ∀ {X : List (Int × Int)}, (X.map (·.1)).Nodup → ∀ p ∈ X, dget X p.1 = some p.2
  | q :: r, hn, p, hp => by
    rw [List.map_cons, List.nodup_cons] at hn
    rcases List.mem_cons.mp hp with rfl | hp
    · unfold dget; simp
    · have hne : q.1 ≠ p.1 := fun e => hn.1 (e ▸ List.mem_map.mpr ⟨p, hp, rfl⟩)
      have := dget_mem hn.2 p hp
      unfold dget at this ⊢
      rw [List.find?_cons, decide_eq_false hne]
      exact this
theorem pairs_any {prog' : Program} {w' : World} : ∀ {es : List DictEntry} {kvs : List (Int × Value)}, PySem.Pairs (intKind prog w) es kvs → PySem.Pairs (intKind prog' w') es kvs
  | _, _, .nil => .nil
  | _, _, .cons a b c => .cons (knd := intKind prog' w') a b (pairs_any c)
theorem DictO.any {prog' : Program} {w' : World} {kvs : List (Int × Value)} {o : Obj} (x : DictO prog w kvs o) : DictO prog' w' kvs o := by
  obtain ⟨es, ep, a1, a2, a3, a4, a5⟩ := x
  exact ⟨es, ep, a1, a2, a3, pairs_any a4, a5⟩
/-- two dicts of the same ints -/
theorem dict_same {s : Shared} {d1 d2 : Addr} {o1 o2 : Obj} {k1 k2 : List (Int × Value)} {X : List (Int × Int)} (hu : A.units < cLine) (n1 : NoSys d1) (n2 : NoSys d2) (e1 : s.heap.get? d1 = some o1) (e2 : s.heap.get? d2 = some o2)
    (x1 : DictO prog w k1 o1) (x2 : DictO prog w k2 o2) (y1 : IntVals k1 X) (y2 : IntVals k2 X) : SeqAt.EqAt A s (.ref d1) (.ref d2) true := by
  by_cases hne : d1 = d2
  · subst hne; exact SeqAt.EqAt.same _
  · refine SeqAt.EqAt.of_refs hne fun prog' w' E Q hq => ?_
    have hd1 : s.heap.DictOf (intKind prog' w') d1 k1 := DictO.dictOf (prog := prog') (w := w') e1 x1.any
    have hd2 : s.heap.DictOf (intKind prog' w') d2 k2 := DictO.dictOf (prog := prog') (w := w') e2 x2.any
    have hn : (X.map (·.1)).Nodup := by
      obtain ⟨es, ep, _, _, _, _, nd⟩ := x1
      rw [y1.keys]; exact nd
    have hl : k1.length = k2.length := by rw [y1.length, y2.length]
    refine keq_eq (knd := intKind prog' w') n1 n2 hd1 hd2 hu (fun _ => keys_same (ka := k1) y2 y1 (dget_mem hn)) ?_
    rw [hl]
    simpa using hq
/-- total != (15, 30, 45, .., due) when it is all that -/
theorem ne_stats {d : Nat} (lv : Lv A d) (hd : d ≤ 200) {v₁ v₂ : Value} {a b c e : Int} {X : List (Int × Int)} {kn : Know} (hk : Sub kn h) (r₁ : Rep prog w kn v₁ (Stats a b c e X)) (r₂ : Rep prog w kn v₂ (Stats a b c e X)) (q : P (.bool false) h) : WP prog w A (compareOp .NotEq v₁ v₂) h P := by
  obtain ⟨ad1, n1, t11, t12, t13, t14, u1, rfl, e1, c1⟩ := r₁.stats
  obtain ⟨ad2, n2, t21, t22, t23, t24, u2, rfl, e2, c2⟩ := r₂.stats
  obtain ⟨d1, o1, k1, rfl, g1, x1, y1, s1⟩ := c1.dict
  obtain ⟨d2, o2, k2, rfl, g2, x2, y2, s2⟩ := c2.dict
  refine .of fun Q E gs dr tk os k => ?_
  have hu : A.units < cLine := lv.units hd
  have hu' : A.in1.units < cLine := by
    have := lv.un
    show A.units + 1 < cLine
    unfold cLine; omega
  have hr : SeqAt.RcNeAt A ⟨h, gs, dr, tk, os⟩ (.ref ad1) (.ref ad2) _ := SeqAt.RcNeAt.tuples (e := fun _ => true) (TO.isTuple (hk _ _ e1)) (TO.isTuple (hk _ _ e2)) hu (fun j h1 h2 => by
    have hj : j < 5 := by simpa using h1
    match j, hj with
    | 0, _ => have := SeqAt.EqAt.int_int (A := A.in1) (s := ⟨h, gs, dr, tk, os⟩) a t11 a t21; simpa using this
    | 1, _ => have := SeqAt.EqAt.int_int (A := A.in1) (s := ⟨h, gs, dr, tk, os⟩) b t12 b t22; simpa using this
    | 2, _ => have := SeqAt.EqAt.int_int (A := A.in1) (s := ⟨h, gs, dr, tk, os⟩) c t13 c t23; simpa using this
    | 3, _ => have := SeqAt.EqAt.int_int (A := A.in1) (s := ⟨h, gs, dr, tk, os⟩) e t14 e t24; simpa using this
    | 4, _ => exact dict_same (prog := prog) (w := w) hu' s1 s2 (hk _ _ g1) (hk _ _ g2) x1 x2 y1 y2)
  refine PySem.EqBoolInt.of_rcne hr ?_
  exact k _ _ _ q
/-- sum(d.values()) -/
theorem sum_vals (lv : A.handled = none) {d v : Addr} {o : Obj} {kvs : List (Int × Value)} {X : List (Int × Int)} (ev : h.get? v = some (ViO "dict_values" d)) (ed : h.get? d = some o) (x : DictO prog w kvs o) (y : IntVals kvs X) (q : ∀ h' t, KeepsH h h' → P (.int (sumVals X) t) h') :
    WP prog w A (call (.builtin "sum") [.ref v] []) h P := by
  obtain ⟨ep, hat⟩ := (DictO.dictOf ed x).dictAt
  have hne : d ≠ h.objs.size := Nat.ne_of_lt (Heap.lt_size ed)
  refine sum_wp (.of fun Q E gs dr tk os c => wpAny_pyIter_values (knd := intKind prog w) ⟨_, ev, rfl, rfl⟩ hat (c _ _ _ ?_))
  refine ⟨_, _, _, _, _, fun i => (X.map (·.2)).getD i 0, rfl, Walks.dictValues (A := A.in1) (knd := intKind prog w) lv h.objs.size d hne kvs ep, ?_, ?_, ?_, ?_⟩
  · refine ⟨⟨_, Heap.get?_push_size _ rfl, rfl, rfl⟩, ?_⟩
    obtain ⟨o', es, g, r⟩ := hat; exact ⟨o', es, Heap.get?_push_of_some _ g, r⟩
  · intro b hb
    have := Heap.lt_size ed
    rw [Heap.size_push]
    rcases List.mem_cons.mp hb with rfl | hb
    · exact Nat.lt_succ_self _
    · rw [List.mem_singleton.mp hb]; exact Nat.lt_succ_of_lt this
  · rintro i v ⟨k, hP⟩
    obtain ⟨j, t, hd, rfl⟩ := y.get hP
    refine ⟨t, ?_⟩
    simp [List.getD_eq_getElem?_getD, hd]
  · intro h' t' hk
    rw [preSum_getD, y.length]
    have : (X.map (·.2)).take X.length = X.map (·.2) := by rw [List.take_of_length_le (by simp)]
    rw [this]
    exact q h' t' fun b o e' => hk b o (Nat.ne_of_lt (Heap.lt_size e')) (Heap.get?_push_of_some _ e')
theorem i_pow2 {a : Int} {t u : Tok} (hb : Builtin.Int.intBits a ≤ 1000) (q : ∀ t', P (.int (a ^ 2) t') h) : WP prog w A (binaryOp .Pow (.int a t) (.int 2 u)) h P :=
  .of fun Q E gs dr tk os c => PyProof.Rows.pow_int (by decide) (by omega) (c _ _ _ (q _))
end
end Mine
end

section
set_option maxRecDepth 100000
set_option Elab.async false
set_option linter.unusedVariables false
set_option linter.unusedSimpArgs false
set_option autoImplicit false
namespace Mine
open PySem PySem.Calls PySem.W PyProof.Rows
local macro_rules | `(tactic| walk_at "lk") => `(tactic| first | assumption | exact upd_self | (refine' upd_ne (by decide) ?lkE; case lkE => walk_at "lk"))

noncomputable def sW (i : Nat) : Int := ((W15.take i).map fun ps => 2 * withinF ps 6).sum
noncomputable def sA (i : Nat) : Int := ((W15.take i).map fun ps => 3 * acrossF ps 6).sum
noncomputable def sP (T : Mx) (i : Nat) : Int := ((W15.take i).map (prodF T)).sum
theorem sum_step {f : Pairs → Int} {i : Nat} {ps : Pairs} (h : W15[i]? = some ps) : f ps + ((W15.take i).map f).sum = ((W15.take (i + 1)).map f).sum := by
  rw [List.take_add_one, h]; simp; omega
theorem sW_all : sW 15 = 30 ∧ sA 15 = 45 := by decide +kernel
theorem due_sum (T : Mx) : sumVals (dueF T W15) = sP T 15 := by
  obtain ⟨a, b, c, d, e, -, h⟩ := due_four T
  rw [e]
  unfold sumVals sP
  rw [show W15.take 15 = W15 from rfl, ← h]
  simp; omega
theorem keep_sums (T : Mx) : sumVals (keepF (dueF T W15) 0) + sumVals (keepF (dueF T W15) 1) = sP T 15 ∧ sumVals (keepF (dueF T W15) 0) - sumVals (keepF (dueF T W15) 1) = Pf T := by
  obtain ⟨a, b, c, d, e, h1, h2⟩ := due_four T
  have k0 : keepF [(0, a), (1, b), (2, c), (3, d)] 0 = [(0, a), (2, c)] := by rfl
  have k1 : keepF [(0, a), (1, b), (2, c), (3, d)] 1 = [(1, b), (3, d)] := by rfl
  rw [e, k0, k1]
  unfold sP
  rw [show W15.take 15 = W15 from rfl, ← h2]
  simp [sumVals]
  omega
theorem pf_bits {T : Mx} (t : Tab T) (s : Skew T) : Builtin.Int.intBits (Pf T) ≤ 1000 := by
  have h : ∀ i j k l m n, i < 6 → j < 6 → k < 6 → l < 6 → m < 6 → n < 6 → -1000000000000 ≤ ent T i j * (ent T k l * ent T m n) ∧ ent T i j * (ent T k l * ent T m n) ≤ 1000000000000 := by
    intro i j k l m n hi hj hk hl hm hn
    obtain ⟨-, -, -, h1⟩ := t.at hi hj
    obtain ⟨-, -, -, h2⟩ := t.at hk hl
    obtain ⟨-, -, -, h3⟩ := t.at hm hn
    have : (ent T i j * (ent T k l * ent T m n)).natAbs ≤ 10000 * (10000 * 10000) := by
      rw [Int.natAbs_mul, Int.natAbs_mul]
      exact Nat.mul_le_mul h1 (Nat.mul_le_mul h2 h3)
    omega
  have hb : (Pf T).natAbs < 2 ^ 60 := by
    have e : Pf T = 0 + ent T 0 1 * (ent T 2 3 * ent T 4 5) - ent T 0 1 * (ent T 2 4 * ent T 3 5) + ent T 0 1 * (ent T 2 5 * ent T 3 4) - ent T 0 2 * (ent T 1 3 * ent T 4 5) + ent T 0 2 * (ent T 1 4 * ent T 3 5) - ent T 0 2 * (ent T 1 5 * ent T 3 4) + ent T 0 3 * (ent T 1 2 * ent T 4 5) - ent T 0 3 * (ent T 1 4 * ent T 2 5) + ent T 0 3 * (ent T 1 5 * ent T 2 4) - ent T 0 4 * (ent T 1 2 * ent T 3 5) + ent T 0 4 * (ent T 1 3 * ent T 2 5) - ent T 0 4 * (ent T 1 5 * ent T 2 3) + ent T 0 5 * (ent T 1 2 * ent T 3 4) - ent T 0 5 * (ent T 1 3 * ent T 2 4) + ent T 0 5 * (ent T 1 4 * ent T 2 3) := by unfold Pf; grind
    rw [e]
    have a0 := h 0 1 2 3 4 5 (by omega) (by omega) (by omega) (by omega) (by omega) (by omega)
    have a1 := h 0 1 2 4 3 5 (by omega) (by omega) (by omega) (by omega) (by omega) (by omega)
    have a2 := h 0 1 2 5 3 4 (by omega) (by omega) (by omega) (by omega) (by omega) (by omega)
    have a3 := h 0 2 1 3 4 5 (by omega) (by omega) (by omega) (by omega) (by omega) (by omega)
    have a4 := h 0 2 1 4 3 5 (by omega) (by omega) (by omega) (by omega) (by omega) (by omega)
    have a5 := h 0 2 1 5 3 4 (by omega) (by omega) (by omega) (by omega) (by omega) (by omega)
    have a6 := h 0 3 1 2 4 5 (by omega) (by omega) (by omega) (by omega) (by omega) (by omega)
    have a7 := h 0 3 1 4 2 5 (by omega) (by omega) (by omega) (by omega) (by omega) (by omega)
    have a8 := h 0 3 1 5 2 4 (by omega) (by omega) (by omega) (by omega) (by omega) (by omega)
    have a9 := h 0 4 1 2 3 5 (by omega) (by omega) (by omega) (by omega) (by omega) (by omega)
    have a10 := h 0 4 1 3 2 5 (by omega) (by omega) (by omega) (by omega) (by omega) (by omega)
    have a11 := h 0 4 1 5 2 3 (by omega) (by omega) (by omega) (by omega) (by omega) (by omega)
    have a12 := h 0 5 1 2 3 4 (by omega) (by omega) (by omega) (by omega) (by omega) (by omega)
    have a13 := h 0 5 1 3 2 4 (by omega) (by omega) (by omega) (by omega) (by omega) (by omega)
    have a14 := h 0 5 1 4 2 3 (by omega) (by omega) (by omega) (by omega) (by omega) (by omega)
    generalize ent T 0 1 * (ent T 2 3 * ent T 4 5) = p0 at a0 ⊢
    generalize ent T 0 1 * (ent T 2 4 * ent T 3 5) = p1 at a1 ⊢
    generalize ent T 0 1 * (ent T 2 5 * ent T 3 4) = p2 at a2 ⊢
    generalize ent T 0 2 * (ent T 1 3 * ent T 4 5) = p3 at a3 ⊢
    generalize ent T 0 2 * (ent T 1 4 * ent T 3 5) = p4 at a4 ⊢
    generalize ent T 0 2 * (ent T 1 5 * ent T 3 4) = p5 at a5 ⊢
    generalize ent T 0 3 * (ent T 1 2 * ent T 4 5) = p6 at a6 ⊢
    generalize ent T 0 3 * (ent T 1 4 * ent T 2 5) = p7 at a7 ⊢
    generalize ent T 0 3 * (ent T 1 5 * ent T 2 4) = p8 at a8 ⊢
    generalize ent T 0 4 * (ent T 1 2 * ent T 3 5) = p9 at a9 ⊢
    generalize ent T 0 4 * (ent T 1 3 * ent T 2 5) = p10 at a10 ⊢
    generalize ent T 0 4 * (ent T 1 5 * ent T 2 3) = p11 at a11 ⊢
    generalize ent T 0 5 * (ent T 1 2 * ent T 3 4) = p12 at a12 ⊢
    generalize ent T 0 5 * (ent T 1 3 * ent T 2 4) = p13 at a13 ⊢
    generalize ent T 0 5 * (ent T 1 4 * ent T 2 3) = p14 at a14 ⊢
    omega
  unfold Builtin.Int.intBits
  split
  · omega
  · rename_i hx
    have := (Nat.log2_lt (n := (Pf T).natAbs) (k := 60) (by simp at hx; omega)).mpr hb
    omega
end Mine
end

section
set_option maxRecDepth 100000
set_option Elab.async false
set_option linter.unusedVariables false
set_option linter.unusedSimpArgs false
set_option autoImplicit false
namespace Mine
open PySem PySem.Calls PySem.W PyProof.Rows
local macro_rules | `(tactic| walk_at "lk") => `(tactic| first | assumption | exact upd_self | (refine' upd_ne (by decide) ?lkE; case lkE => walk_at "lk"))

inductive VI1 (L D pc dp : Addr) (oL : Obj) (X : List (Int × Int)) (par : Int) (i : Nat) (m' : Loc) (fr : Know) (own : List (Addr × Res)) : Prop
  | mk (kvs : List (Int × Value)) (e : own = [(L, .obj oL), (D, .dct kvs), (pc, .cell (some (.ref dp)))]) (y : IntVals kvs (keepF (X.take i) par))
section
variable {prog : Program} {w : World} {A : Around} {h : Heap} {κ : Know} {a : Ad} {d : Nat}
theorem dictAt_of {h h' : Heap} {d : Addr} {kvs : List (Int × Value)} {ep : Nat} {o : Obj} (x : h.DictAt (intKind prog w) d kvs ep) (e : h.get? d = some o) (e' : h'.get? d = some o) : h'.DictAt (intKind prog w) d kvs ep := by
  obtain ⟨o', es, g, r⟩ := x
  rw [e] at g
  exact ⟨o', es, by rw [e']; exact g, r⟩

set_option maxHeartbeats 2000000 in
theorem law_end (lv : Lv A d) (hd : d ≤ 10) (B : Base prog w a κ) {fr : Know} {L pc fa : Addr} {cd : Value} {m : Loc} {vp vt rtv : Value} {T : Mx} (tb : Tab T) (sk : Skew T) (S : Sat prog w κ fr L m [(pc, .cell (some vp))] h)
    (m1 : m "table" = some vt) (m3 : m "total" = some rtv) (rp : Rep prog w fr vp (.dct (dueF T W15))) (rt : Rep prog w fr vt (.lst (T.map .ints))) (rtot : Rep prog w fr rtv (Stats 15 30 45 (sP T 15) (dueF T W15))) :
    WP prog w A (execs ((bodyOf 22).drop 7) (genv 22 L fa cd [("products", pc)])) h fun f h' => f = .ret (.bool true) ∧ ∀ b o, κ b = some o → h'.get? b = some o := by
  have hX : ((dueF T W15).map (·.1)).Nodup := dueF_nodup T _
  have hXl : (dueF T W15).length ≤ 15 := dueF_len T _
  obtain ⟨dp, op, kvp, rfl, ep, xp, yp, hsp⟩ := rp.dict
  refine x_assign (e_call_d (f := a.count) (v_global (v := .ref a.count) B.glo S.base (by simp [Ad.gl]) ⟨rfl, e_dc [("products", pc)] (v_cell S (.head _) ?_)⟩))
  refine pi_dict hsp (S.fsub _ _ ep) xp fun ep0 hat0 => ⟨_, _, _, _, S.push (.obj (KI dp kvp.length ep0)) rfl rfl, fun D C h₃ oL S' => ?_⟩
  have hat3 := dictAt_of hat0 (S.fsub _ _ ep) (S'.fsub _ _ ep)
  refine ⟨self_keys lv.hh (I := h.objs.size) (by obtain ⟨_, g, e⟩ := S'.at (.tail _ (.tail _ (.head _))); cases e; exact g) hat3, ?_⟩
  refine it_keys (env := compEnvC _ _ C _) lv.hh (loop_bd) BD.mono (.inr rfl) ep yp hat3 (S'.perm (own' := (h.objs.size, .obj (KI dp kvp.length ep0)) :: (L, .obj oL) :: (D, .dct []) :: (pc, .cell (some (.ref dp))) :: []) (perm3 _ _ _ _))
    (VI1 L D pc dp oL (dueF T W15) 0) ⟨[], rfl, by simp [keepF, IntVals]⟩ ?_ ?_
  · rintro i k j t m' fr' own o h₄ hij ⟨kvs, rfl, hI⟩ hle S
    have hmem : (k, j) ∈ dueF T W15 := List.mem_of_getElem? hij
    have hj : dget (dueF T W15) k = some j := dget_mem hX (k, j) hmem
    refine a_name (store S fun h₅ S => WPT.one (t_cmp (e_bin (v_local S upd_self (e_int fun t1 => i_mod (by decide) fun t2 => e_int fun t3 => i_eq (c_bool ?_))))))
    have hk := keepF_take (par := 0) hij
    have hlen := keepF_len ((dueF T W15).take i) 0
    by_cases hc : k.fmod 2 = 0
    · rw [if_pos (by simpa using hc)]
      refine v_local S upd_self (e_sub (v_cell S (.tail _ (.tail _ (.tail _ (.head _)))) (v_local S upd_self (d_get (S.fsub _ _ (hle _ _ ep)) xp yp hj fun t5 => ?_))))
      refine d_setc S (.tail (.tail .head)) (by have := hI.length; rw [List.length_take] at hlen; omega) fun h₆ S => ⟨_, _, _, Know.le.refl _, ⟨_, rfl, ?_⟩, S⟩
      rw [hk, if_pos hc]
      exact hI.put _ _ _
    · rw [if_neg (by simpa using hc)]
      refine ⟨_, _, _, Know.le.refl _, ⟨_, rfl, ?_⟩, S⟩
      rw [hk, if_neg hc]
      exact hI
  rintro m' fr2 own h₄ ⟨kvs, rfl, hI⟩ hle S
  rw [List.take_length] at hI
  refine ⟨_, _, _, S, fun h₅ S => ?_⟩
  obtain ⟨fr3, le3, r3, S⟩ := frz_dict (pre := []) S rfl hI (B.noSysF (S.hown _ (.head _)).2.1)
  refine ⟨(B.count _ S.base).fn, count_calls_spec lv (by omega) (B.all S.base) (r3.mono S.fsub) fun h₆ te k6 => ?_⟩
  have le6 : Know.le fr3 _ := Know.le_or fr3 (fresh h₅ h₆)
  have S := S.called k6
  have le6 := (hle.trans le3).trans le6
  refine store S fun h₆ S => ?_
  have ep2 := le6 _ _ ep
  refine x_assign (e_call_d (f := a.count) (v_global (v := .ref a.count) B.glo S.base (by simp [Ad.gl]) ⟨rfl, e_dc [("products", pc)] (v_cell S (.head _) ?_)⟩))
  refine pi_dict hsp (S.fsub _ _ ep2) xp fun ep1 hat1 => ⟨_, _, _, _, S.push (.obj (KI dp kvp.length ep1)) rfl rfl, fun D2 C2 h₇ oL2 S' => ?_⟩
  have hat7 := dictAt_of hat1 (S.fsub _ _ ep2) (S'.fsub _ _ ep2)
  refine ⟨self_keys lv.hh (I := h₆.objs.size) (by obtain ⟨_, g, e⟩ := S'.at (.tail _ (.tail _ (.head _))); cases e; exact g) hat7, ?_⟩
  refine it_keys (env := compEnvC _ _ C2 _) lv.hh (loop_bd) BD.mono (.inr rfl) ep2 yp hat7 (S'.perm (own' := (h₆.objs.size, .obj (KI dp kvp.length ep1)) :: (L, .obj oL2) :: (D2, .dct []) :: (pc, .cell (some (.ref dp))) :: []) (perm3 _ _ _ _))
    (VI1 L D2 pc dp oL2 (dueF T W15) 1) ⟨[], rfl, by simp [keepF, IntVals]⟩ ?_ ?_
  · rintro i k j t m' fr' own o h₄ hij ⟨kvs, rfl, hI⟩ hle S
    have hmem : (k, j) ∈ dueF T W15 := List.mem_of_getElem? hij
    have hj : dget (dueF T W15) k = some j := dget_mem hX (k, j) hmem
    refine a_name (store S fun h₅ S => WPT.one (t_cmp (e_bin (v_local S upd_self (e_int fun t1 => i_mod (by decide) fun t2 => e_int fun t3 => i_eq (c_bool ?_))))))
    have hk := keepF_take (par := 1) hij
    have hlen := keepF_len ((dueF T W15).take i) 1
    by_cases hc : k.fmod 2 = 1
    · rw [if_pos (by simpa using hc)]
      refine v_local S upd_self (e_sub (v_cell S (.tail _ (.tail _ (.tail _ (.head _)))) (v_local S upd_self (d_get (S.fsub _ _ (hle _ _ ep2)) xp yp hj fun t5 => ?_))))
      refine d_setc S (.tail (.tail .head)) (by have := hI.length; rw [List.length_take] at hlen; omega) fun h₆ S => ⟨_, _, _, Know.le.refl _, ⟨_, rfl, ?_⟩, S⟩
      rw [hk, if_pos hc]
      exact hI.put _ _ _
    · rw [if_neg (by simpa using hc)]
      refine ⟨_, _, _, Know.le.refl _, ⟨_, rfl, ?_⟩, S⟩
      rw [hk, if_neg hc]
      exact hI
  rintro m' fr4 own h₈ ⟨kvs2, rfl, hI2⟩ hle2 S
  rw [List.take_length] at hI2
  refine ⟨_, _, _, S, fun h₉ S => ?_⟩
  obtain ⟨fr5, le5, r5, S⟩ := frz_dict (pre := []) S rfl hI2 (B.noSysF (S.hown _ (.head _)).2.1)
  refine ⟨(B.count _ S.base).fn, count_calls_spec lv (by omega) (B.all S.base) (r5.mono S.fsub) fun h₁₀ to k10 => ?_⟩
  have le10 : Know.le fr5 _ := Know.le_or fr5 (fresh h₉ h₁₀)
  have S := S.called k10
  have le10 := le6.trans ((hle2.trans le5).trans le10)
  have rt := rt.mono le10
  have rtot := rtot.mono le10
  refine store S fun h₁₁ S => ?_
  refine x_ret (e_and (e_cmp (e_bin (v_local S (by walk_at "lk") (v_local S (by walk_at "lk") (i_add fun t20 => ?_))))))
  refine e_sub (v_local S (by walk_at "lk") (e_int fun t21 => r_tuple (d := .int (sP T 15)) S.fsub rtot (by decide) rfl (by decide) fun v22 r22 => ?_))
  obtain ⟨t22, rfl⟩ := r22.intv
  rw [(keep_sums T).1]
  refine i_eq (c_bool ?_)
  rw [if_pos (by simp)]
  refine e_cmp (e_bin (e_bin (v_local S (by walk_at "lk") (v_local S (by walk_at "lk") (i_sub fun t23 => e_int fun t24 => ?_)))))
  rw [(keep_sums T).2]
  refine i_pow2 (pf_bits tb sk) fun t25 => ?_
  refine e_call_d (f := a.det) (v_global (v := .ref a.det) B.glo S.base (by simp [Ad.gl]) ⟨rfl, v_local S (by walk_at "lk") ⟨(B.det _ S.base).fn, ?_⟩⟩)
  refine det_spec lv (by omega) (B.all S.base) tb.mat (rt.mono S.fsub) fun h₁₂ t26 k12 => ?_
  rw [det_pf tb sk]
  have S := S.called k12
  exact i_eq ⟨by simp, fun b o e => S.base b o e⟩
end
end Mine
end

section
set_option maxRecDepth 100000
set_option Elab.async false
set_option linter.unusedVariables false
set_option linter.unusedSimpArgs false
set_option autoImplicit false
namespace Mine
open PySem PySem.Calls PySem.W PyProof.Rows
local macro_rules | `(tactic| walk_at "lk") => `(tactic| first | assumption | exact upd_self | (refine' upd_ne (by decide) ?lkE; case lkE => walk_at "lk"))

inductive VI2 (prog : Program) (w : World) (pc : Addr) (vt vw : Value) (T : Mx) (i : Nat) (m : Loc) (fr : Know) (own : List (Addr × Res)) : Prop
  | mk (e : own = [(pc, .cell none)]) (m1 : m "table" = some vt) (m2 : m "ways" = some vw) (v : Value) (m3 : m "total" = some v) (r : Rep prog w fr v (Stats (i : Int) (sW i) (sA i) (sP T i) (dueF T (W15.take i))))
section
variable {prog : Program} {w : World} {A : Around} {h : Heap} {κ : Know} {a : Ad} {d : Nat}
set_option maxHeartbeats 8000000 in
theorem law_walk (lv : Lv A d) (hd : d ≤ 10) (B : Base prog w a κ) {L pc sa fa : Addr} {cd : Value} {m : Loc} {vs : List Value} {ns : List Int} (S : Sat prog w κ Know.nil L m [(pc, .cell none)] h) (ms : m "script" = some (.ref sa)) (hl : h.IsList sa vs.toArray) (hi : IntsAre vs ns) (hlen : vs.length ≤ 1000) :
    WP prog w A (execs (bodyOf 22) (genv 22 L fa cd [("products", pc)])) h fun f h' => f = .ret (.bool true) ∧ ∀ b o, κ b = some o → h'.get? b = some o := by
  -- the table
  refine x_assign (e_call_d (f := a.table) (v_global (v := .ref a.table) B.glo S.base (by simp [Ad.gl]) ⟨rfl, v_local S (by walk_at "lk") ⟨(B.table _ S.base).fn, ?_⟩⟩))
  refine table_spec lv (by omega) (B.all S.base) hl hi hlen fun h₁ vt T k1 tb sk rt => ?_
  have rt := rt.mono (S.right h₁)
  have S := S.called k1
  refine store S fun h₁ S => ?_
  -- the ways
  refine x_assign (e_call_d (f := a.ways) (v_global (v := .ref a.ways) B.glo S.base (by simp [Ad.gl]) ⟨rfl, e_list_frz (e_int fun t0 => e_int fun t1 => e_int fun t2 => e_int fun t3 => e_int fun t4 => e_int fun t5 => ⟨by simp, _, _, _, _, _, [0, 1, 2, 3, 4, 5].map .int, S, .cons .int (.cons .int (.cons .int (.cons .int (.cons .int (.cons .int .nil))))), fun fr2 Wl h₂ le2 rl S => ⟨(B.ways _ S.base).fn, ?_⟩⟩)⟩))
  refine ways_spec 6 (by omega) (l := [0, 1, 2, 3, 4, 5]) (by decide) (by omega) lv (B.all S.base) (rl.mono S.fsub) fun h₃ vw k3 rw3 => ?_
  rw [ways_W15] at rw3
  have rw3 := rw3.mono (S.right h₃)
  have rt := (rt.mono le2).mono (Know.le_or _ (fresh h₂ h₃))
  have S := S.called k3
  refine store S fun h₃ S => ?_
  -- the total
  refine x_assign (e_tuple_frz (e_int fun t0 => e_int fun t1 => e_int fun t2 => e_int fun t3 => e_dict0 ?_))
  have S := own_dict S
  obtain ⟨fr4, le4, r4, S⟩ := frz_dict (pre := []) (ds := []) S rfl True.intro (B.noSysF (S.hown _ (.head _)).2.1)
  refine ⟨by simp, _, _, _, _, _, [.int 0, .int 0, .int 0, .int 0, .dct []], S, .cons .int (.cons .int (.cons .int (.cons .int (.cons r4 .nil)))), fun fr5 Wt h₄ le5 rtot S => store S fun h₄ S => ?_⟩
  have rt := rt.mono (le4.trans le5)
  have rw3 := rw3.mono (le4.trans le5)
  refine x_for_list lv.hh S (VI2 prog w pc vt vw T)
    (v_local S (by walk_at "lk") ⟨_, _, _, _, _, rw3, .inr rfl, S, ⟨rfl, by walk_at "lk", by walk_at "lk", _, by walk_at "lk", rtot⟩, ?_, ?_⟩)
  · rintro i I dd v m fr own o h₅ hdd rv ⟨rfl, m1, m2, tv, m3, rtv⟩ hle S
    rw [List.getElem?_map] at hdd
    obtain ⟨ps, hps, rfl⟩ := Option.map_eq_some_iff.mp hdd
    have hmem : ps ∈ W15 := List.mem_of_getElem? hps
    have g := W15_good T ps hmem
    have rt := rt.mono hle
    have rv := rv.mono hle
    refine a_name (store S fun h₅ S => ?_)
    refine x_assign (e_call_d (f := a.stats) (v_global (v := .ref a.stats) B.glo S.base (by simp [Ad.gl]) ⟨rfl, v_local S (by walk_at "lk") ?_⟩))
    refine e_call_d (f := a.read) (v_global (v := .ref a.read) B.glo S.base (by simp [Ad.gl]) ⟨rfl, v_local S (by walk_at "lk") ?_⟩)
    refine e_call_d (f := a.pieces) (v_global (v := .ref a.pieces) B.glo S.base (by simp [Ad.gl]) ⟨rfl, v_local S (by walk_at "lk") (v_local S (by walk_at "lk") ⟨(B.pieces _ S.base).fn, ?_⟩)⟩)
    refine pieces_spec lv (by omega) (B.all S.base) tb (W15_valid ps hmem) (rv.mono S.fsub) (rt.mono S.fsub) fun h₆ v6 k6 r6 => ?_
    have r6 := r6.mono (S.right h₆)
    have rv := rv.mono (Know.le_or _ (fresh h₅ h₆))
    have rtv := rtv.mono (Know.le_or _ (fresh h₅ h₆))
    have S := S.called k6
    refine ⟨(B.read _ S.base).fn, read_spec lv (by omega) (B.all S.base) tb g (rv.mono S.fsub) (r6.mono S.fsub) fun h₇ v7 k7 r7 => ?_⟩
    have r7 := r7.mono (S.right h₇)
    have rtv := rtv.mono (Know.le_or _ (fresh h₆ h₇))
    have S := S.called k7
    have hdl : (dueF T (W15.take i)).length ≤ 15 := Nat.le_trans (dueF_len T _) (by rw [List.length_take]; exact Nat.le_trans (Nat.min_le_right _ _) (by decide))
    refine ⟨(B.stats _ S.base).fn, add_func_stats_spec lv (by omega) (B.all S.base) (rtv.mono S.fsub) (r7.mono S.fsub) (by simp; omega) fun h₈ v8 k8 r8 => ?_⟩
    have r8 := r8.mono (S.right h₈)
    have S := S.called k8
    refine store S fun h₈ S => x_nil ⟨_, _, _, ((Know.le_or _ _).trans (Know.le_or _ _)).trans (Know.le_or _ _), ⟨rfl, by walk_at "lk", by walk_at "lk", _, by walk_at "lk", ?_⟩, S⟩
    have e1 : (1 : Int) + (i : Int) = ((i + 1 : Nat) : Int) := by omega
    have e2 : 2 * withinF ps 6 + sW i = sW (i + 1) := sum_step (f := fun ps => 2 * withinF ps 6) hps
    have e3 : 3 * acrossF ps 6 + sA i = sA (i + 1) := sum_step (f := fun ps => 3 * acrossF ps 6) hps
    have e4 : prodR T ps 6 + sP T i = sP T (i + 1) := by rw [W15_prod T ps hmem]; exact sum_step (f := prodF T) hps
    have e5 : addC (dueF T (W15.take i)) [(acrossF ps 6, prodR T ps 6)] = dueF T (W15.take (i + 1)) := by
      rw [addC_due (dueF_nodup T _) (W15_across ps hmem) (W15_prod T ps hmem)]
      unfold dueF
      rw [List.take_add_one, hps]; simp
    rw [e1, e2, e3, e4, e5] at r8
    exact r8
  rintro m fr own h₅ ⟨rfl, m1, m2, tv, m3, rtv⟩ hle S
  have rtv : Rep prog w fr tv (Stats 15 30 45 (sP T 15) (dueF T W15)) := by
    have e1 : ((W15.map dPairs).length : Int) = 15 := rfl
    have e2 : (W15.map dPairs).length = 15 := rfl
    rw [e2] at rtv
    rw [sW_all.1, sW_all.2] at rtv
    exact rtv
  have rt := rt.mono hle
  have rw3 := rw3.mono hle
  -- what is due
  refine x_assign (e_call_d (f := a.due) (v_global (v := .ref a.due) B.glo S.base (by simp [Ad.gl]) ⟨rfl, v_local S (by walk_at "lk") (v_local S (by walk_at "lk") ⟨(B.due _ S.base).fn, ?_⟩)⟩))
  refine due_spec lv (by omega) (B.all S.base) tb (ws := W15) (fun ps hps => ⟨by have := (W15_good T ps hps).len; omega, W15_valid ps hps⟩) (by decide) (rw3.mono S.fsub) (rt.mono S.fsub) fun h₆ vd k6 rd => ?_
  have rd := rd.mono (S.right h₆)
  have rt := rt.mono (Know.le_or _ (fresh h₅ h₆))
  have rtv := rtv.mono (Know.le_or _ (fresh h₅ h₆))
  have S := S.called k6
  refine store S fun h₆ S => ?_
  -- the comparison
  obtain ⟨dd, od, kd, rfl, ed, xd, yd, hsd⟩ := rd.dict
  have edh := S.fsub _ _ ed
  refine x_if (t_cmp (v_local S (by walk_at "lk") (e_tuple_frz (e_int fun t0 => e_int fun t1 => e_int fun t2 => ?_))))
  refine e_call_b (v_builtin (v := .builtin "sum") B.glo S.base (by simp [biNames]) ⟨rfl, e_meth F.plainAttrs_dict F.slot_dict_values F.type_dict_values (v_local S (by walk_at "lk") ⟨TyH.ref edh (by obtain ⟨_, _, z, _⟩ := xd; exact z.1), fun _ z => by cases z; exact ⟨_, edh, by obtain ⟨_, _, z, _⟩ := xd; exact z.2.1⟩, ?_⟩)⟩)
  refine d_values hsd edh xd ?_
  obtain ⟨fr7, le7, e7, S⟩ := S.fnew (o := ViO "dict_values" dd) rfl
  refine sum_vals lv.hh (S.fsub _ _ e7) (S.fsub _ _ (le7 _ _ ed)) xd yd fun h₇ t3 k7 => ?_
  rw [due_sum]
  have S := S.keeps k7
  refine v_local S (by walk_at "lk") ⟨by simp, _, _, _, _, _, [.int 15, .int 30, .int 45, .int (sP T 15), .dct (dueF T W15)], S, .cons .int (.cons .int (.cons .int (.cons .int (.cons (rd.mono le7) .nil)))), fun fr8 W8 h₈ le8 r8 S => ?_⟩
  refine ne_stats lv (by omega) (fun _ _ e => e) ((rtv.mono (le7.trans le8)).mono S.fsub) (r8.mono S.fsub) (c_bool ?_)
  rw [if_neg Bool.false_ne_true]
  have rt := rt.mono (le7.trans le8)
  have rtv := rtv.mono (le7.trans le8)
  refine x_nil (x_assign (e_sub (v_local S (by walk_at "lk") (e_int fun t4 => r_tuple (d := .dct (dueF T W15)) S.fsub rtv (by decide) rfl (by decide) fun vp rp => store_cell S .head fun h₉ S => ?_))))
  exact law_end lv hd B tb sk S (by walk_at "lk") (by walk_at "lk") rp rt rtv
end
end Mine
end

section
open PySem PySem.W PyProof.Rows
set_option Elab.async false
namespace Mine
set_option maxRecDepth 100000 in
set_option maxHeartbeats 8000000 in
open_top hd for PySem.Challenge.rw_xg0021_01
end Mine
end

section
set_option maxRecDepth 100000
set_option Elab.async false
set_option linter.unusedVariables false
set_option linter.unusedSimpArgs false
set_option autoImplicit false
namespace Mine
open PySem PySem.Calls PySem.W PyProof.Rows
noncomputable def adL : Ad := ⟨38, 45, 52, 61, 105, 118, 123, 130, 137, 142, 147, 152, 110, .ref 53, .ref 54, .ref 111⟩
section
variable {w : World} {h : Heap}
set_option maxHeartbeats 4000000
theorem fn_stats (K : (Mine.hd.heap_39 w.params).In h) : FnAt h 38 2 .none .none := ⟨_, _, _, _, _, _, _, _, K 38 _ rfl, ⟨_, _, _, _, rfl, K 37 _ rfl, rfl, rfl⟩⟩
theorem fn_callers (K : (Mine.hd.heap_39 w.params).In h) : FnAt h 45 3 .none .none := ⟨_, _, _, _, _, _, _, _, K 45 _ rfl, ⟨_, _, _, _, rfl, K 44 _ rfl, rfl, rfl⟩⟩
theorem fn_count (K : (Mine.hd.heap_39 w.params).In h) : FnAt h 52 4 .none .none := ⟨_, _, _, _, _, _, _, _, K 52 _ rfl, ⟨_, _, _, _, rfl, K 51 _ rfl, rfl, rfl⟩⟩
theorem fn_bisect (K : (Mine.hd.heap_39 w.params).In h) : FnAt h 61 6 (.ref 53) (.ref 54) := ⟨_, _, _, _, _, _, _, _, K 61 _ rfl, ⟨_, _, _, _, rfl, K 60 _ rfl, rfl, rfl⟩⟩
theorem fn_parse (K : (Mine.hd.heap_39 w.params).In h) : FnAt h 105 11 .none .none := ⟨_, _, _, _, _, _, _, _, K 105 _ rfl, ⟨_, _, _, _, rfl, K 104 _ rfl, rfl, rfl⟩⟩
theorem fn_paren (K : (Mine.hd.heap_39 w.params).In h) : FnAt h 118 14 (.ref 111) .none := ⟨_, _, _, _, _, _, _, _, K 118 _ rfl, ⟨_, _, _, _, rfl, K 117 _ rfl, rfl, rfl⟩⟩
theorem fn_table (K : (Mine.hd.heap_39 w.params).In h) : FnAt h 123 16 .none .none := ⟨_, _, _, _, _, _, _, _, K 123 _ rfl, ⟨_, _, _, _, rfl, K 122 _ rfl, rfl, rfl⟩⟩
theorem fn_ways (K : (Mine.hd.heap_39 w.params).In h) : FnAt h 130 17 .none .none := ⟨_, _, _, _, _, _, _, _, K 130 _ rfl, ⟨_, _, _, _, rfl, K 129 _ rfl, rfl, rfl⟩⟩
theorem fn_pieces (K : (Mine.hd.heap_39 w.params).In h) : FnAt h 137 18 .none .none := ⟨_, _, _, _, _, _, _, _, K 137 _ rfl, ⟨_, _, _, _, rfl, K 136 _ rfl, rfl, rfl⟩⟩
theorem fn_read (K : (Mine.hd.heap_39 w.params).In h) : FnAt h 142 19 .none .none := ⟨_, _, _, _, _, _, _, _, K 142 _ rfl, ⟨_, _, _, _, rfl, K 141 _ rfl, rfl, rfl⟩⟩
theorem fn_due (K : (Mine.hd.heap_39 w.params).In h) : FnAt h 147 20 .none .none := ⟨_, _, _, _, _, _, _, _, K 147 _ rfl, ⟨_, _, _, _, rfl, K 146 _ rfl, rfl, rfl⟩⟩
theorem fn_det (K : (Mine.hd.heap_39 w.params).In h) : FnAt h 152 21 .none .none := ⟨_, _, _, _, _, _, _, _, K 152 _ rfl, ⟨_, _, _, _, rfl, K 151 _ rfl, rfl, rfl⟩⟩
end
end Mine
end

section
set_option maxRecDepth 100000
set_option Elab.async false
set_option linter.unusedVariables false
set_option linter.unusedSimpArgs false
set_option autoImplicit false
namespace Mine
open PySem PySem.Calls PySem.W PyProof.Rows
section
variable {w : World} {h : Heap}
set_option maxHeartbeats 4000000
theorem Sub.inK {K : Frag} {h h' : Heap} (x : K.In h) (s : Sub h.get? h') : K.In h' := x.keeps fun b o e => s b o e
theorem pat_of (K : (Mine.hd.heap_39 w.params).In h) : PatO h.get? 110 :=
  ⟨_, _, 109, _, _, _, K 110 _ rfl, rfl, rfl, rfl, rfl, rfl, rfl, K 109 _ rfl, rfl, by with_unfolding_all rfl⟩
theorem bisd_of (K : (Mine.hd.heap_39 w.params).In h) : ∃ T n t, adL.bisD = .ref T ∧ h.get? T = some (TO [.int 0 t, .none] n) := ⟨53, _, _, rfl, K 53 _ rfl⟩
theorem pard_of (K : (Mine.hd.heap_39 w.params).In h) : ∃ T n t, adL.parD = .ref T ∧ h.get? T = some (TO [.int 0 t] n) := ⟨111, _, _, rfl, K 111 _ rfl⟩
theorem bisk_of (K : (Mine.hd.heap_39 w.params).In h) : ∃ T mk, adL.bisK = .ref T ∧ mk ("key" : Str) = some .none ∧ ∀ h', Sub h.get? h' → h'.Ns T mk := by
  refine ⟨54, nsFind _, rfl, ?_, fun h' s => ⟨_, _, _, s _ _ (K 54 _ rfl), rfl, ?_, fun _ => rfl⟩⟩
  · rfl
  · intro e he
    rw [List.mem_toArray] at he
    rcases List.mem_cons.mp he with rfl | he
    · exact ⟨_, _, rfl⟩
    · cases he
theorem glo_of (K : (Mine.hd.heap_39 w.params).In h) {mg mb : Str → Option Value} (g : h.Ns mainGlobals mg) (b : h.Ns builtinsNs mb) (hb : ∀ x : Str, x ≠ "__name__" → mb x = bootBuiltins x) : Glo h.get? adL.gl biNames := by
  refine ⟨fun h' s => ⟨mg, mb, g.keepsP s, b.keepsP s, ?_, ?_⟩⟩
  · obtain ⟨o, es, ep, e, d, _, f⟩ := g
    have e3 := K mainGlobals _ rfl
    rw [e] at e3
    cases e3
    cases d
    intro p hp
    rw [← f]
    simp only [Ad.gl, List.mem_cons, List.not_mem_nil, or_false] at hp
    rcases hp with rfl | rfl | rfl | rfl | rfl | rfl | rfl | rfl | rfl | rfl | rfl | rfl | rfl <;> rfl
  · obtain ⟨o, es, ep, e, d, _, f⟩ := g
    have e3 := K mainGlobals _ rfl
    rw [e] at e3
    cases e3
    cases d
    intro p hp
    rw [← f]
    simp only [biNames, List.mem_cons, List.not_mem_nil, or_false] at hp
    rcases hp with rfl | rfl | rfl | rfl | rfl | rfl | rfl | rfl <;> exact ⟨rfl, (hb _ (by decide)).trans rfl⟩
theorem base_of {prog : Program} (K : (Mine.hd.heap_39 w.params).In h) {mg mb : Str → Option Value} (g : h.Ns mainGlobals mg) (b : h.Ns builtinsNs mb) (hb : ∀ x : Str, x ≠ "__name__" → mb x = bootBuiltins x) (nl : h.NoLimit) (ns : h.NoSeer) : Base prog w adL h.get? where
  glo := glo_of K g b hb
  sysm := by obtain ⟨mm, ⟨o, es, ep, e, _⟩, _⟩ := ns.mods; exact ⟨o, e⟩
  lim := fun h' s => by obtain ⟨mc, a, b⟩ := nl; exact ⟨mc, a.keepsP s, b⟩
  stats := fun h' s => fn_stats (Sub.inK K s)
  callers := fun h' s => fn_callers (Sub.inK K s)
  count := fun h' s => fn_count (Sub.inK K s)
  bisect := fun h' s => fn_bisect (Sub.inK K s)
  parse := fun h' s => fn_parse (Sub.inK K s)
  paren := fun h' s => fn_paren (Sub.inK K s)
  table := fun h' s => fn_table (Sub.inK K s)
  ways := fun h' s => fn_ways (Sub.inK K s)
  pieces := fun h' s => fn_pieces (Sub.inK K s)
  read := fun h' s => fn_read (Sub.inK K s)
  due := fun h' s => fn_due (Sub.inK K s)
  det := fun h' s => fn_det (Sub.inK K s)
  bisd := bisd_of K
  bisk := bisk_of K
  pard := pard_of K
  pat := pat_of K
end
end Mine
end

section
set_option Elab.async false
namespace Mine
open PySem PySem.Calls PySem.W PyProof.Rows
-- no second twin of the program for two small facts
local macro_rules | `(tactic| k_qdec) => `(tactic| decide +kernel)
theorem cell_of {cm : Str → Option Value} {n : Str} {c c' : Addr} {o : Obj} (x : CellsAre cm [(n, c)] [(c', o)]) : o.data = .cell (cm n) := by
  cases x with
  | cons h _ => exact h
theorem isList_keep {h h' : Heap} {a : Addr} {xs : Array Value} (k : ∀ b o, h.get? b = some o → h'.get? b = some o) (l : h.IsList a xs) : h'.IsList a xs := by
  obtain ⟨o, e, r⟩ := l; exact ⟨o, k _ _ e, r⟩
theorem len_of {vs : List Value} {ns : List Int} (i : IntsAre vs ns) (h : ¬ ((63 : Int) < (ns.length : Int))) : vs.length ≤ 1000 := by
  have := i.length; omega
theorem post_true (args : List WData) : PySem.Challenge.rw_xg0021_01.row.claim.post args (.bool true) args = true := by
  first | rfl | wrow_post | with_unfolding_all rfl | simp [PySem.Challenge.rw_xg0021_01, OpenLaw.row, RowW.claim]
theorem lv0 (env : Env) : Lv (callerA.deeper env) 1 := ⟨rfl, by show callerA.depth + 1 ≤ 1 + 400; decide, by show callerA.units + 3 ≤ 10 * 1; decide⟩
set_option maxRecDepth 100000 in
set_option maxHeartbeats 8000000 in
theorem all_holds : PySem.Challenge.rw_xg0021_01.Holds := Mine.hd (by
  k_go0
  have K := ‹(Mine.hd.heap_39 _).In _›
  have G := ‹Glob 0 _ _ _ _ _ _ _›
  have F := ‹Fr _ _ _ _›
  have N := ‹News _ _ _ _›
  have X := ‹CellsAre _ _ _›
  have hI := ‹IntsAre _ _›
  have hL := ‹Heap.IsList _ _ _›
  have hc : ¬ (63 : Int) < _ := ‹¬ ((63 : Nat) : Int) < _›
  have B := base_of (prog := PySem.Challenge.rw_xg0021_01.row.prog) K G.g G.b G.builtins G.nolimit G.seer
  obtain ⟨n1, n2, n3⟩ := N _ (.head _)
  refine wpAny_mono (E := fun _ _ => False) (law_walk (d := 1) (lv0 _) (by omega) B ⟨F.keep, fun _ _ e => (by cases e), F.ns, ⟨get?_size _, rfl⟩, ?_, by simp⟩ ?_ (isList_keep F.keep hL) hI (len_of hI hc) _ _ _ _) (fun r s' ⟨h', tk', e, p1, p2⟩ => ?_) (fun _ _ e => e.elim)
  · intro p hp
    rw [List.mem_singleton] at hp
    subst hp
    exact ⟨⟨_, n1, cell_of X⟩, n3, rfl, n2⟩
  · with_unfolding_all rfl
  · subst e
    subst p1
    exact ⟨.inl ⟨_, _, _, rfl, fun _ => rfl, .bool true, post_true _, fun _ => ⟨.nil, fun _ h => by cases h⟩⟩, p2, rfl, ‹_ = #[]›⟩)
end Mine
end

theorem PySem.Challenge.cw_xg0021_01_holds : PySem.Challenge.rw_xg0021_01.Holds :=
  Mine.all_holds
