import PyProof.Rows.All
import Wide.All
import OpenK.AllK
import Wide.FinOn
import Lean
import PySem.Challenge.RW_ip0005_01
set_option Elab.async false
set_option linter.all false
set_option tactic.hygienic false
set_option maxRecDepth 100000
namespace Mine
section
open PySem PySem.W PyProof.Rows
noncomputable abbrev prg : Program := PySem.Challenge.pw_ip0005_01
noncomputable abbrev tR (w : World) (N : Nat) (s : Shared) (t : Thread) : Option Shared := topRun treeTable prg w 11 (some (.ref 6)) N s t
noncomputable def RunsX {α : Type} (w : World) (t : Sem α) (s : Shared) (q : Pos) (n : Nat) (a : α) (s' : Shared) (q' : Pos) : Prop :=
  ∀ (K : α -> Sem Fin) (H : Value -> Sem Fin) (gd : Bool -> Bool) (lv : List Value -> List Value) (c : Code) (B : List Frame) (N : Nat) (r : Shared),
    tR w N s' ⟨K a, c, q', B⟩ = some r -> tR w (n + N) s ⟨t.wrap K H gd lv, c, q, B⟩ = some r
theorem tR_mono {w : World} {N M : Nat} {s r : Shared} {t : Thread} (h : tR w N s t = some r) (le : N <= M) : tR w M s t = some r := by
  have := topRun_mono (M - N) N s t r h
  rwa [show N + (M - N) = M by lia] at this
namespace RunsX
variable {α β : Type} {w : World} {s s' s'' : Shared} {q q' q'' : Pos} {n m : Nat}
theorem le {t : Sem α} {a : α} (h : RunsX w t s q n a s' q') (l : n <= m) : RunsX w t s q m a s' q' :=
  fun K H gd lv c B N r k => tR_mono (h K H gd lv c B N r k) (by lia)
theorem pure' {a : α} : RunsX w (.pure a) s q 0 a s q := fun K H gd lv c B N r k => by rw [Nat.zero_add]; exact k
theorem pure {a : α} : RunsX w (pure a : Sem α) s q 0 a s q := pure'
theorem bind {t : Sem α} {f : α -> Sem β} {a : α} {b : β} (h : RunsX w t s q n a s' q') (k : RunsX w (f a) s' q' m b s'' q'') : RunsX w (t >>= f) s q (n + m) b s'' q'' :=
  fun K H gd lv c B N r x => by
    rw [Sem.bind_eq_wrap', Sem.wrap_wrap, show n + m + N = n + (m + N) by lia]
    exact h _ _ _ _ c B _ r (k K H gd lv c B N r x)
theorem bind0 {t : Sem α} {f : α -> Sem β} {a : α} {b : β} (h : RunsX w t s q n a s' q') (k : RunsX w (f a) s' q' m b s'' q'') : RunsX w (t.bind f) s q (n + m) b s'' q'' := bind h k
theorem keep {t : Sem α} {a : α} {vs : List Value} (h : RunsX w t s q n a s' q') : RunsX w (t.keep vs) s q n a s' q' :=
  fun K H gd lv c B N r x => by
    rw [Sem.keep_eq_wrap, Sem.wrap_wrap]
    exact h _ _ _ _ c B _ r x
theorem holding {t : Sem α} {a : α} {vs : List Value} (h : RunsX w t s q n a s' q') : RunsX w (PySem.holding vs t) s q n a s' q' := by
  unfold PySem.holding
  split
  · exact h
  · exact keep h
theorem go1 {t t' : Thread} {s s' : Shared} {N : Nat} {r : Shared} (h1 : through t = false) (h2 : stepOk 11 (some (.ref 6)) t = true) (h3 : step (denote treeTable) prg w s t = .go s' t') (k : tR w N s' t' = some r) : tR w (1 + N) s t = some r := by
  show topRun _ _ _ _ _ (1 + N) _ _ = _
  rw [show 1 + N = N + 1 by lia]
  unfold topRun
  rw [h1, h2, h3]; exact k
theorem rule {tag : String} {k : Unit -> Sem α} {a : α} (h : RunsX w (k ()) s q n a s' q') : RunsX w (.rule tag k) s q (n + 1) a s' q' :=
  fun K H gd lv c B N r x => by
    obtain ⟨hp, g, d, tk, os⟩ := s
    rw [show n + 1 + N = 1 + (n + N) by lia]
    refine go1 ?_ ?_ ?_ (h K H gd lv c B N r x)
    · simp only [through, Sem.wrap, Bool.and_false]
    · rfl
    · rfl
theorem at' {p : Pos} {k : Unit -> Sem α} {a : α} (h : RunsX w (k ()) s p n a s' q') : RunsX w (.at p k) s q (n + 1) a s' q' :=
  fun K H gd lv c B N r x => by
    obtain ⟨hp, g, d, tk, os⟩ := s
    rw [show n + 1 + N = 1 + (n + N) by lia]
    refine go1 ?_ ?_ ?_ (h K H gd lv c B N r x)
    · simp only [through, Sem.wrap, Bool.and_false]
    · rfl
    · rfl
theorem point {l : List Value} {k : Unit -> Sem α} {a : α} (h : RunsX w (k ()) s q n a s' q') : RunsX w (.point l k) s q (n + 1) a s' q' :=
  fun K H gd lv c B N r x => by
    obtain ⟨hp, g, d, tk, os⟩ := s
    rw [show n + 1 + N = 1 + (n + N) by lia]
    refine go1 ?_ ?_ ?_ (h K H gd lv c B N r x)
    · simp only [through, Sem.wrap, Bool.and_false]
    · rfl
    · rfl
theorem ask {k : Setting -> Sem α} {a : α} (h : RunsX w (k ⟨prg, w.params⟩) s q n a s' q') : RunsX w (.ask k) s q (n + 1) a s' q' :=
  fun K H gd lv c B N r x => by
    obtain ⟨hp, g, d, tk, os⟩ := s
    rw [show n + 1 + N = 1 + (n + N) by lia]
    refine go1 ?_ ?_ ?_ (h K H gd lv c B N r x)
    · simp only [through, Sem.wrap, Bool.and_false]
    · rfl
    · rfl
theorem fresh {k : Tok -> Sem α} {a : α} (h : RunsX w (k s.toks) { s with toks := s.toks + 1 } q n a s' q') : RunsX w (.fresh k) s q (n + 1) a s' q' :=
  fun K H gd lv c B N r x => by
    obtain ⟨hp, g, d, tk, os⟩ := s
    rw [show n + 1 + N = 1 + (n + N) by lia]
    refine go1 ?_ ?_ ?_ (h K H gd lv c B N r x)
    · simp only [through, Sem.wrap, Bool.and_false]
    · rfl
    · rfl
theorem alloc {o : Obj} {k : Addr -> Sem α} {a : α} (h : RunsX w (k s.heap.objs.size) { s with heap := s.heap.push o } q n a s' q') : RunsX w (.alloc o k) s q (n + 1) a s' q' :=
  fun K H gd lv c B N r x => by
    obtain ⟨hp, g, d, tk, os⟩ := s
    rw [show n + 1 + N = 1 + (n + N) by lia]
    refine go1 ?_ ?_ ?_ (h K H gd lv c B N r x)
    · simp only [through, Sem.wrap, Bool.and_false]
    · rfl
    · rfl
theorem load {ad : Addr} {p : Option Value} {o : Obj} {k : Obj -> Sem α} {a : α} (ho : s.heap.get? ad = some o) (h : RunsX w (k o) s q n a s' q') : RunsX w (.load ad p k) s q (n + 1) a s' q' :=
  fun K H gd lv c B N r x => by
    obtain ⟨hp, g, d, tk, os⟩ := s
    rw [show n + 1 + N = 1 + (n + N) by lia]
    refine go1 ?_ ?_ ?_ (h K H gd lv c B N r x)
    · simp only [through, Sem.wrap, Bool.and_false]
    · rfl
    · dsimp only at ho
      simp only [step, Sem.wrap, ho]
theorem update {ad : Addr} {p : Option Value} {f : Obj -> Obj} {o : Obj} {k : Unit -> Sem α} {a : α} (ho : s.heap.get? ad = some o) (hn : Nat.ble 11 ad = true) (h : RunsX w (k ()) { s with heap := s.heap.update ad f } q n a s' q') : RunsX w (.update ad p f k) s q (n + 1) a s' q' :=
  fun K H gd lv c B N r x => by
    obtain ⟨hp, g, d, tk, os⟩ := s
    rw [show n + 1 + N = 1 + (n + N) by lia]
    refine go1 ?_ ?_ ?_ (h K H gd lv c B N r x)
    · simp only [through, Sem.wrap, Bool.and_false]
    · simp only [stepOk, Sem.wrap, hn, Bool.true_or, Bool.and_true]
      rfl
    · dsimp only at ho
      simp only [step, Sem.wrap, ho, Option.isSome_some, if_true]
noncomputable def keptOf (cd c : Code) (l : List Value) : List Value := match cd, c with
  | .builtin _ a, _ => unmarked a.refs
  | .call f a, .builtin .. | .call f a, .call .. => unmarked (if l.contains borrowed then a.refs else f :: a.refs)
  | _, _ => []
theorem step_call {hp : Heap} {gs : Array GenState} {d : Drawn} {tk : Nat} {os : OsState} {cd c : Code} {h : Option Value} {g : Bool} {l : List Value} {k : Result -> Sem Fin} {B : List Frame} :
    step (denote treeTable) prg w ⟨hp, gs, d, tk, os⟩ ⟨.call cd h g l k, c, q, B⟩ = .go ⟨hp, gs, d, tk, os⟩ ⟨denote treeTable cd, cd, q, .ret k h g l c q (keptOf cd c l) :: B⟩ := by
  cases cd <;> cases c <;> rfl
theorem callDone {cd : Code} {h : Option Value} {g : Bool} {l : List Value} {k : Result -> Sem α} {f : Flow} {a : α} (x : RunsX w (denote treeTable cd) s q n (.done f) s' q') (y : RunsX w (k (.ok f)) s' q m a s'' q'') :
    RunsX w (.call cd h g l k) s q (n + m + 2) a s'' q'' := fun K H gd lv c B N r z => by
  have z1 := y K H gd lv c B N r z
  rw [show n + m + 2 + N = 1 + (n + (1 + (m + N))) by lia]
  obtain ⟨hp, gs, d, tk, os⟩ := s
  obtain ⟨hp', gs', d', tk', os'⟩ := s'
  refine go1 (s' := ⟨hp, gs, d, tk, os⟩) (t' := ⟨(denote treeTable cd).wrap .pure .raise id id, cd, q, .ret (fun r => (k r).wrap K H gd lv) h (gd g) (lv l) c q (keptOf cd c (lv l)) :: B⟩) ?_ ?_ ?_ ?_
  · simp only [through, Sem.wrap, Bool.and_false]
  · rfl
  · have e : (denote treeTable cd).wrap .pure .raise id id = denote treeTable cd := by
      have : ∀ t : Sem Fin, t.wrap .pure .raise id id = t := fun t => by induction t <;> simp only [Sem.wrap, id, *]
      exact this _
    rw [e]
    exact step_call
  · refine x .pure .raise id id cd _ _ r ?_
    refine go1 (s' := ⟨hp', gs', d', tk', os'⟩) ?_ ?_ rfl z1
    · rfl
    · rfl
theorem callAgain {cd cd' : Code} {h : Option Value} {g : Bool} {l : List Value} {k : Result -> Sem α} {f : Flow} {a : α} {n2 : Nat} {s2 : Shared} {q2 : Pos} (hid : (match cd' with | .builtin id _ => id.startsWith "lifetime." | _ => false) = false)
    (x : RunsX w (denote treeTable cd) s q n (.again cd') s' q') (x2 : RunsX w (denote treeTable cd') s' q' n2 (.done f) s2 q2) (y : RunsX w (k (.ok f)) s2 q m a s'' q'') :
    RunsX w (.call cd h g l k) s q (n + n2 + m + 3) a s'' q'' := fun K H gd lv c B N r z => by
  have z1 := y K H gd lv c B N r z
  have e : ∀ t : Sem Fin, t.wrap .pure .raise id id = t := fun t => by induction t <;> simp only [Sem.wrap, id, *]
  rw [show n + n2 + m + 3 + N = 1 + (n + (1 + (n2 + (1 + (m + N))))) by lia]
  obtain ⟨hp, gs, d, tk, os⟩ := s
  obtain ⟨hp', gs', d', tk', os'⟩ := s'
  obtain ⟨hp2, gs2, d2, tk2, os2⟩ := s2
  refine go1 (s' := ⟨hp, gs, d, tk, os⟩) (t' := ⟨(denote treeTable cd).wrap .pure .raise id id, cd, q, .ret (fun r => (k r).wrap K H gd lv) h (gd g) (lv l) c q (keptOf cd c (lv l)) :: B⟩) ?_ ?_ ?_ ?_
  · simp only [through, Sem.wrap, Bool.and_false]
  · rfl
  · rw [e]
    exact step_call
  · refine x .pure .raise id id cd _ _ r ?_
    refine go1 (s' := ⟨hp', gs', d', tk', os'⟩) (t' := ⟨denote treeTable cd', cd', q', _⟩) ?_ ?_ (step_again ..) ?_
    · rfl
    · revert hid
      cases cd' with
      | builtin id args => exact fun hid => Bool.and_eq_true_iff.mpr ⟨Bool.and_eq_true_iff.mpr ⟨Bool.and_eq_true_iff.mpr ⟨Bool.or_eq_true_iff.mpr (.inl (by show (!(id.startsWith "lifetime.")) = true; rw [show id.startsWith "lifetime." = false from hid]; rfl)), rfl⟩, rfl⟩, rfl⟩
      | _ => exact fun _ => rfl
    · rw [<- e (denote treeTable cd')]
      refine x2 .pure .raise id id cd' _ _ r ?_
      refine go1 (s' := ⟨hp2, gs2, d2, tk2, os2⟩) ?_ ?_ rfl z1
      · rfl
      · rfl
end RunsX
noncomputable def lifeId : Code -> Bool
  | .builtin id _ => id.startsWith "lifetime."
  | _ => false
noncomputable def bump {β : Type} (x : Nat × β) : Nat × β := (x.1 + 1, x.2)
noncomputable def gB {β : Type} (b : Bool) (x : Option β) : Option β := bif b then x else none
theorem gB_inv {β : Type} {P : Prop} : ∀ {b : Bool} {x : Option β} {r : β}, gB b x = some r -> (b = true -> x = some r -> P) -> P
  | true, _, _, h, K => K rfl h
theorem bi_inv {β γ : Type} {P : Prop} : ∀ {x : Option β} {f : β -> Option γ} {r : γ}, x.bind f = some r -> (∀ y, x = some y -> f y = some r -> P) -> P
  | some y, _, _, h, K => K y rfl h
abbrev EvF : Type 1 := (α : Type) -> Sem α -> SharedT -> Pos -> Option (Nat × α × SharedT × Pos)
noncomputable def stX (w : World) (ev : EvF) : EvF
  | _, .pure a, s, q => some (0, a, s, q)
  | α, .rule _ k, s, q => (ev α (k ()) s q).map bump
  | α, .at p k, s, _ => (ev α (k ()) s p).map bump
  | α, .point _ k, s, q => (ev α (k ()) s q).map bump
  | α, .ask k, s, q => (ev α (k ⟨prg, w.params⟩) s q).map bump
  | α, .fresh k, s, q => (ev α (k s.toks) { s with toks := s.toks + 1 } q).map bump
  | α, .alloc o k, s, q => gB ((s.tree.ins s.n o).get s.n).isSome ((ev α (k s.n) { s with tree := s.tree.ins s.n o, n := s.n + 1 } q).map bump)
  | α, .load a _ k, s, q => gB (Nat.blt a s.n) ((s.tree.get a).bind fun o => (alive o).bind fun o' => (ev α (k o') s q).map bump)
  | α, .update a _ f k, s, q => gB (Nat.blt a s.n) (gB (Nat.ble 11 a) ((s.tree.get a).bind fun o => (alive o).bind fun _ => (ev α (k ()) { s with tree := s.tree.set a f } q).map bump))
  | α, .call c _ _ _ k, s, q => (ev PySem.Fin (denote treeTable c) s q).bind fun r => match r with
    | (m, .done f, s', _) => (ev α (k (.ok f)) s' q).map fun x => (m + x.1 + 2, x.2)
    | (m, .again c', s', q') => gB (!lifeId c') ((ev PySem.Fin (denote treeTable c') s' q').bind fun r2 => match r2 with
      | (m2, .done f, s'', _) => (ev α (k (.ok f)) s'' q).map fun x => (m + m2 + x.1 + 3, x.2)
      | (_, .again _, _, _) => none)
  | _, _, _, _ => none
noncomputable def evX (w : World) : Nat -> EvF
  | 0 => fun _ _ _ _ => none
  | n + 1 => stX w (evX w n)
noncomputable abbrev RunsT {α : Type} (w : World) (t : Sem α) (s : SharedT) (q : Pos) (n : Nat) (a : α) (s' : SharedT) (q' : Pos) : Prop := RunsX w t s.abs q n a s'.abs q'
theorem blt_lt {a b : Nat} (h : Nat.blt a b = true) : a < b := Nat.le_of_ble_eq_true h
namespace RunsT
variable {α : Type} {w : World} {s s' : SharedT} {q q' : Pos} {n : Nat}
theorem load {ad : Addr} {p : Option Value} {o o' : Obj} {k : Obj -> Sem α} {a : α} (hn : ad < s.n) (ho : s.tree.get ad = some o) (hl : alive o = some o') (h : RunsT w (k o') s q n a s' q') : RunsT w (.load ad p k) s q (n + 1) a s' q' :=
  RunsX.load (by show (absHeap _ _ _).get? _ = _; rw [abs_get hn ho, hl]) h
theorem update {ad : Addr} {p : Option Value} {f : Obj -> Obj} {o o' : Obj} {k : Unit -> Sem α} {a : α} (hn : ad < s.n) (ho : s.tree.get ad = some o) (hl : alive o = some o') (h11 : Nat.ble 11 ad = true)
    (h : RunsT w (k ()) { s with tree := s.tree.set ad f } q n a s' q') : RunsT w (.update ad p f k) s q (n + 1) a s' q' :=
  RunsX.update (o := o') (by show (absHeap _ _ _).get? _ = _; rw [abs_get hn ho, hl]) h11 (by
    have e : ({ s with tree := s.tree.set ad f } : SharedT).abs = { s.abs with heap := s.abs.heap.update ad f } := by
      unfold SharedT.abs; dsimp only; rw [absHeap_set ho]
    show RunsX w (k ()) { s.abs with heap := s.abs.heap.update ad f } q n a s'.abs q'
    rw [<- e]; exact h)
theorem alloc {o : Obj} {k : Addr -> Sem α} {a : α} (hi : ((s.tree.ins s.n o).get s.n).isSome = true) (h : RunsT w (k s.n) { s with tree := s.tree.ins s.n o, n := s.n + 1 } q n a s' q') : RunsT w (.alloc o k) s q (n + 1) a s' q' := by
  have e : ({ s with tree := s.tree.ins s.n o, n := s.n + 1 } : SharedT).abs = { s.abs with heap := s.abs.heap.push o } := by
    unfold SharedT.abs; dsimp only; rw [absHeap_ins hi]
  have e2 : s.abs.heap.objs.size = s.n := absHeap_size ..
  refine RunsX.alloc ?_
  rw [e2, <- e]; exact h
end RunsT
theorem none_some {β : Type} {b : β} {P : Prop} (h : (none : Option β) = some b) : P := nomatch h
@[elab_as_elim] theorem some_inv {A B D E : Type} {a a' : A} {b b' : B} {d d' : D} {e e' : E} {C : A -> B -> D -> E -> Prop} (h : some (a, b, d, e) = some (a', b', d', e')) (k : C a b d e) : C a' b' d' e' := by cases h; exact k
theorem bump_inv {β : Type} {x : Option (Nat × β)} {m : Nat} {b : β} {C : Nat -> Prop} (g : Nat -> Nat) (h : x.map (fun y => (g y.1, y.2)) = some (m, b)) (K : ∀ m', x = some (m', b) -> C (g m')) : C m := by
  cases x with
  | none => cases h
  | some y => cases h; exact K _ rfl
theorem bi4 {A B D E β : Type} {P : Prop} : ∀ {x : Option (A × B × D × E)} {f : A × B × D × E -> Option β} {r : β}, x.bind f = some r -> (∀ a b d e, x = some (a, b, d, e) -> f (a, b, d, e) = some r -> P) -> P
  | some (a, b, d, e), _, _, h, K => K a b d e rfl h
theorem evX_sound {w : World} : ∀ (n : Nat) {α : Type} (t : Sem α) (s : SharedT) (q : Pos) (m : Nat) (a : α) (s' : SharedT) (q' : Pos), evX w n α t s q = some (m, a, s', q') -> RunsT w t s q m a s' q' := by
  intro n
  induction n with
  | zero => intro α t s q m a s' q' h; exact none_some h
  | succ n ih =>
    intro α t s q m a s' q' h
    have ih : ∀ {α : Type} {t : Sem α} {s : SharedT} {q : Pos} {m : Nat} {a : α} {s' : SharedT} {q' : Pos}, evX w n α t s q = some (m, a, s', q') -> RunsT w t s q m a s' q' := ih _ _ _ _ _ _ _
    refine (?_ : stX w (evX w n) α t s q = some (m, a, s', q') -> RunsT w t s q m a s' q') h
    clear h
    revert ih
    generalize evX w n = ev
    intro ih
    cases t with
    | pure b => exact fun h => some_inv h RunsX.pure'
    | rule tag k => exact fun h => bump_inv (C := fun m => RunsT w _ s q m a s' q') (· + 1) h fun m' r => RunsX.rule (ih r)
    | «at» p k => exact fun h => bump_inv (C := fun m => RunsT w _ s q m a s' q') (· + 1) h fun m' r => RunsX.at' (ih r)
    | point l k => exact fun h => bump_inv (C := fun m => RunsT w _ s q m a s' q') (· + 1) h fun m' r => RunsX.point (ih r)
    | ask k => exact fun h => bump_inv (C := fun m => RunsT w _ s q m a s' q') (· + 1) h fun m' r => RunsX.ask (ih r)
    | fresh k => exact fun h => bump_inv (C := fun m => RunsT w _ s q m a s' q') (· + 1) h fun m' r => RunsX.fresh (ih r)
    | alloc o k => exact fun h => gB_inv h fun hi h => bump_inv (C := fun m => RunsT w _ s q m a s' q') (· + 1) h fun m' r => RunsT.alloc hi (ih r)
    | load ad p k => exact fun h => gB_inv h fun hb h => bi_inv h fun o ho h => bi_inv h fun o' hl h => bump_inv (C := fun m => RunsT w _ s q m a s' q') (· + 1) h fun m' r => RunsT.load (blt_lt hb) ho hl (ih r)
    | update ad p f k => exact fun h => gB_inv h fun hb h => gB_inv h fun h11 h => bi_inv h fun o ho h => bi_inv h fun o' hl h => bump_inv (C := fun m => RunsT w _ s q m a s' q') (· + 1) h fun m' r => RunsT.update (blt_lt hb) ho hl h11 (ih r)
    | call c hd g l k =>
      refine fun h => bi4 h fun m1 f1 s1 q1 h1 h => ?_
      cases f1 with
      | done f => exact bump_inv (C := fun m => RunsT w _ s q m a s' q') (fun k => m1 + k + 2) h fun m' r => RunsX.callDone (ih h1) (ih r)
      | again c' =>
        refine gB_inv h fun hl h => bi4 h fun m2 f2 s2 q2 h2 h => ?_
        cases f2 with
        | done f => exact bump_inv (C := fun m => RunsT w _ s q m a s' q') (fun k => m1 + m2 + k + 3) h fun m' r => RunsX.callAgain (Bool.not_eq_true' _ ▸ hl) (ih h1) (ih h2) (ih r)
        | again _ => exact none_some h
    | _ => exact fun h => none_some h
noncomputable def hashOf (P : Params) (x : Str) : Int := if x.cps.isEmpty then 0 else reduceHash (P.strHash x.cps)
theorem hash_run (w : World) : ∀ (x : Str) (t : Tok) (s : SharedT) (q : Pos), evX w 40 Int (pyHash (.str x t)) s q = some (7, hashOf w.params x, { s with toks := s.toks + 1 }, q) := by
  refine byRow2 "special-get-raises" (P := fun w => ∀ (x : Str) (t : Tok) (s : SharedT) (q : Pos), evX w 40 Int (pyHash (.str x t)) s q = some (7, hashOf w.params x, { s with toks := s.toks + 1 }, q)) ?_ ?_ w
  · intro w x t s q; kernel_rfl
  · intro w x t s q; kernel_rfl
theorem bt_set_const (f : Obj -> Obj) {o : Obj} : ∀ (T : BT) (a : Nat), T.get a = some o -> T.set a f = T.set a (fun _ => f o)
  | .nil, a, h => by simp [BT.get] at h
  | .node v l r, a, h => by
    rw [BT.set_node, BT.set_node]
    rw [BT.get_node] at h
    by_cases ha : a = 0
    · rw [if_pos ha] at h ⊢; cases h; rw [if_pos ha]
    · rw [if_neg ha] at h ⊢
      rw [if_neg ha]
      by_cases pa : a % 2 = 1
      · rw [if_pos pa] at h ⊢; rw [if_pos pa, bt_set_const f l _ h]
      · rw [if_neg pa] at h ⊢; rw [if_neg pa, bt_set_const f r _ h]
theorem bt_set_set (f g : Obj -> Obj) : ∀ (T : BT) (a : Nat), (T.set a f).set a g = T.set a (fun o => g (f o))
  | .nil, a => rfl
  | .node v l r, a => by
    rw [BT.set_node, BT.set_node]
    by_cases ha : a = 0
    · rw [if_pos ha, if_pos ha, BT.set_node, if_pos ha]
    · rw [if_neg ha, if_neg ha]
      by_cases pa : a % 2 = 1
      · rw [if_pos pa, if_pos pa, BT.set_node, if_neg ha, if_pos pa, bt_set_set f g l]
      · rw [if_neg pa, if_neg pa, BT.set_node, if_neg ha, if_neg pa, bt_set_set f g r]
theorem bt_get_set_self {T : BT} {a : Nat} {o : Obj} (f : Obj -> Obj) (h : T.get a = some o) : (T.set a f).get a = some (f o) := by
  rw [BT.get_set, if_pos rfl, h]; rfl
set_option genInjectivity false in
set_option genSizeOf false in
structure D3 where
  es : Array (Int × Value)
  ep : Nat
  t : SetTable
noncomputable abbrev setObj (d : D3) : Obj := ⟨.type "set", none, .set d.es d.ep d.t, #[]⟩
noncomputable def dull (t : SetTable) : SetTable := if (if t.plain then false else true) then t else { t with plain := false }
noncomputable def addS (P : Params) (d : D3) (x : Str) (tk : Tok) : D3 :=
  let L := layNew d.t d.es (hashOf P x) (.str x tk)
  if (!L.2.2.1 && (dull L.2.1).tooFull) = true then
    let R := relayAll (dull L.2.1) L.1 (SetTable.grown L.1.size)
    ⟨R.1, d.ep + 1 + 1, R.2.1⟩
  else ⟨L.1, d.ep + 1, dull L.2.1⟩
noncomputable def unled (d : D3) : D3 := ⟨d.es, d.ep + 1, { d.t with led := false }⟩
theorem standIn_fits (t : SetTable) (n : Nat) : (t.standIn n).fits n = true := by
  simp [SetTable.standIn, SetTable.fits, SetTable.fill]; lia
theorem orStandIn_fits (t : SetTable) (n : Nat) : (t.orStandIn n).fits n = true := by
  unfold SetTable.orStandIn
  split
  · assumption
  · exact standIn_fits _ _
theorem dull_fits {t : SetTable} {n : Nat} (h : t.fits n = true) : (dull t).fits n = true := by
  unfold dull; split
  · exact h
  · exact h
theorem perm_insertAt {α : Type} (xs : Array α) (p : Nat) (x : α) : (SetTable.insertAt xs p x).toList.Perm (x :: xs.toList) := by
  unfold SetTable.insertAt
  simp only [Array.toList_append, Array.toList_push, Array.toList_extract, List.extract_eq_take_drop, Nat.sub_zero, List.drop_zero, List.append_assoc, List.singleton_append]
  have e : (xs.toList.drop p).take (xs.size - p) = xs.toList.drop p := List.take_of_length_le (by simp)
  rw [e]
  exact List.perm_middle.trans (by rw [List.take_append_drop])
theorem layNew_fits (t : SetTable) (es : Array (Int × Value)) (h : Int) (x : Value) : (layNew t es h x).2.1.fits (layNew t es h x).1.size = true := by
  unfold layNew
  split
  · exact orStandIn_fits _ _
  · simp only [Array.size_push]; exact standIn_fits _ _
theorem layNew_perm (t : SetTable) (es : Array (Int × Value)) (h : Int) (x : Value) : (layNew t es h x).1.toList.Perm ((h, x) :: es.toList) := by
  unfold layNew
  split
  · exact perm_insertAt _ _ _
  · simp only [Array.toList_push]
    exact List.perm_append_comm
theorem filterMap_range_get {α : Type} (l : List α) : (List.range l.length).filterMap (fun i => l[i]?) = l := by
  induction l with
  | nil => rfl
  | cons a l ih =>
    rw [List.length_cons, List.range_succ_eq_map, List.filterMap_cons]
    simp only [List.getElem?_cons_zero, List.filterMap_map, Function.comp_def, List.getElem?_cons_succ]
    rw [ih]
set_option tactic.hygienic true in
theorem relayAll_fits {t : SetTable} {es : Array (Int × Value)} {wanted : Nat} : (relayAll t es wanted).2.1.fits (relayAll t es wanted).1.size = true := by
  unfold relayAll
  split
  · dsimp only
    split
    · rename_i h; exact (Bool.and_eq_true_iff.mp h).2
    · exact standIn_fits _ _
  · exact standIn_fits _ _
set_option tactic.hygienic true in
theorem relayAll_perm {t : SetTable} {es : Array (Int × Value)} {wanted : Nat} : (relayAll t es wanted).1.toList.Perm es.toList := by
  unfold relayAll
  split
  · rename_i t' order _
    dsimp only
    split
    · rename_i h
      have hp : order.toList.Perm (List.range es.size) := List.isPerm_iff.mp (Bool.and_eq_true_iff.mp h).1
      have := hp.filterMap (fun i => es[i]?)
      simp only [Array.toList_filterMap]
      refine this.trans ?_
      have e : (List.range es.size).filterMap (fun i => es[i]?) = es.toList := by
        have := filterMap_range_get es.toList
        simpa using this
      rw [e]
    · exact List.Perm.refl _
  · exact List.Perm.refl _
structure SetOk (P : Params) (d : D3) (vs : List (Str × Tok)) : Prop where
  fits : d.t.fits d.es.size = true
  vals : d.es.toList.Perm (vs.map fun y => (hashOf P y.1, Value.str y.1 y.2))
theorem addS_ok {P : Params} {d : D3} {vs : List (Str × Tok)} (x : Str) (tk : Tok) (h : SetOk P d vs) : SetOk P (addS P d x tk) ((x, tk) :: vs) := by
  have p1 : ((layNew d.t d.es (hashOf P x) (.str x tk)).1.toList).Perm ((hashOf P x, .str x tk) :: vs.map fun y => (hashOf P y.1, Value.str y.1 y.2)) :=
    (layNew_perm d.t d.es (hashOf P x) (.str x tk)).trans (h.vals.cons _)
  unfold addS
  dsimp only
  split
  · exact ⟨relayAll_fits, (relayAll_perm).trans p1⟩
  · exact ⟨dull_fits (layNew_fits ..), p1⟩
theorem unled_ok {P : Params} {d : D3} {vs : List (Str × Tok)} (h : SetOk P d vs) : SetOk P (unled d) vs := ⟨h.fits, h.vals⟩
section
variable {α : Type} {w : World} {s s' : SharedT} {q q' : Pos} {n : Nat} {a : Nat} {d : D3}
theorem setState_run (hn : a < s.n) (ho : s.tree.get a = some (setObj d)) (hf : d.t.fits d.es.size = true) : RunsT w (setState a) s q 1 (d.es, d.ep, d.t) s q := by
  unfold setState
  refine RunsX.bind (n := 1) (m := 0) (RunsT.load hn ho rfl RunsX.pure') ?_
  dsimp only
  have hf' : (d.t.place.size != d.es.size || decide (d.t.fill > d.t.mask)) = false := by
    unfold SetTable.fits at hf
    obtain ⟨h1, h2⟩ := Bool.and_eq_true_iff.mp hf
    rw [Bool.or_eq_false_iff]
    refine ⟨?_, ?_⟩
    · simpa [bne] using h1
    · have := of_decide_eq_true h2
      exact decide_eq_false (by lia)
  rw [hf']
  exact RunsX.pure
theorem storeSet_run {es : Array (Int × Value)} {t : SetTable} (hn : a < s.n) (h11 : Nat.ble 11 a = true) (ho : s.tree.get a = some (setObj d)) (hs : es.size <= 100) :
    RunsT w (storeSet a es t) s q 2 () { s with tree := s.tree.set a (fun _ => setObj ⟨es, d.ep + 1, t⟩) } q := by
  unfold storeSet
  refine RunsX.bind (n := 1) (m := 1) (RunsT.load hn ho rfl RunsX.pure') ?_
  dsimp only
  rw [if_neg (show ¬ (es.size > sizeLine) from by have : sizeLine = 16777216 := rfl; lia)]
  have e : s.tree.set a (Obj.putSet es t) = s.tree.set a (fun _ => setObj ⟨es, d.ep + 1, t⟩) := bt_set_const _ _ _ ho
  rw [<- e]
  exact RunsX.bind (n := 0) (m := 1) RunsX.pure (RunsT.update (k := .pure) hn ho rfl h11 RunsX.pure')
end
noncomputable def newVal (d : D3) (x : Str) : Prop := (∀ e ∈ d.es, isExactStrKey e.2 = true) /\ (∀ e ∈ d.es, e.2.isStr x = false) /\ d.es.size < 50
theorem relayAll_size {t : SetTable} {es : Array (Int × Value)} {wanted : Nat} : (relayAll t es wanted).1.size = es.size := by
  have := (relayAll_perm (t := t) (es := es) (wanted := wanted)).length_eq
  simpa using this
theorem layNew_size (t : SetTable) (es : Array (Int × Value)) (h : Int) (x : Value) : (layNew t es h x).1.size = es.size + 1 := by
  have := (layNew_perm t es h x).length_eq
  simpa using this
theorem add_run {w : World} {s : SharedT} {q : Pos} {a : Nat} {d : D3} {x : Str} {tk : Tok} (hn : a < s.n) (h11 : Nat.ble 11 a = true) (ho : s.tree.get a = some (setObj d)) (hf : d.t.fits d.es.size = true) (hv : newVal d x) :
    RunsT w (setAdd a (.str x tk)) s q 30 true { s with tree := s.tree.set a (fun _ => setObj (addS w.params d x tk)), toks := s.toks + 1 } q := by
  unfold setAdd
  refine RunsX.holding (RunsX.bind (n := 7) (m := 23) (evX_sound 40 _ _ _ _ _ _ _ (hash_run w x tk s q)) ?_)
  unfold setAddHashed
  refine RunsX.holding ?_
  show RunsX w (setAddHashedIn a (.str x tk) (hashOf w.params x) (99999 + 1)) _ q 23 true _ q
  unfold setAddHashedIn
  refine RunsX.bind (n := 1) (m := 22) (setState_run (s := { s with toks := s.toks + 1 }) hn ho hf) ?_
  dsimp only
  have hb : byScan (.str x tk) d.es = true := by
    unfold byScan
    refine Bool.and_eq_true_iff.mpr ⟨Bool.and_eq_true_iff.mpr ⟨rfl, decide_eq_true ?_⟩, Array.all_eq_true_iff_forall_mem.mpr fun e he => ?_⟩
    · have : scanBound = 4096 := rfl
      have := hv.2.2
      lia
    · have := hv.1 e he
      cases h : e.2 <;> rw [h] at this <;> first | rfl | cases this
  rw [if_pos hb]
  refine RunsX.bind (n := 20) (m := 2) (a := some true) ?_ (RunsX.le (RunsX.pure) (by lia))
  unfold setAddByScan
  refine RunsX.bind (n := 1) (m := 19) (RunsX.rule RunsX.pure') ?_
  refine RunsX.bind (n := 0) (m := 19) (a := ScanMet.absent) (s' := SharedT.abs { s with toks := s.toks + 1 }) (q' := q) ?_ ?_
  · have ha : (d.es.all fun e => isExactStrKey e.2) = true := by
      simp only [Array.all_eq_true_iff_forall_mem]; exact hv.1
    show RunsX w (if (d.es.all fun e => isExactStrKey e.2) = true then setScanStrs a (.str x tk) x true d.es else setScanFrom a (.str x tk) (hashOf w.params x) true d.es.toList 0) _ q 0 _ _ q
    rw [if_pos ha]
    unfold setScanStrs
    have hfi : d.es.findIdx? (fun e => e.2.isStr x) = none := by
      rw [Array.findIdx?_eq_none_iff]
      intro e he; exact hv.2.1 e he
    rw [hfi]
    exact RunsX.pure
  · dsimp only
    have hsz := layNew_size d.t d.es (hashOf w.params x) (.str x tk)
    have hlt := hv.2.2
    unfold addS
    dsimp only
    rcases hL : layNew d.t d.es (hashOf w.params x) (Value.str x tk) with ⟨es1, t1, wd, gv⟩
    rw [hL] at hsz
    dsimp only at hsz ⊢
    refine RunsX.bind (n := 1) (m := 18) (a := ()) (s' := (SharedT.abs { s with toks := s.toks + 1 })) (q' := q) ?_ ?_
    · cases gv
      · exact RunsX.le RunsX.pure' (by lia)
      · exact RunsX.rule RunsX.pure'
    have step2 : ∀ b : Bool, b = (if t1.plain then false else true) -> RunsX w (do
          storeSet a es1 (if b = true then t1 else { t1 with plain := false })
          if (!wd && (if b = true then t1 else { t1 with plain := false }).tooFull) = true then
            match relayAll (if b = true then t1 else { t1 with plain := false }) es1 (SetTable.grown es1.size) with
            | (es, t, gave) => do
              (match gave with | true => PySem.rule "set.scan.the-table-gave-way" | false => pure ())
              storeSet a es t
              pure (some true)
          else pure (some true) : Sem (Option Bool)) (SharedT.abs { s with toks := s.toks + 1 }) q 18 (some true)
          (SharedT.abs { s with tree := s.tree.set a (fun _ => setObj (if (!wd && (dull t1).tooFull) = true then ⟨(relayAll (dull t1) es1 (SetTable.grown es1.size)).1, d.ep + 1 + 1, (relayAll (dull t1) es1 (SetTable.grown es1.size)).2.1⟩ else ⟨es1, d.ep + 1, dull t1⟩)), toks := s.toks + 1 }) q := by
      intro b hb2
      subst hb2
      show RunsX w (do
          storeSet a es1 (dull t1)
          if (!wd && (dull t1).tooFull) = true then
            match relayAll (dull t1) es1 (SetTable.grown es1.size) with
            | (es, t, gave) => do
              (match gave with | true => PySem.rule "set.scan.the-table-gave-way" | false => pure ())
              storeSet a es t
              pure (some true)
          else pure (some true) : Sem (Option Bool)) _ q 18 _ _ q
      refine RunsX.bind (n := 2) (m := 16) (storeSet_run (s := { s with toks := s.toks + 1 }) hn h11 ho (by lia)) ?_
      by_cases hc : (!wd && (dull t1).tooFull) = true
      · rw [if_pos hc, if_pos hc]
        have hrs := relayAll_size (t := dull t1) (es := es1) (wanted := SetTable.grown es1.size)
        rcases hR : relayAll (dull t1) es1 (SetTable.grown es1.size) with ⟨es2, t2, gv2⟩
        rw [hR] at hrs
        dsimp only at hrs ⊢
        refine RunsX.bind (n := 1) (m := 15) (a := ()) (q' := q) (s' := SharedT.abs { s with tree := s.tree.set a (fun _ => setObj ⟨es1, d.ep + 1, dull t1⟩), toks := s.toks + 1 }) ?_ ?_
        · cases gv2
          · exact RunsX.le RunsX.pure (by lia)
          · exact RunsX.rule RunsX.pure'
        have hst := storeSet_run (w := w) (q := q) (s := { s with tree := s.tree.set a (fun _ => setObj ⟨es1, d.ep + 1, dull t1⟩), toks := s.toks + 1 }) (es := es2) (t := t2) hn h11 (bt_get_set_self _ ho) (by lia)
        dsimp only at hst
        rw [bt_set_set] at hst
        exact RunsX.le (RunsX.bind (n := 2) (m := 0) hst RunsX.pure) (by lia)
      · rw [if_neg hc, if_neg hc]
        exact RunsX.le RunsX.pure (by lia)
    by_cases hp : t1.plain = true
    · rw [if_pos hp]
      refine RunsX.bind (n := 0) (m := 18) (a := false) (RunsX.pure) ?_
      exact step2 false (by rw [if_pos hp])
    · rw [if_neg hp]
      refine RunsX.bind (n := 0) (m := 18) (a := true) (RunsX.pure) ?_
      exact step2 true (by rw [if_neg hp])
noncomputable def startD (P : Params) : D3 := ⟨#[], 0, .fresh 0 0 (!P.followText "set-order")⟩
noncomputable def addAll (P : Params) (d : D3) (xs : List (Str × Tok)) : D3 := xs.foldl (fun d x => addS P d x.1 x.2) d
noncomputable def setR (P : Params) (xs : List (Str × Tok)) : D3 := unled (addAll P (startD P) xs)
noncomputable def strVs (xs : List (Str × Tok)) : List Value := xs.map fun y => .str y.1 y.2
theorem startD_ok (P : Params) : SetOk P (startD P) [] := ⟨by unfold startD SetTable.fits SetTable.fill SetTable.fresh; simp, by unfold startD; simp⟩
theorem addAll_ok {P : Params} : ∀ (xs : List (Str × Tok)) {d : D3} {vs : List (Str × Tok)}, SetOk P d vs -> SetOk P (addAll P d xs) (xs.reverse ++ vs)
  | [], _, _, h => h
  | x :: xs, d, vs, h => by
    have := addAll_ok (P := P) xs (addS_ok (P := P) x.1 x.2 h)
    rw [List.reverse_cons, List.append_assoc]; exact this
theorem setR_ok (P : Params) (xs : List (Str × Tok)) : SetOk P (setR P xs) xs.reverse := by
  have := unled_ok (addAll_ok (P := P) xs (startD_ok P))
  rwa [List.append_nil] at this
theorem newVal_of {P : Params} {d : D3} {vs : List (Str × Tok)} {x : Str} (h : SetOk P d vs) (hx : ∀ y ∈ vs, y.1 ≠ x) (hl : vs.length < 50) : newVal d x := by
  have hm : ∀ e ∈ d.es, ∃ y ∈ vs, e.2 = .str y.1 y.2 := fun e he => by
    obtain ⟨y, hy, q⟩ := List.mem_map.mp (h.vals.mem_iff.mp (Array.mem_toList_iff.mpr he))
    exact ⟨y, hy, by rw [<- q]⟩
  refine ⟨fun e he => ?_, fun e he => ?_, ?_⟩
  · obtain ⟨y, _, q⟩ := hm e he; rw [q]; rfl
  · obtain ⟨y, hy, q⟩ := hm e he
    rw [q]
    show (y.1 == x) = false
    exact beq_eq_false_iff_ne.mpr (hx y hy)
  · have := h.vals.length_eq
    simp only [List.length_map, Array.length_toList] at this
    lia
theorem addAll_run {w : World} {q : Pos} {a : Nat} (h11 : Nat.ble 11 a = true) : ∀ (xs : List (Str × Tok)) {s : SharedT} {d : D3} {vs : List (Str × Tok)}, a < s.n -> s.tree.get a = some (setObj d) -> SetOk w.params d vs -> ((vs ++ xs).map (·.1)).Nodup -> vs.length + xs.length < 50 →
    RunsT w (forIn (strVs xs) PUnit.unit (fun x _ => do let _ ← setAdd a x; pure (ForInStep.yield PUnit.unit)) : Sem PUnit) s q (xs.length * 30) PUnit.unit { s with tree := s.tree.set a (fun _ => setObj (addAll w.params d xs)), toks := s.toks + xs.length } q
  | [], s, d, vs, hn, ho, hs, hnd, hl => by
    have e : s.tree.set a (fun _ => setObj d) = s.tree := by
      have : ∀ (T : BT) (a : Nat) (o : Obj), T.get a = some o -> T.set a (fun _ => o) = T := by
        intro T
        induction T with
        | nil => intro a o h; rfl
        | node v l r il ir =>
          intro a o h
          rw [BT.set_node]
          rw [BT.get_node] at h
          by_cases h0 : a = 0
          · rw [if_pos h0] at h ⊢; cases h; rfl
          · rw [if_neg h0] at h ⊢
            by_cases h1 : a % 2 = 1
            · rw [if_pos h1] at h ⊢; rw [il _ _ h]
            · rw [if_neg h1] at h ⊢; rw [ir _ _ h]
      exact this _ _ _ ho
    show RunsX w (pure PUnit.unit) s.abs q 0 _ (SharedT.abs { s with tree := s.tree.set a (fun _ => setObj d), toks := s.toks + 0 }) q
    rw [e]
    exact RunsX.pure
  | x :: xs, s, d, vs, hn, ho, hs, hnd, hl => by
    have hx : ∀ y ∈ vs, y.1 ≠ x.1 := fun y hy e => by
      rw [List.map_append, List.map_cons, List.nodup_append] at hnd
      exact hnd.2.2 _ (List.mem_map_of_mem hy) _ (.head _) e
    have h1 := add_run (w := w) (q := q) (x := x.1) (tk := x.2) hn h11 ho hs.fits (newVal_of hs hx (by simp only [List.length_cons] at hl; lia))
    have ih := addAll_run (w := w) (q := q) h11 xs (s := { s with tree := s.tree.set a (fun _ => setObj (addS w.params d x.1 x.2)), toks := s.toks + 1 }) (d := addS w.params d x.1 x.2) (vs := x :: vs) hn (bt_get_set_self _ ho)
      (addS_ok x.1 x.2 hs) (by
        have e : ((x :: vs) ++ xs).Perm (vs ++ x :: xs) := List.perm_middle.symm
        exact ((e.map _).nodup_iff).mpr hnd) (by simp only [List.length_cons] at hl ⊢; lia)
    dsimp only at ih
    rw [bt_set_set] at ih
    show RunsX w (forIn (Value.str x.1 x.2 :: strVs xs) PUnit.unit _ : Sem PUnit) _ q _ _ _ q
    rw [List.forIn_cons]
    refine RunsX.le (RunsX.bind (n := 30) (m := xs.length * 30) (RunsX.bind (n := 30) (m := 0) h1 RunsX.pure) ?_) (by simp only [List.length_cons]; lia)
    rw [show s.toks + (x :: xs).length = s.toks + 1 + xs.length by simp only [List.length_cons]; lia]
    exact ih
theorem newSet_run {w : World} {s : SharedT} {q : Pos} (hi : ∀ o, ((s.tree.ins s.n o).get s.n).isSome = true) : RunsT w (newSet (.type "set")) s q 2 (.ref s.n) { s with tree := s.tree.ins s.n (setObj (startD w.params)), n := s.n + 1 } q := by
  have e : newSet (.type "set") = Sem.ask fun S => Sem.alloc { cls := .type "set", data := .set #[] 0 (.fresh 0 0 (!S.params.followText "set-order")) } fun a => .pure (.ref a) := by
    with_unfolding_all rfl
  rw [e]
  exact RunsX.ask (RunsT.alloc (hi _) RunsX.pure')
theorem unled_run {w : World} {s : SharedT} {q : Pos} {a : Nat} {d : D3} (hn : a < s.n) (h11 : Nat.ble 11 a = true) (ho : s.tree.get a = some (setObj d)) (hf : d.t.fits d.es.size = true) (hsz : d.es.size <= 100) :
    RunsT w (setUnled a) s q 3 () { s with tree := s.tree.set a (fun _ => setObj (unled d)) } q := by
  unfold setUnled
  exact RunsX.bind (n := 1) (m := 2) (setState_run hn ho hf) (storeSet_run hn h11 ho hsz)
theorem disp_run {w : World} {s s3 : SharedT} {q q3 : Pos} {env : Env} {nm : Str} {np pos pos' : Pos} {elts : List Expr} {xs : List (Str × Tok)} {b : Bool} {n0 n1 n2 : Nat} (hd : displayRoad 0 elts = .unsure) (h11 : Nat.ble 11 s.n = true)
    (hns : ((starEach elts env).map fun (star, t) => (star, (do let v ← t; standAt pos; pure v : Sem Value))).findIdx? (·.1) = none)
    (hl : ((starEach elts env).map fun (star, t) => (star, (do let v ← t; standAt pos; pure v : Sem Value))).length <= 30)
    (hmain : evX w 60 Bool (inMainModule env) s pos = some (n0, b, s, pos))
    (hi : ∀ o, (s.tree.ins s.n o).get s.n = some o)
    (hfirst : ∀ o, evX w 300 _ (evalAll (((starEach elts env).map fun (star, t) => (star, (do let v ← t; standAt pos; pure v : Sem Value))).map (·.2))) { s with tree := s.tree.ins s.n o, n := s.n + 1 } pos
      = some (n1, strVs xs, { s with tree := s.tree.ins s.n o, n := s.n + 1, toks := s.toks + xs.length }, pos))
    (hnd : (xs.map (·.1)).Nodup) (hlen : xs.length < 50)
    (hfin : evX w 100 _ (assignStores env (.ref s.n) none ((assignEach [.Name nm np] env).map (·.2))) { s with tree := (s.tree.ins s.n (setObj (startD w.params))).set s.n (fun _ => setObj (setR w.params xs)), n := s.n + 1, toks := s.toks + xs.length + xs.length } pos = some (n2, .next, s3, q3)) :
    RunsT w (exec (.Assign [.Name nm np] (.Set elts 0 pos) pos') env) s q (n0 + n1 + n2 + xs.length * 30 + 20) .next s3 q3 := by
  rw [arm_exec_Assign]
  refine RunsX.le (RunsX.bind (n := 1) (m := n0 + n1 + n2 + xs.length * 30 + 7) (RunsX.at' RunsX.pure') ?_) (by lia)
  refine RunsX.le (RunsX.bind (n := 0) (m := n0 + n1 + n2 + xs.length * 30 + 7) (a := false) (RunsX.pure) ?_) (by lia)
  rw [if_neg (by decide)]
  have e : eval (.Set elts 0 pos) env = (standAt pos >>= fun _ => inMainModule env >>= fun b => setDisplay (displayRoad 0 elts) b ((starEach elts env).map fun (star, t) => (star, do let v ← t; standAt pos; pure v))) := rfl
  rw [e, hd]
  generalize ((starEach elts env).map fun (star, t) => (star, (do let v ← t; standAt pos; pure v : Sem Value))) = Ls at hns hl hfirst ⊢
  refine RunsX.le (RunsX.bind (n := n0 + n1 + xs.length * 30 + 7) (m := n2) (a := .ref s.n) (q' := pos) (s' := SharedT.abs { s with tree := (s.tree.ins s.n (setObj (startD w.params))).set s.n (fun _ => setObj (setR w.params xs)), n := s.n + 1, toks := s.toks + xs.length + xs.length }) ?_ ?_) (by lia)
  · refine RunsX.le (RunsX.bind (n := 1) (m := n0 + n1 + xs.length * 30 + 6) (RunsX.at' RunsX.pure') ?_) (by lia)
    refine RunsX.le (RunsX.bind (n := n0) (m := n1 + xs.length * 30 + 6) (evX_sound _ _ _ _ _ _ _ _ hmain) ?_) (by lia)
    unfold setDisplay
    rw [if_neg (by decide)]
    refine RunsX.le (RunsX.bind (n := 2) (m := n1 + xs.length * 30 + 4) (newSet_run (fun o => by rw [hi]; rfl)) ?_) (by lia)
    dsimp only
    have hnf : (if Ls.length > 30 then 0 else (List.findIdx? (fun x => x.fst) Ls).getD Ls.length) = Ls.length := by
      rw [if_neg (by lia), hns]; rfl
    rw [hnf, List.take_length, List.drop_length]
    refine RunsX.le (RunsX.bind (n := n1 + xs.length * 30 + 4) (m := 0) (a := ()) (RunsX.holding ?_) (RunsX.pure)) (by lia)
    refine RunsX.le (RunsX.bind (n := n1) (m := xs.length * 30 + 4) (evX_sound _ _ _ _ _ _ _ _ (hfirst _)) ?_) (by lia)
    have hall := addAll_run (w := w) (q := pos) h11 xs (s := { s with tree := s.tree.ins s.n (setObj (startD w.params)), n := s.n + 1, toks := s.toks + xs.length }) (d := startD w.params) (vs := []) (Nat.lt_succ_self _) (hi _) (startD_ok _) hnd (by simpa using hlen)
    have hun := unled_run (w := w) (q := pos) (a := s.n) (s := { s with tree := (s.tree.ins s.n (setObj (startD w.params))).set s.n (fun _ => setObj (addAll w.params (startD w.params) xs)), n := s.n + 1, toks := s.toks + xs.length + xs.length }) (d := addAll w.params (startD w.params) xs)
      (Nat.lt_succ_self _) h11 (bt_get_set_self _ (hi _)) (addAll_ok xs (startD_ok _)).fits (by
        have := (addAll_ok (P := w.params) xs (startD_ok w.params)).vals.length_eq
        simp only [List.length_map, Array.length_toList, List.append_nil, List.length_reverse] at this
        lia)
    dsimp only at hun
    rw [bt_set_set] at hun
    refine RunsX.le (RunsX.bind (n := xs.length * 30 + 4) (m := 0) (a := PUnit.unit) (RunsX.holding ?_) (RunsX.pure)) (by lia)
    refine RunsX.bind (n := xs.length * 30) (m := 4) hall ?_
    rw [if_pos (by decide)]
    exact RunsX.bind (n := 1) (m := 3) (RunsX.rule RunsX.pure') hun
  · refine RunsX.le (RunsX.bind (n := 0) (m := n2) (a := none) (RunsX.pure) ?_) (by lia)
    exact evX_sound _ _ _ _ _ _ _ _ hfin
section
noncomputable def clsBody (x : Stmt) : List Stmt := if h : x.ctorIdx = 2 then @Stmt.ClassDef.elim (fun _ => List Stmt) x h fun _ _ _ b _ _ _ _ _ _ _ => b else []
noncomputable def top (i : Nat) : Stmt := (prg.main.body[i]?).getD (.Pass ⟨0, 0, 0, 0⟩)
noncomputable def sub (i j : Nat) : Stmt := ((clsBody (top i))[j]?).getD (.Pass ⟨0, 0, 0, 0⟩)
noncomputable def dNo : Arguments := ⟨[], [], none, [], [], none, []⟩
noncomputable def dA (x : Stmt) : Arguments := if h : x.ctorIdx = 0 then @Stmt.FunctionDef.elim (fun _ => Arguments) x h fun _ a _ _ _ _ _ _ _ _ => a else dNo
noncomputable def dB (x : Stmt) : List Stmt := if h : x.ctorIdx = 0 then @Stmt.FunctionDef.elim (fun _ => List Stmt) x h fun _ _ b _ _ _ _ _ _ _ => b else []
noncomputable def dS (x : Stmt) : Scope := if h : x.ctorIdx = 0 then @Stmt.FunctionDef.elim (fun _ => Scope) x h fun _ _ _ _ _ _ sc _ _ _ => sc else if h : x.ctorIdx = 2 then @Stmt.ClassDef.elim (fun _ => Scope) x h fun _ _ _ _ _ _ sc _ _ _ _ => sc else prg.main.scope
@[reducible] noncomputable def s (l : List Nat) : Str := ⟨⟨l⟩⟩
@[reducible] noncomputable def e (P : Params) (k : Str) (t : Nat) (v : Value) : DictEntry := ⟨PyData.keyHash P k, .str k t, v⟩
@[reducible] noncomputable def n (o : Obj) (l r : BT) : BT := .node o l r
@[reducible] noncomputable def z : BT := .nil
@[reducible] noncomputable def lf (o : Obj) : BT := .node o .nil .nil
noncomputable def xs230 : List (Str × Tok) := [(s [97], 485), (s [101], 486), (s [105], 487), (s [111], 488), (s [117], 489), (s [121], 490), (s [228], 491), (s [246], 492), (s [252], 493)]
noncomputable def oset230 (P : Params) : Obj := setObj (setR P xs230)
noncomputable def xs231 : List (Str × Tok) := [(s [85], 504), (s [100], 505), (s [102], 506), (s [103], 507), (s [107], 508), (s [108], 509), (s [109], 510), (s [110], 511), (s [114], 512), (s [115], 513), (s [116], 514), (s [122], 515), (s [228], 516)]
noncomputable def oset231 (P : Params) : Obj := setObj (setR P xs231)
noncomputable def xs232 : List (Str × Tok) := [(s [98], 531), (s [100], 532), (s [102], 533), (s [103], 534), (s [104], 535), (s [107], 536), (s [108], 537), (s [109], 538), (s [110], 539), (s [114], 540), (s [116], 541)]
noncomputable def oset232 (P : Params) : Obj := setObj (setR P xs232)
noncomputable def xs233 : List (Str × Tok) := [(s [98], 554), (s [100], 555), (s [102], 556), (s [103], 557), (s [104], 558), (s [107], 559), (s [108], 560), (s [109], 561), (s [110], 562), (s [116], 563)]
noncomputable def oset233 (P : Params) : Obj := setObj (setR P xs233)
@[reducible] noncomputable def i (n : Nat) : Value := .int n 0
@[reducible] noncomputable def i0 : Value := .int 0 0
@[reducible] noncomputable def tu (l : List Value) : Obj := ⟨.type "tuple", none, (.seq ⟨l⟩ 0), ⟨[]⟩⟩
noncomputable section
variable (P : Params)
def str1 : Str := s [47, 99, 108, 97, 105, 109, 47, 99, 117, 116, 46, 112, 121]
@[reducible] noncomputable def cd (a b : Str) (t u w : Nat) (l k : Value) (r x y z v o p : Nat) : Obj := ⟨.type "code", none, (.fields ⟨[.str a t, .str b u, .str str1 w, l, k, i0, i0, (i 3), .ref r, .bool true, (i 181), .ref x, .none, .ref y, .ref z, .ref v, (i o), l, .str str1 p]⟩), ⟨[]⟩⟩
noncomputable def oT : Obj := tu []
noncomputable def oF : Obj := ⟨.none, none, (.fields ⟨[]⟩), ⟨[]⟩⟩
@[reducible] noncomputable def fC (a b : Str) (p : Arguments) (t : Stmt) : Obj := ⟨.none, none, (.func { name := a, qualname := b, params := p, body := (.stmts (dB t)), scope := dS t, globals := 0, closure := [], defaults := .none, kwdefaults := .none, doc := .none, pyModule := .none, annotations := none, code := .none, closureTuple := .none, builtins := 0 }), ⟨[]⟩⟩
@[reducible] noncomputable def fF (a b : Str) (p : Arguments) (t : Stmt) (m : Value) (c : Nat) : Obj := ⟨.type "function", none, (.func { name := a, qualname := b, params := p, body := (.stmts (dB t)), scope := dS t, globals := 3, closure := [], defaults := .none, kwdefaults := .none, doc := .none, pyModule := m, annotations := none, code := .ref c, closureTuple := .none, builtins := 0 }), ⟨[]⟩⟩
def str0 : Str := s [60, 109, 111, 100, 117, 108, 101, 62]
def str2 : Str := s [95, 95, 109, 97, 105, 110, 95, 95]
def str3 : Str := s [115, 110, 111, 119, 98, 97, 108, 108, 115, 116, 101, 109, 109, 101, 114, 46, 98, 97, 115, 101, 115, 116, 101, 109, 109, 101, 114]
def str4 : Str := s [107]
def str5 : Str := s [95, 119, 97, 108, 108]
def str6 : Str := s [66, 97, 115, 101, 83, 116, 101, 109, 109, 101, 114]
def str7 : Str := s [115, 101, 108, 102]
def str8 : Str := s [95, 95, 105, 110, 105, 116, 95, 95]
def str9 : Str := s [66, 97, 115, 101, 83, 116, 101, 109, 109, 101, 114, 46, 95, 95, 105, 110, 105, 116, 95, 95]
def str10 : Str := s [118, 97, 108, 117, 101]
def str11 : Str := s [115, 101, 116, 95, 99, 117, 114, 114, 101, 110, 116]
def str12 : Str := s [66, 97, 115, 101, 83, 116, 101, 109, 109, 101, 114, 46, 115, 101, 116, 95, 99, 117, 114, 114, 101, 110, 116]
def str13 : Str := s [103, 101, 116, 95, 99, 117, 114, 114, 101, 110, 116]
def str14 : Str := s [66, 97, 115, 101, 83, 116, 101, 109, 109, 101, 114, 46, 103, 101, 116, 95, 99, 117, 114, 114, 101, 110, 116]
def str15 : Str := s [111, 116, 104, 101, 114]
def str16 : Str := s [99, 111, 112, 121, 95, 102, 114, 111, 109]
def str17 : Str := s [66, 97, 115, 101, 83, 116, 101, 109, 109, 101, 114, 46, 99, 111, 112, 121, 95, 102, 114, 111, 109]
def str18 : Str := s [115]
def str19 : Str := s [105, 110, 95, 103, 114, 111, 117, 112, 105, 110, 103]
def str20 : Str := s [66, 97, 115, 101, 83, 116, 101, 109, 109, 101, 114, 46, 105, 110, 95, 103, 114, 111, 117, 112, 105, 110, 103]
def str21 : Str := s [103, 111, 95, 105, 110, 95, 103, 114, 111, 117, 112, 105, 110, 103]
def str22 : Str := s [66, 97, 115, 101, 83, 116, 101, 109, 109, 101, 114, 46, 103, 111, 95, 105, 110, 95, 103, 114, 111, 117, 112, 105, 110, 103]
def str23 : Str := s [105, 110, 95, 103, 114, 111, 117, 112, 105, 110, 103, 95, 98]
def str24 : Str := s [66, 97, 115, 101, 83, 116, 101, 109, 109, 101, 114, 46, 105, 110, 95, 103, 114, 111, 117, 112, 105, 110, 103, 95, 98]
def str25 : Str := s [103, 111, 95, 105, 110, 95, 103, 114, 111, 117, 112, 105, 110, 103, 95, 98]
def str26 : Str := s [66, 97, 115, 101, 83, 116, 101, 109, 109, 101, 114, 46, 103, 111, 95, 105, 110, 95, 103, 114, 111, 117, 112, 105, 110, 103, 95, 98]
def str27 : Str := s [111, 117, 116, 95, 103, 114, 111, 117, 112, 105, 110, 103]
def str28 : Str := s [66, 97, 115, 101, 83, 116, 101, 109, 109, 101, 114, 46, 111, 117, 116, 95, 103, 114, 111, 117, 112, 105, 110, 103]
def str29 : Str := s [103, 111, 95, 111, 117, 116, 95, 103, 114, 111, 117, 112, 105, 110, 103]
def str30 : Str := s [66, 97, 115, 101, 83, 116, 101, 109, 109, 101, 114, 46, 103, 111, 95, 111, 117, 116, 95, 103, 114, 111, 117, 112, 105, 110, 103]
def str31 : Str := s [111, 117, 116, 95, 103, 114, 111, 117, 112, 105, 110, 103, 95, 98]
def str32 : Str := s [66, 97, 115, 101, 83, 116, 101, 109, 109, 101, 114, 46, 111, 117, 116, 95, 103, 114, 111, 117, 112, 105, 110, 103, 95, 98]
def str33 : Str := s [103, 111, 95, 111, 117, 116, 95, 103, 114, 111, 117, 112, 105, 110, 103, 95, 98]
def str34 : Str := s [66, 97, 115, 101, 83, 116, 101, 109, 109, 101, 114, 46, 103, 111, 95, 111, 117, 116, 95, 103, 114, 111, 117, 112, 105, 110, 103, 95, 98]
def str35 : Str := s [101, 113, 95, 115]
def str36 : Str := s [66, 97, 115, 101, 83, 116, 101, 109, 109, 101, 114, 46, 101, 113, 95, 115]
def str37 : Str := s [101, 113, 95, 115, 95, 98]
def str38 : Str := s [66, 97, 115, 101, 83, 116, 101, 109, 109, 101, 114, 46, 101, 113, 95, 115, 95, 98]
def str39 : Str := s [118]
def str40 : Str := s [105]
def str41 : Str := s [106]
def str42 : Str := s [99]
def str43 : Str := s [108]
def str44 : Str := s [99, 111, 109, 109, 111, 110, 95, 105]
def str45 : Str := s [99, 111, 109, 109, 111, 110, 95, 106]
def str46 : Str := s [102, 105, 114, 115, 116, 95, 107, 101, 121, 95, 105, 110, 115, 112, 101, 99, 116, 101, 100]
def str47 : Str := s [100, 105, 102, 102]
def str48 : Str := s [99, 111, 109, 109, 111, 110]
def str49 : Str := s [119]
def str50 : Str := s [105, 50]
def str51 : Str := s [102, 105, 110, 100, 95, 97, 109, 111, 110, 103]
def str52 : Str := s [66, 97, 115, 101, 83, 116, 101, 109, 109, 101, 114, 46, 102, 105, 110, 100, 95, 97, 109, 111, 110, 103]
def str53 : Str := s [108, 98]
def str54 : Str := s [102, 105, 110, 100, 95, 97, 109, 111, 110, 103, 95, 98]
def str55 : Str := s [66, 97, 115, 101, 83, 116, 101, 109, 109, 101, 114, 46, 102, 105, 110, 100, 95, 97, 109, 111, 110, 103, 95, 98]
def str56 : Str := s [99, 95, 98, 114, 97]
def str57 : Str := s [99, 95, 107, 101, 116]
def str58 : Str := s [97, 100, 106, 117, 115, 116, 109, 101, 110, 116]
def str59 : Str := s [114, 101, 112, 108, 97, 99, 101, 95, 115]
def str60 : Str := s [66, 97, 115, 101, 83, 116, 101, 109, 109, 101, 114, 46, 114, 101, 112, 108, 97, 99, 101, 95, 115]
def str61 : Str := s [115, 108, 105, 99, 101, 95, 102, 114, 111, 109]
def str62 : Str := s [66, 97, 115, 101, 83, 116, 101, 109, 109, 101, 114, 46, 115, 108, 105, 99, 101, 95, 102, 114, 111, 109]
def str63 : Str := s [115, 108, 105, 99, 101, 95, 100, 101, 108]
def str64 : Str := s [66, 97, 115, 101, 83, 116, 101, 109, 109, 101, 114, 46, 115, 108, 105, 99, 101, 95, 100, 101, 108]
def str65 : Str := s [105, 110, 115, 101, 114, 116]
def str66 : Str := s [66, 97, 115, 101, 83, 116, 101, 109, 109, 101, 114, 46, 105, 110, 115, 101, 114, 116]
def str67 : Str := s [115, 108, 105, 99, 101, 95, 116, 111]
def str68 : Str := s [66, 97, 115, 101, 83, 116, 101, 109, 109, 101, 114, 46, 115, 108, 105, 99, 101, 95, 116, 111]
def str69 : Str := s [97, 115, 115, 105, 103, 110, 95, 116, 111]
def str70 : Str := s [66, 97, 115, 101, 83, 116, 101, 109, 109, 101, 114, 46, 97, 115, 115, 105, 103, 110, 95, 116, 111]
def str71 : Str := s [119, 111, 114, 100]
def str72 : Str := s [115, 116, 101, 109, 87, 111, 114, 100]
def str73 : Str := s [66, 97, 115, 101, 83, 116, 101, 109, 109, 101, 114, 46, 115, 116, 101, 109, 87, 111, 114, 100]
def str74 : Str := s [115, 116, 101, 109, 87, 111, 114, 100, 115]
def str75 : Str := s [66, 97, 115, 101, 83, 116, 101, 109, 109, 101, 114, 46, 115, 116, 101, 109, 87, 111, 114, 100, 115]
def str76 : Str := s [98, 114, 97]
def str77 : Str := s [99, 117, 114, 114, 101, 110, 116]
def str78 : Str := s [99, 117, 114, 115, 111, 114]
def str79 : Str := s [107, 101, 116]
def str80 : Str := s [108, 105, 109, 105, 116]
def str81 : Str := s [108, 105, 109, 105, 116, 95, 98, 97, 99, 107, 119, 97, 114, 100]
def str82 : Str := s [95, 95, 100, 105, 99, 116, 95, 95]
def str83 : Str := s [95, 95, 119, 101, 97, 107, 114, 101, 102, 95, 95]
def str84 : Str := s [115, 110, 111, 119, 98, 97, 108, 108, 115, 116, 101, 109, 109, 101, 114, 46, 103, 101, 114, 109, 97, 110, 95, 115, 116, 101, 109, 109, 101, 114]
def str85 : Str := s [115, 110, 111, 119, 98, 97, 108, 108, 115, 116, 101, 109, 109, 101, 114, 46, 97, 109, 111, 110, 103]
def str86 : Str := s [65, 109, 111, 110, 103]
def str87 : Str := s [115, 117, 98, 115, 116, 114, 105, 110, 103, 95, 105]
def str88 : Str := s [114, 101, 115, 117, 108, 116]
def str89 : Str := s [65, 109, 111, 110, 103, 46, 95, 95, 105, 110, 105, 116, 95, 95]
def str90 : Str := s [71, 101, 114, 109, 97, 110, 83, 116, 101, 109, 109, 101, 114]
def str91 : Str := s [118, 95, 49]
def str92 : Str := s [118, 95, 50]
def str93 : Str := s [118, 95, 51]
def str94 : Str := s [118, 95, 52]
def str95 : Str := s [118, 95, 53]
def str96 : Str := s [97, 109, 111, 110, 103, 95, 118, 97, 114]
def str97 : Str := s [114, 95, 112, 114, 101, 108, 117, 100, 101]
def str98 : Str := s [71, 101, 114, 109, 97, 110, 83, 116, 101, 109, 109, 101, 114, 46, 114, 95, 112, 114, 101, 108, 117, 100, 101]
def str99 : Str := s [73, 95, 120]
def str100 : Str := s [114, 95, 109, 97, 114, 107, 95, 114, 101, 103, 105, 111, 110, 115]
def str101 : Str := s [71, 101, 114, 109, 97, 110, 83, 116, 101, 109, 109, 101, 114, 46, 114, 95, 109, 97, 114, 107, 95, 114, 101, 103, 105, 111, 110, 115]
def str102 : Str := s [114, 95, 112, 111, 115, 116, 108, 117, 100, 101]
def str103 : Str := s [71, 101, 114, 109, 97, 110, 83, 116, 101, 109, 109, 101, 114, 46, 114, 95, 112, 111, 115, 116, 108, 117, 100, 101]
def str104 : Str := s [114, 95, 82, 49]
def str105 : Str := s [71, 101, 114, 109, 97, 110, 83, 116, 101, 109, 109, 101, 114, 46, 114, 95, 82, 49]
def str106 : Str := s [114, 95, 82, 50]
def str107 : Str := s [71, 101, 114, 109, 97, 110, 83, 116, 101, 109, 109, 101, 114, 46, 114, 95, 82, 50]
def str108 : Str := s [118, 95, 54]
def str109 : Str := s [118, 95, 55]
def str110 : Str := s [118, 95, 56]
def str111 : Str := s [118, 95, 57]
def str112 : Str := s [118, 95, 49, 48]
def str113 : Str := s [114, 95, 115, 116, 97, 110, 100, 97, 114, 100, 95, 115, 117, 102, 102, 105, 120]
def str114 : Str := s [71, 101, 114, 109, 97, 110, 83, 116, 101, 109, 109, 101, 114, 46, 114, 95, 115, 116, 97, 110, 100, 97, 114, 100, 95, 115, 117, 102, 102, 105, 120]
def str115 : Str := s [95, 115, 116, 101, 109]
def str116 : Str := s [71, 101, 114, 109, 97, 110, 83, 116, 101, 109, 109, 101, 114, 46, 95, 115, 116, 101, 109]
def str117 : Str := s []
def str118 : Str := s [97, 101]
def str119 : Str := s [111, 101]
def str120 : Str := s [113, 117]
def str121 : Str := s [117, 101]
def str122 : Str := s [223]
def str123 : Str := s [85]
def str124 : Str := s [89]
def str125 : Str := s [228]
def str126 : Str := s [246]
def str127 : Str := s [252]
def str128 : Str := s [101]
def str129 : Str := s [101, 109]
def str130 : Str := s [101, 110]
def str131 : Str := s [101, 114, 105, 110, 110, 101, 110]
def str132 : Str := s [101, 114, 105, 110]
def str133 : Str := s [108, 110]
def str134 : Str := s [101, 114, 110]
def str135 : Str := s [101, 114]
def str136 : Str := s [101, 115]
def str137 : Str := s [108, 110, 115]
def str138 : Str := s [116, 105, 99, 107]
def str139 : Str := s [112, 108, 97, 110]
def str140 : Str := s [103, 101, 111, 114, 100, 110]
def str141 : Str := s [105, 110, 116, 101, 114, 110]
def str142 : Str := s [116, 114]
def str143 : Str := s [101, 116]
def str144 : Str := s [115, 116]
def str145 : Str := s [101, 115, 116]
def str146 : Str := s [105, 103]
def str147 : Str := s [108, 105, 99, 104]
def str148 : Str := s [101, 110, 100]
def str149 : Str := s [117, 110, 103]
def str150 : Str := s [105, 115, 99, 104]
def str151 : Str := s [105, 107]
def str152 : Str := s [104, 101, 105, 116]
def str153 : Str := s [107, 101, 105, 116]
def str154 : Str := s [39]
def str155 : Str := s [39, 115, 99, 104]
def str156 : Str := s [39, 115]
def str157 : Str := s [73, 95, 112, 49]
def str158 : Str := s [73, 95, 112, 50]
def str159 : Str := s [108, 97, 98, 48]
def str160 : Str := s [108, 97, 98, 49]
def str161 : Str := s [108, 97, 98, 50]
def str162 : Str := s [108, 97, 119, 95, 105, 112, 48, 48, 48, 53, 95, 48, 49]
def str163 : Str := s [97, 98, 99, 100, 101, 102, 103, 104, 105, 106, 107, 108, 109, 110, 111, 112, 113, 114, 115, 116, 117, 118, 119, 120, 121, 122, 228, 246, 252, 223, 85, 89, 39, 65, 196, 233, 45]
def str164 : Str := s [95, 108, 97, 119, 95, 116, 101, 120, 116, 115]
def str165 : Str := s [95, 108, 97, 119, 95, 98, 101, 102, 111, 114, 101, 95, 115]
def str166 : Str := s [95, 108, 97, 119, 95, 98, 101, 102, 111, 114, 101, 95, 115, 116]
def str167 : Str := s [95, 108, 97, 119, 95, 98, 101, 102, 111, 114, 101, 95, 101, 116]
def str168 : Str := s [95, 108, 97, 119, 95, 117, 109, 108, 97, 117, 116]
def str169 : Str := s [95, 108, 97, 119, 95, 98, 97, 99, 107]
def str170 : Str := s [115, 105, 103, 110]
def str171 : Str := s [95, 108, 97, 119, 95, 118, 111, 119, 101, 108]
def str172 : Str := s [116, 111, 108, 100]
def str173 : Str := s [112, 108, 97, 99, 101]
def str174 : Str := s [115, 116, 97, 114, 116]
def str175 : Str := s [99, 111, 117, 110, 116]
def str176 : Str := s [95, 108, 97, 119, 95, 109, 97, 114, 107, 101, 100]
def str177 : Str := s [95, 108, 97, 119, 95, 112, 97, 105, 114]
def str178 : Str := s [95, 108, 97, 119, 95, 106, 111, 105, 110, 101, 100]
def str179 : Str := s [95, 108, 97, 119, 95, 112, 97, 115, 116]
def str180 : Str := s [101, 110, 100, 115]
def str181 : Str := s [102, 111, 117, 110, 100]
def str182 : Str := s [95, 108, 97, 119, 95, 101, 110, 100]
def str183 : Str := s [111, 110, 101]
def str184 : Str := s [115, 116, 101, 109]
def str185 : Str := s [95, 108, 97, 119, 95, 102, 105, 114, 115, 116]
def str186 : Str := s [108, 97, 115, 116]
def str187 : Str := s [95, 108, 97, 119, 95, 115, 101, 99, 111, 110, 100]
def str188 : Str := s [116, 119, 111]
def str189 : Str := s [108, 101, 97, 115, 116]
def str190 : Str := s [109, 111, 114, 101]
def str191 : Str := s [95, 108, 97, 119, 95, 116, 104, 105, 114, 100]
def str192 : Str := s [95, 108, 97, 119, 95, 102, 111, 117, 114, 116, 104]
def str193 : Str := s [95, 108, 97, 119, 95, 115, 116, 101, 109]
def str194 : Str := s [110, 117, 109, 98, 101, 114, 115]
def str195 : Str := s [109, 111, 115, 116]
def str196 : Str := s [110, 117, 109, 98, 101, 114]
def str197 : Str := s [112, 105, 101, 99, 101]
def str198 : Str := s [95, 108, 97, 119, 95, 100, 114, 97, 119, 110]
def str199 : Str := s [108, 97, 119]
def str200 : Str := s [95, 95, 110, 97, 109, 101, 95, 95]
def str201 : Str := s [95, 95, 100, 111, 99, 95, 95]
def str202 : Str := s [95, 95, 112, 97, 99, 107, 97, 103, 101, 95, 95]
def str203 : Str := s [95, 95, 108, 111, 97, 100, 101, 114, 95, 95]
def str204 : Str := s [95, 95, 115, 112, 101, 99, 95, 95]
def str205 : Str := s [95, 95, 97, 110, 110, 111, 116, 97, 116, 105, 111, 110, 115, 95, 95]
def str206 : Str := s [95, 95, 98, 117, 105, 108, 116, 105, 110, 115, 95, 95]
def str207 : Str := s [95, 95, 102, 105, 108, 101, 95, 95]
def str208 : Str := s [95, 95, 99, 97, 99, 104, 101, 100, 95, 95]
def str209 : Str := s [95, 95, 109, 111, 100, 117, 108, 101, 95, 95]
def str210 : Str := s [95, 95, 113, 117, 97, 108, 110, 97, 109, 101, 95, 95]
def str211 : Str := s [95, 95, 102, 105, 114, 115, 116, 108, 105, 110, 101, 110, 111, 95, 95]
def str212 : Str := s [95, 95, 115, 116, 97, 116, 105, 99, 95, 97, 116, 116, 114, 105, 98, 117, 116, 101, 115, 95, 95]
def str213 : Str := s [103, 95, 118]
def str214 : Str := s [103, 95, 101, 116, 95, 101, 110, 100, 105, 110, 103]
def str215 : Str := s [103, 95, 115, 95, 101, 110, 100, 105, 110, 103]
def str216 : Str := s [103, 95, 115, 116, 95, 101, 110, 100, 105, 110, 103]
def str217 : Str := s [97, 95, 48]
def str218 : Str := s [97, 95, 49]
def str219 : Str := s [97, 95, 50]
def str220 : Str := s [97, 95, 51]
def str221 : Str := s [97, 95, 52]
def str222 : Str := s [97, 95, 53]
def str223 : Str := s [97, 95, 54]
def str224 : Str := s [97, 95, 55]
def str225 : Str := s [116, 121, 112, 101, 46, 95, 95, 115, 117, 98, 99, 108, 97, 115, 115, 101, 115, 95, 95, 46, 69, 120, 99, 101, 112, 116, 105, 111, 110, 46, 48]
def str226 : Str := s [116, 121, 112, 101, 46, 95, 95, 115, 117, 98, 99, 108, 97, 115, 115, 101, 115, 95, 95, 46, 69, 120, 99, 101, 112, 116, 105, 111, 110, 46, 110]
def str227 : Str := s [116, 121, 112, 101, 46, 95, 95, 115, 117, 98, 99, 108, 97, 115, 115, 101, 115, 95, 95, 46, 69, 120, 99, 101, 112, 116, 105, 111, 110, 46, 49]
def str228 : Str := s [116, 121, 112, 101, 46, 95, 95, 115, 117, 98, 99, 108, 97, 115, 115, 101, 115, 95, 95, 46, 69, 120, 99, 101, 112, 116, 105, 111, 110, 46, 50]
def str229 : Str := s [95, 108, 97, 119, 95, 108, 101, 116, 116, 101, 114, 115]
def str230 : Str := s [95, 108, 97, 119, 95, 101, 110, 100, 115, 95, 102, 105, 114, 115, 116]
def str231 : Str := s [95, 108, 97, 119, 95, 101, 110, 100, 115, 95, 115, 101, 99, 111, 110, 100]
def str232 : Str := s [95, 108, 97, 119, 95, 101, 110, 100, 115, 95, 116, 104, 105, 114, 100]
def str233 : Str := s [95, 108, 97, 119, 95, 101, 110, 100, 115, 95, 102, 111, 117, 114, 116, 104]
def str234 : Str := s [95, 108, 97, 119, 95, 107, 101, 101, 112, 115, 95, 101, 116]
def T0 : BT := n (boot_o_0 P) (n (boot_o_1 P) (n (boot_o_3 P) (lf (boot_o_7 P)) z) (n (boot_o_5 P) (lf (boot_o_9 P)) z)) (n (boot_o_2 P) (n (boot_o_4 P) (lf (boot_o_8 P)) z) (n (boot_o_6 P) (lf (boot_o_10 P)) z))
def o11 : Obj := oT
def o12_1 : Obj := oF
def o13 : Obj := ⟨.type "code", none, (.fields ⟨[.str str0 182, .str str0 183, .str str1 184, (i 1), i0, i0, i0, i0, .ref 11, .bool false, (i 181), .ref 12, .none, .none, .none, .none, (i 185), (i 1), .str str1 186]⟩), ⟨[]⟩⟩
def o14 : Obj := ⟨.type "frame", none, .plain, ⟨[some (.ref 13), some (.ref 3), some (.ref 3), none, some (.str str2 164), none, some (.ref 0)]⟩⟩
noncomputable def Ta (P : Params) : BT := n (boot_o_0 P) (n (boot_o_1 P) (n (boot_o_3 P) (lf (boot_o_7 P)) (lf o11)) (n (boot_o_5 P) (lf (boot_o_9 P)) (lf o13))) (n (boot_o_2 P) (n (boot_o_4 P) (lf (boot_o_8 P)) (lf o12_1)) (n (boot_o_6 P) (lf (boot_o_10 P)) (lf o14)))
def o3_2 : Obj := ⟨.type "dict", none, (.dict ⟨[e P str200 165 (.str str3 194), e P str201 166 (.none), e P str202 167 (.none), e P str203 168 (.builtin "__main__.__loader__#opaque"), e P str204 169 (.none), e P str205 170 (.ref 6), e P str206 171 (.ref 4), e P str207 173 (.str str1 172), e P str208 174 (.none), e P str5 193 (.ref 21)]⟩ 10), ⟨[]⟩⟩
def o12_2 : Obj := ⟨.none, none, (.fields ⟨[(i 1), i0, .ref 20]⟩), ⟨[]⟩⟩
def o15 : Obj := oT
def o16 : Obj := oF
def o17 : Obj := tu [.str str4 190]
def o18 : Obj := oT
def o19 : Obj := fC str5 str5 (dA (top 0)) (top 0)
def o20 : Obj := cd str5 str5 187 188 189 (i 1) (i 1) 15 16 17 18 19 191 192
def o21 : Obj := fF str5 str5 (dA (top 0)) (top 0) (.str str2 164) 20
def TA2 : BT := n (boot_o_0 P) (n (boot_o_1 P) (n (o3_2 P) (n (boot_o_7 P) (lf o15) z) (n o11 (lf o19) z)) (n (boot_o_5 P) (n (boot_o_9 P) (lf o17) z) (n o13 (lf o21) z))) (n (boot_o_2 P) (n (boot_o_4 P) (n (boot_o_8 P) (lf o16) z) (n o12_2 (lf o20) z)) (n (boot_o_6 P) (n (boot_o_10 P) (lf o18) z) (lf o14)))
def o3_3 : Obj := ⟨.type "dict", none, (.dict ⟨[e P str200 165 (.str str3 194), e P str201 166 (.none), e P str202 167 (.none), e P str203 168 (.builtin "__main__.__loader__#opaque"), e P str204 169 (.none), e P str205 170 (.ref 6), e P str206 171 (.ref 4), e P str207 173 (.str str1 172), e P str208 174 (.none), e P str5 193 (.ref 21), e P str6 435 (.ref 197)]⟩ 11), ⟨[]⟩⟩
def o12_3 : Obj := ⟨.none, none, (.fields ⟨[(i 1), i0, .ref 20, (i 5), i0, .ref 27]⟩), ⟨[]⟩⟩
def o22 : Obj := oT
noncomputable def o23 : Obj := ⟨.type "builtin_function_or_method", none, (.fields ⟨[.builtin "type.__prepare__", .type "type"]⟩), ⟨[]⟩⟩
def o24 : Obj := ⟨.type "dict", none, (.dict ⟨[e P str209 203 (.str str3 194), e P str210 205 (.str str6 204), e P str211 207 (.int (5) 206), e P str8 214 (.ref 35), e P str11 222 (.ref 42), e P str13 229 (.ref 49), e P str16 237 (.ref 56), e P str19 245 (.ref 63), e P str21 253 (.ref 70), e P str23 261 (.ref 77), e P str25 269 (.ref 84), e P str27 277 (.ref 91), e P str29 285 (.ref 98), e P str31 293 (.ref 105), e P str33 301 (.ref 112), e P str35 309 (.ref 119), e P str37 317 (.ref 126), e P str51 337 (.ref 133), e P str54 357 (.ref 140), e P str59 368 (.ref 147), e P str61 376 (.ref 154), e P str63 383 (.ref 161), e P str65 393 (.ref 168), e P str67 400 (.ref 175), e P str69 407 (.ref 182), e P str72 415 (.ref 189), e P str74 421 (.ref 194), e P str212 428 (.ref 195)]⟩ 28), ⟨[]⟩⟩
def o25 : Obj := oT
def o26 : Obj := ⟨.none, none, (.fields ⟨[(i 7), (i 4), .ref 34, (i 10), (i 4), .ref 41, (i 18), (i 4), .ref 48, (i 21), (i 4), .ref 55, (i 24), (i 4), .ref 62, (i 32), (i 4), .ref 69, (i 39), (i 4), .ref 76, (i 47), (i 4), .ref 83, (i 50), (i 4), .ref 90, (i 53), (i 4), .ref 97, (i 60), (i 4), .ref 104, (i 63), (i 4), .ref 111, (i 66), (i 4), .ref 118, (i 69), (i 4), .ref 125, (i 75), (i 4), .ref 132, (i 120), (i 4), .ref 139, (i 165), (i 4), .ref 146, (i 175), (i 4), .ref 153, (i 183), (i 4), .ref 160, (i 186), (i 4), .ref 167, (i 189), (i 4), .ref 174, (i 192), (i 4), .ref 181, (i 195), (i 4), .ref 188, (i 200), (i 4), .ref 193]⟩), ⟨[]⟩⟩
def o27 : Obj := ⟨.type "code", none, (.fields ⟨[.str str6 198, .str str6 199, .str str1 200, (i 5), i0, i0, i0, i0, .ref 25, .bool false, (i 181), .ref 26, .none, .none, .none, .none, (i 201), (i 5), .str str1 202]⟩), ⟨[]⟩⟩
def o28 : Obj := ⟨.type "frame", none, .plain, ⟨[some (.ref 27), some (.ref 3), some (.ref 24), none, some (.str str3 194), none, some (.ref 0)]⟩⟩
def o29 : Obj := oT
def o30 : Obj := oF
def o31 : Obj := tu [.str str7 211]
def o32 : Obj := oT
def o33 : Obj := fC str8 str9 (dA (sub 2 0)) (sub 2 0)
def o34 : Obj := cd str8 str9 208 209 210 (i 7) (i 1) 29 30 31 32 33 212 213
def o35 : Obj := fF str8 str9 (dA (sub 2 0)) (sub 2 0) (.str str3 194) 34
def o36 : Obj := oT
def o37 : Obj := oF
def o38 : Obj := tu [.str str7 218, .str str10 219]
def o39 : Obj := oT
def o40 : Obj := fC str11 str12 (dA (sub 2 1)) (sub 2 1)
def o41 : Obj := cd str11 str12 215 216 217 (i 10) (i 2) 36 37 38 39 40 220 221
def o42 : Obj := fF str11 str12 (dA (sub 2 1)) (sub 2 1) (.str str3 194) 41
def o43 : Obj := oT
def o44 : Obj := oF
def o45 : Obj := tu [.str str7 226]
def o46 : Obj := oT
def o47 : Obj := fC str13 str14 (dA (sub 2 2)) (sub 2 2)
def o48 : Obj := cd str13 str14 223 224 225 (i 18) (i 1) 43 44 45 46 47 227 228
def o49 : Obj := fF str13 str14 (dA (sub 2 2)) (sub 2 2) (.str str3 194) 48
def o50 : Obj := oT
def o51 : Obj := oF
def o52 : Obj := tu [.str str7 233, .str str15 234]
def o53 : Obj := oT
def o54 : Obj := fC str16 str17 (dA (sub 2 3)) (sub 2 3)
def o55 : Obj := cd str16 str17 230 231 232 (i 21) (i 2) 50 51 52 53 54 235 236
def o56 : Obj := fF str16 str17 (dA (sub 2 3)) (sub 2 3) (.str str3 194) 55
def o57 : Obj := oT
def o58 : Obj := oF
def o59 : Obj := tu [.str str7 241, .str str18 242]
def o60 : Obj := oT
def o61 : Obj := fC str19 str20 (dA (sub 2 4)) (sub 2 4)
def o62 : Obj := cd str19 str20 238 239 240 (i 24) (i 2) 57 58 59 60 61 243 244
def o63 : Obj := fF str19 str20 (dA (sub 2 4)) (sub 2 4) (.str str3 194) 62
def o64 : Obj := oT
def o65 : Obj := oF
def o66 : Obj := tu [.str str7 249, .str str18 250]
def o67 : Obj := oT
def o68 : Obj := fC str21 str22 (dA (sub 2 5)) (sub 2 5)
def o69 : Obj := cd str21 str22 246 247 248 (i 32) (i 2) 64 65 66 67 68 251 252
def o70 : Obj := fF str21 str22 (dA (sub 2 5)) (sub 2 5) (.str str3 194) 69
def o71 : Obj := oT
def o72 : Obj := oF
def o73 : Obj := tu [.str str7 257, .str str18 258]
def o74 : Obj := oT
def o75 : Obj := fC str23 str24 (dA (sub 2 6)) (sub 2 6)
def o76 : Obj := cd str23 str24 254 255 256 (i 39) (i 2) 71 72 73 74 75 259 260
def o77 : Obj := fF str23 str24 (dA (sub 2 6)) (sub 2 6) (.str str3 194) 76
def o78 : Obj := oT
def o79 : Obj := oF
def o80 : Obj := tu [.str str7 265, .str str18 266]
def o81 : Obj := oT
def o82 : Obj := fC str25 str26 (dA (sub 2 7)) (sub 2 7)
def o83 : Obj := cd str25 str26 262 263 264 (i 47) (i 2) 78 79 80 81 82 267 268
def o84 : Obj := fF str25 str26 (dA (sub 2 7)) (sub 2 7) (.str str3 194) 83
def o85 : Obj := oT
def o86 : Obj := oF
def o87 : Obj := tu [.str str7 273, .str str18 274]
def o88 : Obj := oT
def o89 : Obj := fC str27 str28 (dA (sub 2 8)) (sub 2 8)
def o90 : Obj := cd str27 str28 270 271 272 (i 50) (i 2) 85 86 87 88 89 275 276
def o91 : Obj := fF str27 str28 (dA (sub 2 8)) (sub 2 8) (.str str3 194) 90
def o92 : Obj := oT
def o93 : Obj := oF
def o94 : Obj := tu [.str str7 281, .str str18 282]
def o95 : Obj := oT
def o96 : Obj := fC str29 str30 (dA (sub 2 9)) (sub 2 9)
def o97 : Obj := cd str29 str30 278 279 280 (i 53) (i 2) 92 93 94 95 96 283 284
def o98 : Obj := fF str29 str30 (dA (sub 2 9)) (sub 2 9) (.str str3 194) 97
def o99 : Obj := oT
def o100 : Obj := oF
def o101 : Obj := tu [.str str7 289, .str str18 290]
def o102 : Obj := oT
def o103 : Obj := fC str31 str32 (dA (sub 2 10)) (sub 2 10)
def o104 : Obj := cd str31 str32 286 287 288 (i 60) (i 2) 99 100 101 102 103 291 292
def o105 : Obj := fF str31 str32 (dA (sub 2 10)) (sub 2 10) (.str str3 194) 104
def o106 : Obj := oT
def o107 : Obj := oF
def o108 : Obj := tu [.str str7 297, .str str18 298]
def o109 : Obj := oT
def o110 : Obj := fC str33 str34 (dA (sub 2 11)) (sub 2 11)
def o111 : Obj := cd str33 str34 294 295 296 (i 63) (i 2) 106 107 108 109 110 299 300
def o112 : Obj := fF str33 str34 (dA (sub 2 11)) (sub 2 11) (.str str3 194) 111
def o113 : Obj := oT
def o114 : Obj := oF
def o115 : Obj := tu [.str str7 305, .str str18 306]
def o116 : Obj := oT
def o117 : Obj := fC str35 str36 (dA (sub 2 12)) (sub 2 12)
def o118 : Obj := cd str35 str36 302 303 304 (i 66) (i 2) 113 114 115 116 117 307 308
def o119 : Obj := fF str35 str36 (dA (sub 2 12)) (sub 2 12) (.str str3 194) 118
def o120 : Obj := oT
def o121 : Obj := oF
def o122 : Obj := tu [.str str7 313, .str str18 314]
def o123 : Obj := oT
def o124 : Obj := fC str37 str38 (dA (sub 2 13)) (sub 2 13)
def o125 : Obj := cd str37 str38 310 311 312 (i 69) (i 2) 120 121 122 123 124 315 316
def o126 : Obj := fF str37 str38 (dA (sub 2 13)) (sub 2 13) (.str str3 194) 125
def o127 : Obj := oT
def o128 : Obj := oF
def o129 : Obj := tu [.str str7 321, .str str39 322, .str str40 323, .str str41 324, .str str42 325, .str str43 326, .str str44 327, .str str45 328, .str str46 329, .str str4 330, .str str47 331, .str str48 332, .str str49 333, .str str50 334]
def o130 : Obj := oT
def o131 : Obj := fC str51 str52 (dA (sub 2 14)) (sub 2 14)
def o132 : Obj := cd str51 str52 318 319 320 (i 75) (i 2) 127 128 129 130 131 335 336
def o133 : Obj := fF str51 str52 (dA (sub 2 14)) (sub 2 14) (.str str3 194) 132
def o134 : Obj := oT
def o135 : Obj := oF
def o136 : Obj := tu [.str str7 341, .str str39 342, .str str40 343, .str str41 344, .str str42 345, .str str53 346, .str str44 347, .str str45 348, .str str46 349, .str str4 350, .str str47 351, .str str48 352, .str str49 353, .str str50 354]
def o137 : Obj := oT
def o138 : Obj := fC str54 str55 (dA (sub 2 15)) (sub 2 15)
def o139 : Obj := cd str54 str55 338 339 340 (i 120) (i 2) 134 135 136 137 138 355 356
def o140 : Obj := fF str54 str55 (dA (sub 2 15)) (sub 2 15) (.str str3 194) 139
def o141 : Obj := oT
def o142 : Obj := oF
def o143 : Obj := tu [.str str7 361, .str str56 362, .str str57 363, .str str18 364, .str str58 365]
def o144 : Obj := oT
def o145 : Obj := fC str59 str60 (dA (sub 2 16)) (sub 2 16)
def o146 : Obj := cd str59 str60 358 359 360 (i 165) (i 4) 141 142 143 144 145 366 367
def o147 : Obj := fF str59 str60 (dA (sub 2 16)) (sub 2 16) (.str str3 194) 146
def o148 : Obj := oT
def o149 : Obj := oF
def o150 : Obj := tu [.str str7 372, .str str18 373]
def o151 : Obj := oT
def o152 : Obj := fC str61 str62 (dA (sub 2 17)) (sub 2 17)
def o153 : Obj := cd str61 str62 369 370 371 (i 175) (i 2) 148 149 150 151 152 374 375
def o154 : Obj := fF str61 str62 (dA (sub 2 17)) (sub 2 17) (.str str3 194) 153
def o155 : Obj := oT
def o156 : Obj := oF
def o157 : Obj := tu [.str str7 380]
def o158 : Obj := oT
def o159 : Obj := fC str63 str64 (dA (sub 2 18)) (sub 2 18)
def o160 : Obj := cd str63 str64 377 378 379 (i 183) (i 1) 155 156 157 158 159 381 382
def o161 : Obj := fF str63 str64 (dA (sub 2 18)) (sub 2 18) (.str str3 194) 160
def o162 : Obj := oT
def o163 : Obj := oF
def o164 : Obj := tu [.str str7 387, .str str56 388, .str str57 389, .str str18 390]
def o165 : Obj := oT
def o166 : Obj := fC str65 str66 (dA (sub 2 19)) (sub 2 19)
def o167 : Obj := cd str65 str66 384 385 386 (i 186) (i 4) 162 163 164 165 166 391 392
def o168 : Obj := fF str65 str66 (dA (sub 2 19)) (sub 2 19) (.str str3 194) 167
def o169 : Obj := oT
def o170 : Obj := oF
def o171 : Obj := tu [.str str7 397]
def o172 : Obj := oT
def o173 : Obj := fC str67 str68 (dA (sub 2 20)) (sub 2 20)
def o174 : Obj := cd str67 str68 394 395 396 (i 189) (i 1) 169 170 171 172 173 398 399
def o175 : Obj := fF str67 str68 (dA (sub 2 20)) (sub 2 20) (.str str3 194) 174
def o176 : Obj := oT
def o177 : Obj := oF
def o178 : Obj := tu [.str str7 404]
def o179 : Obj := oT
def o180 : Obj := fC str69 str70 (dA (sub 2 21)) (sub 2 21)
def o181 : Obj := cd str69 str70 401 402 403 (i 192) (i 1) 176 177 178 179 180 405 406
def o182 : Obj := fF str69 str70 (dA (sub 2 21)) (sub 2 21) (.str str3 194) 181
def o183 : Obj := oT
def o184 : Obj := oF
def o185 : Obj := tu [.str str7 411, .str str71 412]
def o186 : Obj := oT
def o187 : Obj := fC str72 str73 (dA (sub 2 22)) (sub 2 22)
def o188 : Obj := cd str72 str73 408 409 410 (i 195) (i 2) 183 184 185 186 187 413 414
def o189 : Obj := fF str72 str73 (dA (sub 2 22)) (sub 2 22) (.str str3 194) 188
def o190 : Obj := oT
def o191 : Obj := oF
def o192 : Obj := fC str74 str75 (dA (sub 2 23)) (sub 2 23)
def o193 : Obj := ⟨.type "code", none, (.fields ⟨[.str str74 416, .str str75 417, .str str1 418, (i 200), (i 2), i0, i0, (i 3), .ref 190, .bool true, (i 181), .ref 191, .none, .none, .none, .ref 192, (i 419), (i 200), .str str1 420]⟩), ⟨[]⟩⟩
def o194 : Obj := fF str74 str75 (dA (sub 2 23)) (sub 2 23) (.str str3 194) 193
def o195 : Obj := tu [.str str76 422, .str str77 423, .str str78 424, .str str79 425, .str str80 426, .str str81 427]
def o196 : Obj := ⟨.type "dict", none, (.dict ⟨[e P str209 203 (.str str3 194), e P str211 207 (.int (5) 206), e P str8 214 (.ref 35), e P str11 222 (.ref 42), e P str13 229 (.ref 49), e P str16 237 (.ref 56), e P str19 245 (.ref 63), e P str21 253 (.ref 70), e P str23 261 (.ref 77), e P str25 269 (.ref 84), e P str27 277 (.ref 91), e P str29 285 (.ref 98), e P str31 293 (.ref 105), e P str33 301 (.ref 112), e P str35 309 (.ref 119), e P str37 317 (.ref 126), e P str51 337 (.ref 133), e P str54 357 (.ref 140), e P str59 368 (.ref 147), e P str61 376 (.ref 154), e P str63 383 (.ref 161), e P str65 393 (.ref 168), e P str67 400 (.ref 175), e P str69 407 (.ref 182), e P str72 415 (.ref 189), e P str74 421 (.ref 194), e P str212 428 (.ref 195), e P str82 430 (.ref 198), e P str83 432 (.ref 199), e P str201 433 (.none)]⟩ 4), ⟨[]⟩⟩
def o197_3 : Obj := ⟨.type "type", none, (.cls ⟨str6, [.type "object"], [.ref 197, .type "object"], 196, str6, true, [], [], false, none, false⟩), ⟨[none, none, some (.str str6 196), some (.str str6 204), some (.builtin "object.__new__"), some (.bool true)]⟩⟩
def o198 : Obj := ⟨.type "getset_descriptor", none, (.fields ⟨[.str str82 429, .ref 197, .builtin "function.__dict__", .builtin "function.__dict__#set"]⟩), ⟨[]⟩⟩
def o199 : Obj := ⟨.type "getset_descriptor", none, (.fields ⟨[.str str83 431, .ref 197, .builtin "ExceptionGroup.__weakref__", .none]⟩), ⟨[]⟩⟩
noncomputable def o200 : Obj := ⟨.type "super", none, (.fields ⟨[.ref 197, .ref 197, .ref 197]⟩), ⟨[]⟩⟩
noncomputable def o201 : Obj := ⟨.type "builtin_function_or_method", none, (.fields ⟨[.builtin "object.__init_subclass__", .ref 197]⟩), ⟨[]⟩⟩
def TA3 : BT := n (boot_o_0 P) (n (boot_o_1 P) (n (o3_3 P) (n (boot_o_7 P) (n o15 (n o31 (n o63 (lf o127) (lf o191)) (n o95 (lf o159) z)) (n o47 (n o79 (lf o143) z) (n o111 (lf o175) z))) (n o23 (n o39 (n o71 (lf o135) (lf o199)) (n o103 (lf o167) z)) (n o55 (n o87 (lf o151) z) (n o119 (lf o183) z)))) (n o11 (n o19 (n o35 (n o67 (lf o131) (lf o195)) (n o99 (lf o163) z)) (n o51 (n o83 (lf o147) z) (n o115 (lf o179) z))) (n o27 (n o43 (n o75 (lf o139) z) (n o107 (lf o171) z)) (n o59 (n o91 (lf o155) z) (n o123 (lf o187) z))))) (n (boot_o_5 P) (n (boot_o_9 P) (n o17 (n o33 (n o65 (lf o129) (lf o193)) (n o97 (lf o161) z)) (n o49 (n o81 (lf o145) z) (n o113 (lf o177) z))) (n o25 (n o41 (n o73 (lf o137) (lf o201)) (n o105 (lf o169) z)) (n o57 (n o89 (lf o153) z) (n o121 (lf o185) z)))) (n o13 (n o21 (n o37 (n o69 (lf o133) (lf o197_3)) (n o101 (lf o165) z)) (n o53 (n o85 (lf o149) z) (n o117 (lf o181) z))) (n o29 (n o45 (n o77 (lf o141) z) (n o109 (lf o173) z)) (n o61 (n o93 (lf o157) z) (n o125 (lf o189) z)))))) (n (boot_o_2 P) (n (boot_o_4 P) (n (boot_o_8 P) (n o16 (n o32 (n o64 (lf o128) (lf o192)) (n o96 (lf o160) z)) (n o48 (n o80 (lf o144) z) (n o112 (lf o176) z))) (n (o24 P) (n o40 (n o72 (lf o136) (lf o200)) (n o104 (lf o168) z)) (n o56 (n o88 (lf o152) z) (n o120 (lf o184) z)))) (n o12_3 (n o20 (n o36 (n o68 (lf o132) (lf (o196 P))) (n o100 (lf o164) z)) (n o52 (n o84 (lf o148) z) (n o116 (lf o180) z))) (n o28 (n o44 (n o76 (lf o140) z) (n o108 (lf o172) z)) (n o60 (n o92 (lf o156) z) (n o124 (lf o188) z))))) (n (boot_o_6 P) (n (boot_o_10 P) (n o18 (n o34 (n o66 (lf o130) (lf o194)) (n o98 (lf o162) z)) (n o50 (n o82 (lf o146) z) (n o114 (lf o178) z))) (n o26 (n o42 (n o74 (lf o138) z) (n o106 (lf o170) z)) (n o58 (n o90 (lf o154) z) (n o122 (lf o186) z)))) (n o14 (n o22 (n o38 (n o70 (lf o134) (lf o198)) (n o102 (lf o166) z)) (n o54 (n o86 (lf o150) z) (n o118 (lf o182) z))) (n o30 (n o46 (n o78 (lf o142) z) (n o110 (lf o174) z)) (n o62 (n o94 (lf o158) z) (n o126 (lf o190) z))))))
def o3_4 : Obj := ⟨.type "dict", none, (.dict ⟨[e P str200 165 (.str str84 471), e P str201 166 (.none), e P str202 167 (.none), e P str203 168 (.builtin "__main__.__loader__#opaque"), e P str204 169 (.none), e P str205 170 (.ref 6), e P str206 171 (.ref 4), e P str207 173 (.str str1 172), e P str208 174 (.none), e P str5 193 (.ref 21), e P str6 435 (.ref 197), e P str86 470 (.ref 218)]⟩ 12), ⟨[]⟩⟩
def o12_4 : Obj := ⟨.none, none, (.fields ⟨[(i 1), i0, .ref 20, (i 5), i0, .ref 27, (i 203), i0, .ref 207]⟩), ⟨[]⟩⟩
def o202 : Obj := oT
noncomputable def o203 : Obj := ⟨.type "builtin_function_or_method", none, (.fields ⟨[.builtin "type.__prepare__", .type "type"]⟩), ⟨[]⟩⟩
def o204 : Obj := ⟨.type "dict", none, (.dict ⟨[e P str209 445 (.str str85 436), e P str210 447 (.str str86 446), e P str211 449 (.int (203) 448), e P str8 459 (.ref 215), e P str212 463 (.ref 216)]⟩ 5), ⟨[]⟩⟩
def o205 : Obj := oT
def o206 : Obj := ⟨.none, none, (.fields ⟨[(i 205), (i 4), .ref 214]⟩), ⟨[]⟩⟩
def o207 : Obj := ⟨.type "code", none, (.fields ⟨[.str str86 440, .str str86 441, .str str1 442, (i 203), i0, i0, i0, i0, .ref 205, .bool false, (i 181), .ref 206, .none, .none, .none, .none, (i 443), (i 203), .str str1 444]⟩), ⟨[]⟩⟩
def o208 : Obj := ⟨.type "frame", none, .plain, ⟨[some (.ref 207), some (.ref 3), some (.ref 204), none, some (.str str85 436), none, some (.ref 0)]⟩⟩
def o209 : Obj := oT
def o210 : Obj := oF
def o211 : Obj := tu [.str str7 453, .str str18 454, .str str87 455, .str str88 456]
def o212 : Obj := oT
def o213 : Obj := fC str8 str89 (dA (sub 4 0)) (sub 4 0)
def o214 : Obj := cd str8 str89 450 451 452 (i 205) (i 4) 209 210 211 212 213 457 458
def o215 : Obj := fF str8 str89 (dA (sub 4 0)) (sub 4 0) (.str str85 436) 214
def o216 : Obj := tu [.str str88 460, .str str18 461, .str str87 462]
def o217 : Obj := ⟨.type "dict", none, (.dict ⟨[e P str209 445 (.str str85 436), e P str211 449 (.int (203) 448), e P str8 459 (.ref 215), e P str212 463 (.ref 216), e P str82 465 (.ref 219), e P str83 467 (.ref 220), e P str201 468 (.none)]⟩ 4), ⟨[]⟩⟩
def o218 : Obj := ⟨.type "type", none, (.cls ⟨str86, [.type "object"], [.ref 218, .type "object"], 217, str86, true, [], [], false, none, false⟩), ⟨[none, none, some (.str str86 438), some (.str str86 446), some (.builtin "object.__new__"), some (.bool true)]⟩⟩
def o219 : Obj := ⟨.type "getset_descriptor", none, (.fields ⟨[.str str82 464, .ref 218, .builtin "function.__dict__", .builtin "function.__dict__#set"]⟩), ⟨[]⟩⟩
def o220 : Obj := ⟨.type "getset_descriptor", none, (.fields ⟨[.str str83 466, .ref 218, .builtin "ExceptionGroup.__weakref__", .none]⟩), ⟨[]⟩⟩
noncomputable def o221 : Obj := ⟨.type "super", none, (.fields ⟨[.ref 218, .ref 218, .ref 218]⟩), ⟨[]⟩⟩
noncomputable def o222 : Obj := ⟨.type "builtin_function_or_method", none, (.fields ⟨[.builtin "object.__init_subclass__", .ref 218]⟩), ⟨[]⟩⟩
def sb0 : BT := n o23 (n o39 (n o71 (lf o135) (lf o199)) (n o103 (lf o167) z)) (n o55 (n o87 (lf o151) (lf o215)) (n o119 (lf o183) z))
def sb1 : BT := n o27 (n o43 (n o75 (lf o139) (lf o203)) (n o107 (lf o171) z)) (n o59 (n o91 (lf o155) (lf o219)) (n o123 (lf o187) z))
def sb2 : BT := n o25 (n o41 (n o73 (lf o137) (lf o201)) (n o105 (lf o169) z)) (n o57 (n o89 (lf o153) (lf (o217 P))) (n o121 (lf o185) z))
def sb3 : BT := n o29 (n o45 (n o77 (lf o141) (lf o205)) (n o109 (lf o173) z)) (n o61 (n o93 (lf o157) (lf o221)) (n o125 (lf o189) z))
def sb4 : BT := n (o24 P) (n o40 (n o72 (lf o136) (lf o200)) (n o104 (lf o168) z)) (n o56 (n o88 (lf o152) (lf o216)) (n o120 (lf o184) z))
def sb5 : BT := n o28 (n o44 (n o76 (lf o140) (lf (o204 P))) (n o108 (lf o172) z)) (n o60 (n o92 (lf o156) (lf o220)) (n o124 (lf o188) z))
def sb6 : BT := n o26 (n o42 (n o74 (lf o138) (lf o202)) (n o106 (lf o170) z)) (n o58 (n o90 (lf o154) (lf o218)) (n o122 (lf o186) z))
def sb7 : BT := n o30 (n o46 (n o78 (lf o142) (lf o206)) (n o110 (lf o174) z)) (n o62 (n o94 (lf o158) (lf o222)) (n o126 (lf o190) z))
def sb8 : BT := n o14 (n o22 (n o38 (n o70 (lf o134) (lf o198)) (n o102 (lf o166) z)) (n o54 (n o86 (lf o150) (lf o214)) (n o118 (lf o182) z))) sb7
def TA6 : BT := n (boot_o_0 P) (n (boot_o_1 P) (n (o3_4 P) (n (boot_o_7 P) (n o15 (n o31 (n o63 (lf o127) (lf o191)) (n o95 (lf o159) z)) (n o47 (n o79 (lf o143) (lf o207)) (n o111 (lf o175) z))) sb0) (n o11 (n o19 (n o35 (n o67 (lf o131) (lf o195)) (n o99 (lf o163) z)) (n o51 (n o83 (lf o147) (lf o211)) (n o115 (lf o179) z))) sb1)) (n (boot_o_5 P) (n (boot_o_9 P) (n o17 (n o33 (n o65 (lf o129) (lf o193)) (n o97 (lf o161) z)) (n o49 (n o81 (lf o145) (lf o209)) (n o113 (lf o177) z))) (sb2 P)) (n o13 (n o21 (n o37 (n o69 (lf o133) (lf o197_3)) (n o101 (lf o165) z)) (n o53 (n o85 (lf o149) (lf o213)) (n o117 (lf o181) z))) sb3))) (n (boot_o_2 P) (n (boot_o_4 P) (n (boot_o_8 P) (n o16 (n o32 (n o64 (lf o128) (lf o192)) (n o96 (lf o160) z)) (n o48 (n o80 (lf o144) (lf o208)) (n o112 (lf o176) z))) (sb4 P)) (n o12_4 (n o20 (n o36 (n o68 (lf o132) (lf (o196 P))) (n o100 (lf o164) z)) (n o52 (n o84 (lf o148) (lf o212)) (n o116 (lf o180) z))) (sb5 P))) (n (boot_o_6 P) (n (boot_o_10 P) (n o18 (n o34 (n o66 (lf o130) (lf o194)) (n o98 (lf o162) z)) (n o50 (n o82 (lf o146) (lf o210)) (n o114 (lf o178) z))) sb6) sb8))
def o12_5 : Obj := ⟨.none, none, (.fields ⟨[(i 1), i0, .ref 20, (i 5), i0, .ref 27, (i 203), i0, .ref 207, (i 210), i0, .ref 228]⟩), ⟨[]⟩⟩
def o223 : Obj := tu [.ref 197]
noncomputable def o224 : Obj := ⟨.type "builtin_function_or_method", none, (.fields ⟨[.builtin "type.__prepare__", .type "type"]⟩), ⟨[]⟩⟩
def o225_5 : Obj := ⟨.type "dict", none, (.dict ⟨[e P str209 480 (.str str84 471), e P str210 482 (.str str90 481), e P str211 484 (.int (210) 483)]⟩ 3), ⟨[]⟩⟩
def o226 : Obj := oT
def o227_5 : Obj := oF
def o228 : Obj := ⟨.type "code", none, (.fields ⟨[.str str90 475, .str str90 476, .str str1 477, (i 210), i0, i0, i0, i0, .ref 226, .bool false, (i 181), .ref 227, .none, .none, .none, .none, (i 478), (i 210), .str str1 479]⟩), ⟨[]⟩⟩
def o229 : Obj := ⟨.type "frame", none, .plain, ⟨[some (.ref 228), some (.ref 3), some (.ref 225), none, some (.str str84 471), none, some (.ref 0)]⟩⟩
def sb9 : BT := n o15 (n o31 (n o63 (lf o127) (lf o191)) (n o95 (lf o159) (lf o223))) (n o47 (n o79 (lf o143) (lf o207)) (n o111 (lf o175) z))
def sb10 : BT := n o11 (n o19 (n o35 (n o67 (lf o131) (lf o195)) (n o99 (lf o163) (lf o227_5))) (n o51 (n o83 (lf o147) (lf o211)) (n o115 (lf o179) z))) sb1
def sb11 : BT := n (o3_4 P) (n (boot_o_7 P) sb9 sb0) sb10
def sb12 : BT := n o13 (n o21 (n o37 (n o69 (lf o133) (lf o197_3)) (n o101 (lf o165) (lf o229))) (n o53 (n o85 (lf o149) (lf o213)) (n o117 (lf o181) z))) sb3
def sb13 : BT := n o16 (n o32 (n o64 (lf o128) (lf o192)) (n o96 (lf o160) (lf o224))) (n o48 (n o80 (lf o144) (lf o208)) (n o112 (lf o176) z))
def sb14 : BT := n o12_5 (n o20 (n o36 (n o68 (lf o132) (lf (o196 P))) (n o100 (lf o164) (lf o228))) (n o52 (n o84 (lf o148) (lf o212)) (n o116 (lf o180) z))) (sb5 P)
def sb15 : BT := n (boot_o_4 P) (n (boot_o_8 P) sb13 (sb4 P)) (sb14 P)
def sb16 : BT := n (boot_o_10 P) (n o18 (n o34 (n o66 (lf o130) (lf o194)) (n o98 (lf o162) (lf o226))) (n o50 (n o82 (lf o146) (lf o210)) (n o114 (lf o178) z))) sb6
noncomputable def TG (P : Params) : BT := n (boot_o_0 P) (n (boot_o_1 P) (sb11 P) (n (boot_o_5 P) (n (boot_o_9 P) (n o17 (n o33 (n o65 (lf o129) (lf o193)) (n o97 (lf o161) (lf (o225_5 P)))) (n o49 (n o81 (lf o145) (lf o209)) (n o113 (lf o177) z))) (sb2 P)) sb12)) (n (boot_o_2 P) (sb15 P) (n (boot_o_6 P) (sb16 P) sb8))
def o225_6 : Obj := ⟨.type "dict", none, (.dict ⟨[e P str209 480 (.str str84 471), e P str210 482 (.str str90 481), e P str211 484 (.int (210) 483), e P str213 503 (.ref 230)]⟩ 4), ⟨[]⟩⟩
def sb17 : BT := n (boot_o_6 P) (sb16 P) (n o14 (n o22 (n o38 (n o70 (lf o134) (lf o198)) (n o102 (lf o166) (lf (oset230 P)))) (n o54 (n o86 (lf o150) (lf o214)) (n o118 (lf o182) z))) sb7)
def sb18 : BT := n (boot_o_2 P) (sb15 P) (sb17 P)
def TS1 : BT := n (boot_o_0 P) (n (boot_o_1 P) (sb11 P) (n (boot_o_5 P) (n (boot_o_9 P) (n o17 (n o33 (n o65 (lf o129) (lf o193)) (n o97 (lf o161) (lf (o225_6 P)))) (n o49 (n o81 (lf o145) (lf o209)) (n o113 (lf o177) z))) (sb2 P)) sb12)) (sb18 P)
def o225_7 : Obj := ⟨.type "dict", none, (.dict ⟨[e P str209 480 (.str str84 471), e P str210 482 (.str str90 481), e P str211 484 (.int (210) 483), e P str213 503 (.ref 230), e P str214 530 (.ref 231)]⟩ 5), ⟨[]⟩⟩
def sb19 : BT := n (o3_4 P) (n (boot_o_7 P) sb9 (n o23 (n o39 (n o71 (lf o135) (lf o199)) (n o103 (lf o167) (lf (oset231 P)))) (n o55 (n o87 (lf o151) (lf o215)) (n o119 (lf o183) z)))) sb10
def TS2 : BT := n (boot_o_0 P) (n (boot_o_1 P) (sb19 P) (n (boot_o_5 P) (n (boot_o_9 P) (n o17 (n o33 (n o65 (lf o129) (lf o193)) (n o97 (lf o161) (lf (o225_7 P)))) (n o49 (n o81 (lf o145) (lf o209)) (n o113 (lf o177) z))) (sb2 P)) sb12)) (sb18 P)
def o225_8 : Obj := ⟨.type "dict", none, (.dict ⟨[e P str209 480 (.str str84 471), e P str210 482 (.str str90 481), e P str211 484 (.int (210) 483), e P str213 503 (.ref 230), e P str214 530 (.ref 231), e P str215 553 (.ref 232)]⟩ 6), ⟨[]⟩⟩
def sb20 : BT := n (boot_o_2 P) (n (boot_o_4 P) (n (boot_o_8 P) sb13 (n (o24 P) (n o40 (n o72 (lf o136) (lf o200)) (n o104 (lf o168) (lf (oset232 P)))) (n o56 (n o88 (lf o152) (lf o216)) (n o120 (lf o184) z)))) (sb14 P)) (sb17 P)
def TS3 : BT := n (boot_o_0 P) (n (boot_o_1 P) (sb19 P) (n (boot_o_5 P) (n (boot_o_9 P) (n o17 (n o33 (n o65 (lf o129) (lf o193)) (n o97 (lf o161) (lf (o225_8 P)))) (n o49 (n o81 (lf o145) (lf o209)) (n o113 (lf o177) z))) (sb2 P)) sb12)) (sb20 P)
def o225_9 : Obj := ⟨.type "dict", none, (.dict ⟨[e P str209 480 (.str str84 471), e P str210 482 (.str str90 481), e P str211 484 (.int (210) 483), e P str213 503 (.ref 230), e P str214 530 (.ref 231), e P str215 553 (.ref 232), e P str216 574 (.ref 233)]⟩ 7), ⟨[]⟩⟩
def TS4 : BT := n (boot_o_0 P) (n (boot_o_1 P) (sb19 P) (n (boot_o_5 P) (n (boot_o_9 P) (n o17 (n o33 (n o65 (lf o129) (lf o193)) (n o97 (lf o161) (lf (o225_9 P)))) (n o49 (n o81 (lf o145) (lf o209)) (n o113 (lf o177) z))) (n o25 (n o41 (n o73 (lf o137) (lf o201)) (n o105 (lf o169) (lf (oset233 P)))) (n o57 (n o89 (lf o153) (lf (o217 P))) (n o121 (lf o185) z)))) sb12)) (sb20 P)
def o225_10 : Obj := ⟨.type "dict", none, (.dict ⟨[e P str209 480 (.str str84 471), e P str210 482 (.str str90 481), e P str211 484 (.int (210) 483), e P str213 503 (.ref 230), e P str214 530 (.ref 231), e P str215 553 (.ref 232), e P str216 574 (.ref 233), e P str158 576 (.int (0) 575), e P str157 578 (.int (0) 577), e P str97 591 (.ref 240), e P str100 600 (.ref 247), e P str102 609 (.ref 254), e P str104 616 (.ref 261), e P str106 623 (.ref 268), e P str113 641 (.ref 275), e P str115 651 (.ref 282)]⟩ 16), ⟨[]⟩⟩
def o227_10 : Obj := ⟨.none, none, (.fields ⟨[(i 218), (i 4), .ref 239, (i 290), (i 4), .ref 246, (i 321), (i 4), .ref 253, (i 347), (i 4), .ref 260, (i 350), (i 4), .ref 267, (i 353), (i 4), .ref 274, (i 532), (i 4), .ref 281]⟩), ⟨[]⟩⟩
def o234 : Obj := oT
def o235 : Obj := oF
def o236 : Obj := tu [.str str7 582, .str str91 583, .str str92 584, .str str93 585, .str str94 586, .str str95 587, .str str96 588]
def o237 : Obj := oT
def o238 : Obj := fC str97 str98 (dA (sub 6 6)) (sub 6 6)
def o239 : Obj := cd str97 str98 579 580 581 (i 218) (i 1) 234 235 236 237 238 589 590
def o240 : Obj := fF str97 str98 (dA (sub 6 6)) (sub 6 6) (.str str84 471) 239
def o241 : Obj := oT
def o242 : Obj := oF
def o243 : Obj := tu [.str str7 595, .str str91 596, .str str99 597]
def o244 : Obj := oT
def o245 : Obj := fC str100 str101 (dA (sub 6 7)) (sub 6 7)
def o246 : Obj := cd str100 str101 592 593 594 (i 290) (i 1) 241 242 243 244 245 598 599
def o247 : Obj := fF str100 str101 (dA (sub 6 7)) (sub 6 7) (.str str84 471) 246
def o248 : Obj := oT
def o249 : Obj := oF
def o250 : Obj := tu [.str str7 604, .str str91 605, .str str96 606]
def o251 : Obj := oT
def o252 : Obj := fC str102 str103 (dA (sub 6 8)) (sub 6 8)
def o253 : Obj := cd str102 str103 601 602 603 (i 321) (i 1) 248 249 250 251 252 607 608
def o254 : Obj := fF str102 str103 (dA (sub 6 8)) (sub 6 8) (.str str84 471) 253
def o255 : Obj := oT
def o256 : Obj := oF
def o257 : Obj := tu [.str str7 613]
def o258 : Obj := oT
def o259 : Obj := fC str104 str105 (dA (sub 6 9)) (sub 6 9)
def o260 : Obj := cd str104 str105 610 611 612 (i 347) (i 1) 255 256 257 258 259 614 615
def o261 : Obj := fF str104 str105 (dA (sub 6 9)) (sub 6 9) (.str str84 471) 260
def o262 : Obj := oT
def o263 : Obj := oF
def o264 : Obj := tu [.str str7 620]
def o265 : Obj := oT
def o266 : Obj := fC str106 str107 (dA (sub 6 10)) (sub 6 10)
def o267 : Obj := cd str106 str107 617 618 619 (i 350) (i 1) 262 263 264 265 266 621 622
def o268 : Obj := fF str106 str107 (dA (sub 6 10)) (sub 6 10) (.str str84 471) 267
def o269 : Obj := oT
def o270 : Obj := oF
def o271 : Obj := tu [.str str7 627, .str str91 628, .str str96 629, .str str92 630, .str str93 631, .str str94 632, .str str95 633, .str str108 634, .str str109 635, .str str110 636, .str str111 637, .str str112 638]
def o272 : Obj := oT
def o273 : Obj := fC str113 str114 (dA (sub 6 11)) (sub 6 11)
def o274 : Obj := cd str113 str114 624 625 626 (i 353) (i 1) 269 270 271 272 273 639 640
def o275 : Obj := fF str113 str114 (dA (sub 6 11)) (sub 6 11) (.str str84 471) 274
def o276 : Obj := oT
def o277 : Obj := oF
def o278 : Obj := tu [.str str7 645, .str str91 646, .str str92 647, .str str93 648]
def o279 : Obj := oT
def o280 : Obj := fC str115 str116 (dA (sub 6 12)) (sub 6 12)
def o281 : Obj := cd str115 str116 642 643 644 (i 532) (i 1) 276 277 278 279 280 649 650
def o282 : Obj := fF str115 str116 (dA (sub 6 12)) (sub 6 12) (.str str84 471) 281
def TS13 : BT := n (boot_o_0 P) (n (boot_o_1 P) (n (o3_4 P) (n (boot_o_7 P) (n o15 (n o31 (n o63 (n o127 (lf o255) z) (lf o191)) (n o95 (lf o159) (lf o223))) (n o47 (n o79 (n o143 (lf o271) z) (lf o207)) (n o111 (lf o175) (lf o239)))) (n o23 (n o39 (n o71 (n o135 (lf o263) z) (lf o199)) (n o103 (lf o167) (lf (oset231 P)))) (n o55 (n o87 (n o151 (lf o279) z) (lf o215)) (n o119 (lf o183) (lf o247))))) (n o11 (n o19 (n o35 (n o67 (n o131 (lf o259) z) (lf o195)) (n o99 (lf o163) (lf o227_10))) (n o51 (n o83 (n o147 (lf o275) z) (lf o211)) (n o115 (lf o179) (lf o243)))) (n o27 (n o43 (n o75 (n o139 (lf o267) z) (lf o203)) (n o107 (lf o171) (lf o235))) (n o59 (n o91 (lf o155) (lf o219)) (n o123 (lf o187) (lf o251)))))) (n (boot_o_5 P) (n (boot_o_9 P) (n o17 (n o33 (n o65 (n o129 (lf o257) z) (lf o193)) (n o97 (lf o161) (lf (o225_10 P)))) (n o49 (n o81 (n o145 (lf o273) z) (lf o209)) (n o113 (lf o177) (lf o241)))) (n o25 (n o41 (n o73 (n o137 (lf o265) z) (lf o201)) (n o105 (lf o169) (lf (oset233 P)))) (n o57 (n o89 (n o153 (lf o281) z) (lf (o217 P))) (n o121 (lf o185) (lf o249))))) (n o13 (n o21 (n o37 (n o69 (n o133 (lf o261) z) (lf o197_3)) (n o101 (lf o165) (lf o229))) (n o53 (n o85 (n o149 (lf o277) z) (lf o213)) (n o117 (lf o181) (lf o245)))) (n o29 (n o45 (n o77 (n o141 (lf o269) z) (lf o205)) (n o109 (lf o173) (lf o237))) (n o61 (n o93 (lf o157) (lf o221)) (n o125 (lf o189) (lf o253))))))) (n (boot_o_2 P) (n (boot_o_4 P) (n (boot_o_8 P) (n o16 (n o32 (n o64 (n o128 (lf o256) z) (lf o192)) (n o96 (lf o160) (lf o224))) (n o48 (n o80 (n o144 (lf o272) z) (lf o208)) (n o112 (lf o176) (lf o240)))) (n (o24 P) (n o40 (n o72 (n o136 (lf o264) z) (lf o200)) (n o104 (lf o168) (lf (oset232 P)))) (n o56 (n o88 (n o152 (lf o280) z) (lf o216)) (n o120 (lf o184) (lf o248))))) (n o12_5 (n o20 (n o36 (n o68 (n o132 (lf o260) z) (lf (o196 P))) (n o100 (lf o164) (lf o228))) (n o52 (n o84 (n o148 (lf o276) z) (lf o212)) (n o116 (lf o180) (lf o244)))) (n o28 (n o44 (n o76 (n o140 (lf o268) z) (lf (o204 P))) (n o108 (lf o172) (lf o236))) (n o60 (n o92 (lf o156) (lf o220)) (n o124 (lf o188) (lf o252)))))) (n (boot_o_6 P) (n (boot_o_10 P) (n o18 (n o34 (n o66 (n o130 (lf o258) z) (lf o194)) (n o98 (lf o162) (lf o226))) (n o50 (n o82 (n o146 (lf o274) z) (lf o210)) (n o114 (lf o178) (lf o242)))) (n o26 (n o42 (n o74 (n o138 (lf o266) z) (lf o202)) (n o106 (lf o170) (lf o234))) (n o58 (n o90 (n o154 (lf o282) z) (lf o218)) (n o122 (lf o186) (lf o250))))) (n o14 (n o22 (n o38 (n o70 (n o134 (lf o262) z) (lf o198)) (n o102 (lf o166) (lf (oset230 P)))) (n o54 (n o86 (n o150 (lf o278) z) (lf o214)) (n o118 (lf o182) (lf o246)))) (n o30 (n o46 (n o78 (n o142 (lf o270) z) (lf o206)) (n o110 (lf o174) (lf o238))) (n o62 (n o94 (lf o158) (lf o222)) (n o126 (lf o190) (lf o254)))))))
def o225_11 : Obj := ⟨.type "dict", none, (.dict ⟨[e P str209 480 (.str str84 471), e P str210 482 (.str str90 481), e P str211 484 (.int (210) 483), e P str213 503 (.ref 230), e P str214 530 (.ref 231), e P str215 553 (.ref 232), e P str216 574 (.ref 233), e P str158 576 (.int (0) 575), e P str157 578 (.int (0) 577), e P str97 591 (.ref 240), e P str100 600 (.ref 247), e P str102 609 (.ref 254), e P str104 616 (.ref 261), e P str106 623 (.ref 268), e P str113 641 (.ref 275), e P str115 651 (.ref 282), e P str217 732 (.ref 301)]⟩ 17), ⟨[]⟩⟩
def o283 : Obj := ⟨.type "dict", none, (.dict ⟨[e P str18 661 (.str str117 652), e P str87 663 (.int (-1) 654), e P str88 665 (.int (5) 655)]⟩ 3), ⟨[]⟩⟩
noncomputable def o284 : Obj := ⟨.ref 218, (some 283), .plain, ⟨[]⟩⟩
def o285 : Obj := ⟨.type "frame", none, (.dict ⟨[e P str7 656 (.ref 284), e P str18 657 (.str str117 652), e P str87 658 (.int (-1) 654), e P str88 659 (.int (5) 655)]⟩ 4), ⟨[]⟩⟩
def o286 : Obj := ⟨.type "dict", none, (.dict ⟨[e P str18 674 (.str str118 666), e P str87 676 (.int (0) 667), e P str88 678 (.int (2) 668)]⟩ 3), ⟨[]⟩⟩
noncomputable def o287 : Obj := ⟨.ref 218, (some 286), .plain, ⟨[]⟩⟩
def o288 : Obj := ⟨.type "frame", none, (.dict ⟨[e P str7 669 (.ref 287), e P str18 670 (.str str118 666), e P str87 671 (.int (0) 667), e P str88 672 (.int (2) 668)]⟩ 4), ⟨[]⟩⟩
def o289 : Obj := ⟨.type "dict", none, (.dict ⟨[e P str18 687 (.str str119 679), e P str87 689 (.int (0) 680), e P str88 691 (.int (3) 681)]⟩ 3), ⟨[]⟩⟩
noncomputable def o290 : Obj := ⟨.ref 218, (some 289), .plain, ⟨[]⟩⟩
def o291 : Obj := ⟨.type "frame", none, (.dict ⟨[e P str7 682 (.ref 290), e P str18 683 (.str str119 679), e P str87 684 (.int (0) 680), e P str88 685 (.int (3) 681)]⟩ 4), ⟨[]⟩⟩
def o292 : Obj := ⟨.type "dict", none, (.dict ⟨[e P str18 701 (.str str120 692), e P str87 703 (.int (0) 693), e P str88 705 (.int (-1) 695)]⟩ 3), ⟨[]⟩⟩
noncomputable def o293 : Obj := ⟨.ref 218, (some 292), .plain, ⟨[]⟩⟩
def o294 : Obj := ⟨.type "frame", none, (.dict ⟨[e P str7 696 (.ref 293), e P str18 697 (.str str120 692), e P str87 698 (.int (0) 693), e P str88 699 (.int (-1) 695)]⟩ 4), ⟨[]⟩⟩
def o295 : Obj := ⟨.type "dict", none, (.dict ⟨[e P str18 714 (.str str121 706), e P str87 716 (.int (0) 707), e P str88 718 (.int (4) 708)]⟩ 3), ⟨[]⟩⟩
noncomputable def o296 : Obj := ⟨.ref 218, (some 295), .plain, ⟨[]⟩⟩
def o297 : Obj := ⟨.type "frame", none, (.dict ⟨[e P str7 709 (.ref 296), e P str18 710 (.str str121 706), e P str87 711 (.int (0) 707), e P str88 712 (.int (4) 708)]⟩ 4), ⟨[]⟩⟩
def o298 : Obj := ⟨.type "dict", none, (.dict ⟨[e P str18 727 (.str str122 719), e P str87 729 (.int (0) 720), e P str88 731 (.int (1) 721)]⟩ 3), ⟨[]⟩⟩
noncomputable def o299 : Obj := ⟨.ref 218, (some 298), .plain, ⟨[]⟩⟩
def o300 : Obj := ⟨.type "frame", none, (.dict ⟨[e P str7 722 (.ref 299), e P str18 723 (.str str122 719), e P str87 724 (.int (0) 720), e P str88 725 (.int (1) 721)]⟩ 4), ⟨[]⟩⟩
noncomputable def o301 : Obj := ⟨.type "list", none, (.seq ⟨[.ref 284, .ref 287, .ref 290, .ref 293, .ref 296, .ref 299]⟩ 0), ⟨[]⟩⟩
def TS14 : BT := n (boot_o_0 P) (n (boot_o_1 P) (n (o3_4 P) (n (boot_o_7 P) (n o15 (n o31 (n o63 (n o127 (lf o255) z) (lf o191)) (n o95 (n o159 (lf o287) z) (lf o223))) (n o47 (n o79 (n o143 (lf o271) z) (lf o207)) (n o111 (lf o175) (lf o239)))) (n o23 (n o39 (n o71 (n o135 (lf o263) z) (lf o199)) (n o103 (n o167 (lf (o295 P)) z) (lf (oset231 P)))) (n o55 (n o87 (n o151 (lf o279) z) (lf o215)) (n o119 (lf o183) (lf o247))))) (n o11 (n o19 (n o35 (n o67 (n o131 (lf o259) z) (lf o195)) (n o99 (n o163 (lf (o291 P)) z) (lf o227_10))) (n o51 (n o83 (n o147 (lf o275) z) (lf o211)) (n o115 (lf o179) (lf o243)))) (n o27 (n o43 (n o75 (n o139 (lf o267) z) (lf o203)) (n o107 (n o171 (lf o299) z) (lf o235))) (n o59 (n o91 (n o155 (lf (o283 P)) z) (lf o219)) (n o123 (lf o187) (lf o251)))))) (n (boot_o_5 P) (n (boot_o_9 P) (n o17 (n o33 (n o65 (n o129 (lf o257) z) (lf o193)) (n o97 (n o161 (lf (o289 P)) z) (lf (o225_11 P)))) (n o49 (n o81 (n o145 (lf o273) z) (lf o209)) (n o113 (lf o177) (lf o241)))) (n o25 (n o41 (n o73 (n o137 (lf o265) z) (lf o201)) (n o105 (n o169 (lf (o297 P)) z) (lf (oset233 P)))) (n o57 (n o89 (n o153 (lf o281) z) (lf (o217 P))) (n o121 (lf o185) (lf o249))))) (n o13 (n o21 (n o37 (n o69 (n o133 (lf o261) z) (lf o197_3)) (n o101 (n o165 (lf o293) z) (lf o229))) (n o53 (n o85 (n o149 (lf o277) z) (lf o213)) (n o117 (lf o181) (lf o245)))) (n o29 (n o45 (n o77 (n o141 (lf o269) z) (lf o205)) (n o109 (n o173 (lf o301) z) (lf o237))) (n o61 (n o93 (n o157 (lf (o285 P)) z) (lf o221)) (n o125 (lf o189) (lf o253))))))) (n (boot_o_2 P) (n (boot_o_4 P) (n (boot_o_8 P) (n o16 (n o32 (n o64 (n o128 (lf o256) z) (lf o192)) (n o96 (n o160 (lf (o288 P)) z) (lf o224))) (n o48 (n o80 (n o144 (lf o272) z) (lf o208)) (n o112 (lf o176) (lf o240)))) (n (o24 P) (n o40 (n o72 (n o136 (lf o264) z) (lf o200)) (n o104 (n o168 (lf o296) z) (lf (oset232 P)))) (n o56 (n o88 (n o152 (lf o280) z) (lf o216)) (n o120 (lf o184) (lf o248))))) (n o12_5 (n o20 (n o36 (n o68 (n o132 (lf o260) z) (lf (o196 P))) (n o100 (n o164 (lf (o292 P)) z) (lf o228))) (n o52 (n o84 (n o148 (lf o276) z) (lf o212)) (n o116 (lf o180) (lf o244)))) (n o28 (n o44 (n o76 (n o140 (lf o268) z) (lf (o204 P))) (n o108 (n o172 (lf (o300 P)) z) (lf o236))) (n o60 (n o92 (n o156 (lf o284) z) (lf o220)) (n o124 (lf o188) (lf o252)))))) (n (boot_o_6 P) (n (boot_o_10 P) (n o18 (n o34 (n o66 (n o130 (lf o258) z) (lf o194)) (n o98 (n o162 (lf o290) z) (lf o226))) (n o50 (n o82 (n o146 (lf o274) z) (lf o210)) (n o114 (lf o178) (lf o242)))) (n o26 (n o42 (n o74 (n o138 (lf o266) z) (lf o202)) (n o106 (n o170 (lf (o298 P)) z) (lf o234))) (n o58 (n o90 (n o154 (lf o282) z) (lf o218)) (n o122 (lf o186) (lf o250))))) (n o14 (n o22 (n o38 (n o70 (n o134 (lf o262) z) (lf o198)) (n o102 (n o166 (lf (o294 P)) z) (lf (oset230 P)))) (n o54 (n o86 (n o150 (lf o278) z) (lf o214)) (n o118 (lf o182) (lf o246)))) (n o30 (n o46 (n o78 (n o142 (lf o270) z) (lf o206)) (n o110 (lf o174) (lf o238))) (n o62 (n o94 (n o158 (lf (o286 P)) z) (lf o222)) (n o126 (lf o190) (lf o254)))))))
def o225_12 : Obj := ⟨.type "dict", none, (.dict ⟨[e P str209 480 (.str str84 471), e P str210 482 (.str str90 481), e P str211 484 (.int (210) 483), e P str213 503 (.ref 230), e P str214 530 (.ref 231), e P str215 553 (.ref 232), e P str216 574 (.ref 233), e P str158 576 (.int (0) 575), e P str157 578 (.int (0) 577), e P str97 591 (.ref 240), e P str100 600 (.ref 247), e P str102 609 (.ref 254), e P str104 616 (.ref 261), e P str106 623 (.ref 268), e P str113 641 (.ref 275), e P str115 651 (.ref 282), e P str217 732 (.ref 301), e P str218 812 (.ref 320)]⟩ 18), ⟨[]⟩⟩
def o302 : Obj := ⟨.type "dict", none, (.dict ⟨[e P str18 742 (.str str117 733), e P str87 744 (.int (-1) 735), e P str88 746 (.int (5) 736)]⟩ 3), ⟨[]⟩⟩
noncomputable def o303 : Obj := ⟨.ref 218, (some 302), .plain, ⟨[]⟩⟩
def o304 : Obj := ⟨.type "frame", none, (.dict ⟨[e P str7 737 (.ref 303), e P str18 738 (.str str117 733), e P str87 739 (.int (-1) 735), e P str88 740 (.int (5) 736)]⟩ 4), ⟨[]⟩⟩
def o305 : Obj := ⟨.type "dict", none, (.dict ⟨[e P str18 755 (.str str123 747), e P str87 757 (.int (0) 748), e P str88 759 (.int (2) 749)]⟩ 3), ⟨[]⟩⟩
noncomputable def o306 : Obj := ⟨.ref 218, (some 305), .plain, ⟨[]⟩⟩
def o307 : Obj := ⟨.type "frame", none, (.dict ⟨[e P str7 750 (.ref 306), e P str18 751 (.str str123 747), e P str87 752 (.int (0) 748), e P str88 753 (.int (2) 749)]⟩ 4), ⟨[]⟩⟩
def o308 : Obj := ⟨.type "dict", none, (.dict ⟨[e P str18 768 (.str str124 760), e P str87 770 (.int (0) 761), e P str88 772 (.int (1) 762)]⟩ 3), ⟨[]⟩⟩
noncomputable def o309 : Obj := ⟨.ref 218, (some 308), .plain, ⟨[]⟩⟩
def o310 : Obj := ⟨.type "frame", none, (.dict ⟨[e P str7 763 (.ref 309), e P str18 764 (.str str124 760), e P str87 765 (.int (0) 761), e P str88 766 (.int (1) 762)]⟩ 4), ⟨[]⟩⟩
def o311 : Obj := ⟨.type "dict", none, (.dict ⟨[e P str18 781 (.str str125 773), e P str87 783 (.int (0) 774), e P str88 785 (.int (3) 775)]⟩ 3), ⟨[]⟩⟩
noncomputable def o312 : Obj := ⟨.ref 218, (some 311), .plain, ⟨[]⟩⟩
def o313 : Obj := ⟨.type "frame", none, (.dict ⟨[e P str7 776 (.ref 312), e P str18 777 (.str str125 773), e P str87 778 (.int (0) 774), e P str88 779 (.int (3) 775)]⟩ 4), ⟨[]⟩⟩
def o314 : Obj := ⟨.type "dict", none, (.dict ⟨[e P str18 794 (.str str126 786), e P str87 796 (.int (0) 787), e P str88 798 (.int (4) 788)]⟩ 3), ⟨[]⟩⟩
noncomputable def o315 : Obj := ⟨.ref 218, (some 314), .plain, ⟨[]⟩⟩
def o316 : Obj := ⟨.type "frame", none, (.dict ⟨[e P str7 789 (.ref 315), e P str18 790 (.str str126 786), e P str87 791 (.int (0) 787), e P str88 792 (.int (4) 788)]⟩ 4), ⟨[]⟩⟩
def o317 : Obj := ⟨.type "dict", none, (.dict ⟨[e P str18 807 (.str str127 799), e P str87 809 (.int (0) 800), e P str88 811 (.int (2) 801)]⟩ 3), ⟨[]⟩⟩
noncomputable def o318 : Obj := ⟨.ref 218, (some 317), .plain, ⟨[]⟩⟩
def o319 : Obj := ⟨.type "frame", none, (.dict ⟨[e P str7 802 (.ref 318), e P str18 803 (.str str127 799), e P str87 804 (.int (0) 800), e P str88 805 (.int (2) 801)]⟩ 4), ⟨[]⟩⟩
noncomputable def o320 : Obj := ⟨.type "list", none, (.seq ⟨[.ref 303, .ref 306, .ref 309, .ref 312, .ref 315, .ref 318]⟩ 0), ⟨[]⟩⟩
def TS15 : BT := n (boot_o_0 P) (n (boot_o_1 P) (n (o3_4 P) (n (boot_o_7 P) (n o15 (n o31 (n o63 (n o127 (lf o255) z) (n o191 (lf (o319 P)) z)) (n o95 (n o159 (lf o287) z) (lf o223))) (n o47 (n o79 (n o143 (lf o271) z) (lf o207)) (n o111 (n o175 (lf o303) z) (lf o239)))) (n o23 (n o39 (n o71 (n o135 (lf o263) z) (lf o199)) (n o103 (n o167 (lf (o295 P)) z) (lf (oset231 P)))) (n o55 (n o87 (n o151 (lf o279) z) (lf o215)) (n o119 (n o183 (lf (o311 P)) z) (lf o247))))) (n o11 (n o19 (n o35 (n o67 (n o131 (lf o259) z) (lf o195)) (n o99 (n o163 (lf (o291 P)) z) (lf o227_10))) (n o51 (n o83 (n o147 (lf o275) z) (lf o211)) (n o115 (n o179 (lf (o307 P)) z) (lf o243)))) (n o27 (n o43 (n o75 (n o139 (lf o267) z) (lf o203)) (n o107 (n o171 (lf o299) z) (lf o235))) (n o59 (n o91 (n o155 (lf (o283 P)) z) (lf o219)) (n o123 (n o187 (lf o315) z) (lf o251)))))) (n (boot_o_5 P) (n (boot_o_9 P) (n o17 (n o33 (n o65 (n o129 (lf o257) z) (lf o193)) (n o97 (n o161 (lf (o289 P)) z) (lf (o225_12 P)))) (n o49 (n o81 (n o145 (lf o273) z) (lf o209)) (n o113 (n o177 (lf (o305 P)) z) (lf o241)))) (n o25 (n o41 (n o73 (n o137 (lf o265) z) (lf o201)) (n o105 (n o169 (lf (o297 P)) z) (lf (oset233 P)))) (n o57 (n o89 (n o153 (lf o281) z) (lf (o217 P))) (n o121 (n o185 (lf (o313 P)) z) (lf o249))))) (n o13 (n o21 (n o37 (n o69 (n o133 (lf o261) z) (lf o197_3)) (n o101 (n o165 (lf o293) z) (lf o229))) (n o53 (n o85 (n o149 (lf o277) z) (lf o213)) (n o117 (n o181 (lf o309) z) (lf o245)))) (n o29 (n o45 (n o77 (n o141 (lf o269) z) (lf o205)) (n o109 (n o173 (lf o301) z) (lf o237))) (n o61 (n o93 (n o157 (lf (o285 P)) z) (lf o221)) (n o125 (n o189 (lf (o317 P)) z) (lf o253))))))) (n (boot_o_2 P) (n (boot_o_4 P) (n (boot_o_8 P) (n o16 (n o32 (n o64 (n o128 (lf o256) z) (n o192 (lf o320) z)) (n o96 (n o160 (lf (o288 P)) z) (lf o224))) (n o48 (n o80 (n o144 (lf o272) z) (lf o208)) (n o112 (n o176 (lf (o304 P)) z) (lf o240)))) (n (o24 P) (n o40 (n o72 (n o136 (lf o264) z) (lf o200)) (n o104 (n o168 (lf o296) z) (lf (oset232 P)))) (n o56 (n o88 (n o152 (lf o280) z) (lf o216)) (n o120 (n o184 (lf o312) z) (lf o248))))) (n o12_5 (n o20 (n o36 (n o68 (n o132 (lf o260) z) (lf (o196 P))) (n o100 (n o164 (lf (o292 P)) z) (lf o228))) (n o52 (n o84 (n o148 (lf o276) z) (lf o212)) (n o116 (n o180 (lf (o308 P)) z) (lf o244)))) (n o28 (n o44 (n o76 (n o140 (lf o268) z) (lf (o204 P))) (n o108 (n o172 (lf (o300 P)) z) (lf o236))) (n o60 (n o92 (n o156 (lf o284) z) (lf o220)) (n o124 (n o188 (lf (o316 P)) z) (lf o252)))))) (n (boot_o_6 P) (n (boot_o_10 P) (n o18 (n o34 (n o66 (n o130 (lf o258) z) (lf o194)) (n o98 (n o162 (lf o290) z) (lf o226))) (n o50 (n o82 (n o146 (lf o274) z) (lf o210)) (n o114 (n o178 (lf o306) z) (lf o242)))) (n o26 (n o42 (n o74 (n o138 (lf o266) z) (lf o202)) (n o106 (n o170 (lf (o298 P)) z) (lf o234))) (n o58 (n o90 (n o154 (lf o282) z) (lf o218)) (n o122 (n o186 (lf (o314 P)) z) (lf o250))))) (n o14 (n o22 (n o38 (n o70 (n o134 (lf o262) z) (lf o198)) (n o102 (n o166 (lf (o294 P)) z) (lf (oset230 P)))) (n o54 (n o86 (n o150 (lf o278) z) (lf o214)) (n o118 (n o182 (lf (o310 P)) z) (lf o246)))) (n o30 (n o46 (n o78 (n o142 (lf o270) z) (lf o206)) (n o110 (n o174 (lf (o302 P)) z) (lf o238))) (n o62 (n o94 (n o158 (lf (o286 P)) z) (lf o222)) (n o126 (n o190 (lf o318) z) (lf o254)))))))
def o225_13 : Obj := ⟨.type "dict", none, (.dict ⟨[e P str209 480 (.str str84 471), e P str210 482 (.str str90 481), e P str211 484 (.int (210) 483), e P str213 503 (.ref 230), e P str214 530 (.ref 231), e P str215 553 (.ref 232), e P str216 574 (.ref 233), e P str158 576 (.int (0) 575), e P str157 578 (.int (0) 577), e P str97 591 (.ref 240), e P str100 600 (.ref 247), e P str102 609 (.ref 254), e P str104 616 (.ref 261), e P str106 623 (.ref 268), e P str113 641 (.ref 275), e P str115 651 (.ref 282), e P str217 732 (.ref 301), e P str218 812 (.ref 320), e P str219 964 (.ref 354)]⟩ 19), ⟨[]⟩⟩
def o321 : Obj := ⟨.type "dict", none, (.dict ⟨[e P str18 822 (.str str128 813), e P str87 824 (.int (-1) 815), e P str88 826 (.int (3) 816)]⟩ 3), ⟨[]⟩⟩
noncomputable def o322 : Obj := ⟨.ref 218, (some 321), .plain, ⟨[]⟩⟩
def o323 : Obj := ⟨.type "frame", none, (.dict ⟨[e P str7 817 (.ref 322), e P str18 818 (.str str128 813), e P str87 819 (.int (-1) 815), e P str88 820 (.int (3) 816)]⟩ 4), ⟨[]⟩⟩
def o324 : Obj := ⟨.type "dict", none, (.dict ⟨[e P str18 836 (.str str129 827), e P str87 838 (.int (-1) 829), e P str88 840 (.int (1) 830)]⟩ 3), ⟨[]⟩⟩
noncomputable def o325 : Obj := ⟨.ref 218, (some 324), .plain, ⟨[]⟩⟩
def o326 : Obj := ⟨.type "frame", none, (.dict ⟨[e P str7 831 (.ref 325), e P str18 832 (.str str129 827), e P str87 833 (.int (-1) 829), e P str88 834 (.int (1) 830)]⟩ 4), ⟨[]⟩⟩
def o327 : Obj := ⟨.type "dict", none, (.dict ⟨[e P str18 850 (.str str130 841), e P str87 852 (.int (-1) 843), e P str88 854 (.int (3) 844)]⟩ 3), ⟨[]⟩⟩
noncomputable def o328 : Obj := ⟨.ref 218, (some 327), .plain, ⟨[]⟩⟩
def o329 : Obj := ⟨.type "frame", none, (.dict ⟨[e P str7 845 (.ref 328), e P str18 846 (.str str130 841), e P str87 847 (.int (-1) 843), e P str88 848 (.int (3) 844)]⟩ 4), ⟨[]⟩⟩
def o330 : Obj := ⟨.type "dict", none, (.dict ⟨[e P str18 863 (.str str131 855), e P str87 865 (.int (2) 856), e P str88 867 (.int (2) 857)]⟩ 3), ⟨[]⟩⟩
noncomputable def o331 : Obj := ⟨.ref 218, (some 330), .plain, ⟨[]⟩⟩
def o332 : Obj := ⟨.type "frame", none, (.dict ⟨[e P str7 858 (.ref 331), e P str18 859 (.str str131 855), e P str87 860 (.int (2) 856), e P str88 861 (.int (2) 857)]⟩ 4), ⟨[]⟩⟩
def o333 : Obj := ⟨.type "dict", none, (.dict ⟨[e P str18 877 (.str str132 868), e P str87 879 (.int (-1) 870), e P str88 881 (.int (2) 871)]⟩ 3), ⟨[]⟩⟩
noncomputable def o334 : Obj := ⟨.ref 218, (some 333), .plain, ⟨[]⟩⟩
def o335 : Obj := ⟨.type "frame", none, (.dict ⟨[e P str7 872 (.ref 334), e P str18 873 (.str str132 868), e P str87 874 (.int (-1) 870), e P str88 875 (.int (2) 871)]⟩ 4), ⟨[]⟩⟩
def o336 : Obj := ⟨.type "dict", none, (.dict ⟨[e P str18 891 (.str str133 882), e P str87 893 (.int (-1) 884), e P str88 895 (.int (5) 885)]⟩ 3), ⟨[]⟩⟩
noncomputable def o337 : Obj := ⟨.ref 218, (some 336), .plain, ⟨[]⟩⟩
def o338 : Obj := ⟨.type "frame", none, (.dict ⟨[e P str7 886 (.ref 337), e P str18 887 (.str str133 882), e P str87 888 (.int (-1) 884), e P str88 889 (.int (5) 885)]⟩ 4), ⟨[]⟩⟩
def o339 : Obj := ⟨.type "dict", none, (.dict ⟨[e P str18 905 (.str str134 896), e P str87 907 (.int (-1) 898), e P str88 909 (.int (2) 899)]⟩ 3), ⟨[]⟩⟩
noncomputable def o340 : Obj := ⟨.ref 218, (some 339), .plain, ⟨[]⟩⟩
def o341 : Obj := ⟨.type "frame", none, (.dict ⟨[e P str7 900 (.ref 340), e P str18 901 (.str str134 896), e P str87 902 (.int (-1) 898), e P str88 903 (.int (2) 899)]⟩ 4), ⟨[]⟩⟩
def o342 : Obj := ⟨.type "dict", none, (.dict ⟨[e P str18 919 (.str str135 910), e P str87 921 (.int (-1) 912), e P str88 923 (.int (2) 913)]⟩ 3), ⟨[]⟩⟩
noncomputable def o343 : Obj := ⟨.ref 218, (some 342), .plain, ⟨[]⟩⟩
def o344 : Obj := ⟨.type "frame", none, (.dict ⟨[e P str7 914 (.ref 343), e P str18 915 (.str str135 910), e P str87 916 (.int (-1) 912), e P str88 917 (.int (2) 913)]⟩ 4), ⟨[]⟩⟩
def o345 : Obj := ⟨.type "dict", none, (.dict ⟨[e P str18 933 (.str str18 924), e P str87 935 (.int (-1) 926), e P str88 937 (.int (4) 927)]⟩ 3), ⟨[]⟩⟩
noncomputable def o346 : Obj := ⟨.ref 218, (some 345), .plain, ⟨[]⟩⟩
def o347 : Obj := ⟨.type "frame", none, (.dict ⟨[e P str7 928 (.ref 346), e P str18 929 (.str str18 924), e P str87 930 (.int (-1) 926), e P str88 931 (.int (4) 927)]⟩ 4), ⟨[]⟩⟩
def o348 : Obj := ⟨.type "dict", none, (.dict ⟨[e P str18 946 (.str str136 938), e P str87 948 (.int (8) 939), e P str88 950 (.int (3) 940)]⟩ 3), ⟨[]⟩⟩
noncomputable def o349 : Obj := ⟨.ref 218, (some 348), .plain, ⟨[]⟩⟩
def o350 : Obj := ⟨.type "frame", none, (.dict ⟨[e P str7 941 (.ref 349), e P str18 942 (.str str136 938), e P str87 943 (.int (8) 939), e P str88 944 (.int (3) 940)]⟩ 4), ⟨[]⟩⟩
def o351 : Obj := ⟨.type "dict", none, (.dict ⟨[e P str18 959 (.str str137 951), e P str87 961 (.int (8) 952), e P str88 963 (.int (5) 953)]⟩ 3), ⟨[]⟩⟩
noncomputable def o352 : Obj := ⟨.ref 218, (some 351), .plain, ⟨[]⟩⟩
def o353 : Obj := ⟨.type "frame", none, (.dict ⟨[e P str7 954 (.ref 352), e P str18 955 (.str str137 951), e P str87 956 (.int (8) 952), e P str88 957 (.int (5) 953)]⟩ 4), ⟨[]⟩⟩
noncomputable def o354 : Obj := ⟨.type "list", none, (.seq ⟨[.ref 322, .ref 325, .ref 328, .ref 331, .ref 334, .ref 337, .ref 340, .ref 343, .ref 346, .ref 349, .ref 352]⟩ 0), ⟨[]⟩⟩
def sb21 : BT := n o31 (n o63 (n o127 (lf o255) z) (n o191 (lf (o319 P)) z)) (n o95 (n o159 (lf o287) z) (n o223 (lf (o351 P)) z))
def sb22 : BT := n o55 (n o87 (n o151 (lf o279) z) (n o215 (lf o343) z)) (n o119 (n o183 (lf (o311 P)) z) (lf o247))
def sb23 : BT := n o51 (n o83 (n o147 (lf o275) z) (n o211 (lf (o339 P)) z)) (n o115 (n o179 (lf (o307 P)) z) (lf o243))
def sb24 : BT := n o59 (n o91 (n o155 (lf (o283 P)) z) (n o219 (lf (o347 P)) z)) (n o123 (n o187 (lf o315) z) (lf o251))
def sb25 : BT := n o57 (n o89 (n o153 (lf o281) z) (n (o217 P) (lf (o345 P)) z)) (n o121 (n o185 (lf (o313 P)) z) (lf o249))
def sb26 : BT := n o53 (n o85 (n o149 (lf o277) z) (n o213 (lf (o341 P)) z)) (n o117 (n o181 (lf o309) z) (lf o245))
def sb27 : BT := n o61 (n o93 (n o157 (lf (o285 P)) z) (n o221 (lf o349) z)) (n o125 (n o189 (lf (o317 P)) z) (lf o253))
def sb28 : BT := n o32 (n o64 (n o128 (lf o256) z) (n o192 (lf o320) z)) (n o96 (n o160 (lf (o288 P)) z) (n o224 (lf o352) z))
def sb29 : BT := n o56 (n o88 (n o152 (lf o280) z) (n o216 (lf (o344 P)) z)) (n o120 (n o184 (lf o312) z) (lf o248))
def sb30 : BT := n o52 (n o84 (n o148 (lf o276) z) (n o212 (lf o340) z)) (n o116 (n o180 (lf (o308 P)) z) (lf o244))
def sb31 : BT := n o60 (n o92 (n o156 (lf o284) z) (n o220 (lf (o348 P)) z)) (n o124 (n o188 (lf (o316 P)) z) (lf o252))
def sb32 : BT := n o34 (n o66 (n o130 (lf o258) z) (n o194 (lf o322) z)) (n o98 (n o162 (lf o290) z) (n o226 (lf o354) z))
def sb33 : BT := n o58 (n o90 (n o154 (lf o282) z) (n o218 (lf o346) z)) (n o122 (n o186 (lf (o314 P)) z) (lf o250))
def sb34 : BT := n o54 (n o86 (n o150 (lf o278) z) (n o214 (lf (o342 P)) z)) (n o118 (n o182 (lf (o310 P)) z) (lf o246))
def sb35 : BT := n o62 (n o94 (n o158 (lf (o286 P)) z) (n o222 (lf (o350 P)) z)) (n o126 (n o190 (lf o318) z) (lf o254))
def TS16 : BT := n (boot_o_0 P) (n (boot_o_1 P) (n (o3_4 P) (n (boot_o_7 P) (n o15 (sb21 P) (n o47 (n o79 (n o143 (lf o271) z) (n o207 (lf (o335 P)) z)) (n o111 (n o175 (lf o303) z) (lf o239)))) (n o23 (n o39 (n o71 (n o135 (lf o263) z) (n o199 (lf (o327 P)) z)) (n o103 (n o167 (lf (o295 P)) z) (lf (oset231 P)))) (sb22 P))) (n o11 (n o19 (n o35 (n o67 (n o131 (lf o259) z) (n o195 (lf (o323 P)) z)) (n o99 (n o163 (lf (o291 P)) z) (lf o227_10))) (sb23 P)) (n o27 (n o43 (n o75 (n o139 (lf o267) z) (n o203 (lf o331) z)) (n o107 (n o171 (lf o299) z) (lf o235))) (sb24 P)))) (n (boot_o_5 P) (n (boot_o_9 P) (n o17 (n o33 (n o65 (n o129 (lf o257) z) (n o193 (lf (o321 P)) z)) (n o97 (n o161 (lf (o289 P)) z) (n (o225_13 P) (lf (o353 P)) z))) (n o49 (n o81 (n o145 (lf o273) z) (n o209 (lf o337) z)) (n o113 (n o177 (lf (o305 P)) z) (lf o241)))) (n o25 (n o41 (n o73 (n o137 (lf o265) z) (n o201 (lf (o329 P)) z)) (n o105 (n o169 (lf (o297 P)) z) (lf (oset233 P)))) (sb25 P))) (n o13 (n o21 (n o37 (n o69 (n o133 (lf o261) z) (n o197_3 (lf o325) z)) (n o101 (n o165 (lf o293) z) (lf o229))) (sb26 P)) (n o29 (n o45 (n o77 (n o141 (lf o269) z) (n o205 (lf (o333 P)) z)) (n o109 (n o173 (lf o301) z) (lf o237))) (sb27 P))))) (n (boot_o_2 P) (n (boot_o_4 P) (n (boot_o_8 P) (n o16 (sb28 P) (n o48 (n o80 (n o144 (lf o272) z) (n o208 (lf (o336 P)) z)) (n o112 (n o176 (lf (o304 P)) z) (lf o240)))) (n (o24 P) (n o40 (n o72 (n o136 (lf o264) z) (n o200 (lf o328) z)) (n o104 (n o168 (lf o296) z) (lf (oset232 P)))) (sb29 P))) (n o12_5 (n o20 (n o36 (n o68 (n o132 (lf o260) z) (n (o196 P) (lf (o324 P)) z)) (n o100 (n o164 (lf (o292 P)) z) (lf o228))) (sb30 P)) (n o28 (n o44 (n o76 (n o140 (lf o268) z) (n (o204 P) (lf (o332 P)) z)) (n o108 (n o172 (lf (o300 P)) z) (lf o236))) (sb31 P)))) (n (boot_o_6 P) (n (boot_o_10 P) (n o18 sb32 (n o50 (n o82 (n o146 (lf o274) z) (n o210 (lf (o338 P)) z)) (n o114 (n o178 (lf o306) z) (lf o242)))) (n o26 (n o42 (n o74 (n o138 (lf o266) z) (n o202 (lf (o330 P)) z)) (n o106 (n o170 (lf (o298 P)) z) (lf o234))) (sb33 P))) (n o14 (n o22 (n o38 (n o70 (n o134 (lf o262) z) (n o198 (lf (o326 P)) z)) (n o102 (n o166 (lf (o294 P)) z) (lf (oset230 P)))) (sb34 P)) (n o30 (n o46 (n o78 (n o142 (lf o270) z) (n o206 (lf o334) z)) (n o110 (n o174 (lf (o302 P)) z) (lf o238))) (sb35 P)))))
def o225_14 : Obj := ⟨.type "dict", none, (.dict ⟨[e P str209 480 (.str str84 471), e P str210 482 (.str str90 481), e P str211 484 (.int (210) 483), e P str213 503 (.ref 230), e P str214 530 (.ref 231), e P str215 553 (.ref 232), e P str216 574 (.ref 233), e P str158 576 (.int (0) 575), e P str157 578 (.int (0) 577), e P str97 591 (.ref 240), e P str100 600 (.ref 247), e P str102 609 (.ref 254), e P str104 616 (.ref 261), e P str106 623 (.ref 268), e P str113 641 (.ref 275), e P str115 651 (.ref 282), e P str217 732 (.ref 301), e P str218 812 (.ref 320), e P str219 964 (.ref 354), e P str220 1040 (.ref 370)]⟩ 20), ⟨[]⟩⟩
def o355 : Obj := ⟨.type "dict", none, (.dict ⟨[e P str18 975 (.str str138 965), e P str87 977 (.int (-1) 967), e P str88 979 (.int (-1) 969)]⟩ 3), ⟨[]⟩⟩
noncomputable def o356 : Obj := ⟨.ref 218, (some 355), .plain, ⟨[]⟩⟩
def o357 : Obj := ⟨.type "frame", none, (.dict ⟨[e P str7 970 (.ref 356), e P str18 971 (.str str138 965), e P str87 972 (.int (-1) 967), e P str88 973 (.int (-1) 969)]⟩ 4), ⟨[]⟩⟩
def o358 : Obj := ⟨.type "dict", none, (.dict ⟨[e P str18 990 (.str str139 980), e P str87 992 (.int (-1) 982), e P str88 994 (.int (-1) 984)]⟩ 3), ⟨[]⟩⟩
noncomputable def o359 : Obj := ⟨.ref 218, (some 358), .plain, ⟨[]⟩⟩
def o360 : Obj := ⟨.type "frame", none, (.dict ⟨[e P str7 985 (.ref 359), e P str18 986 (.str str139 980), e P str87 987 (.int (-1) 982), e P str88 988 (.int (-1) 984)]⟩ 4), ⟨[]⟩⟩
def o361 : Obj := ⟨.type "dict", none, (.dict ⟨[e P str18 1005 (.str str140 995), e P str87 1007 (.int (-1) 997), e P str88 1009 (.int (-1) 999)]⟩ 3), ⟨[]⟩⟩
noncomputable def o362 : Obj := ⟨.ref 218, (some 361), .plain, ⟨[]⟩⟩
def o363 : Obj := ⟨.type "frame", none, (.dict ⟨[e P str7 1000 (.ref 362), e P str18 1001 (.str str140 995), e P str87 1002 (.int (-1) 997), e P str88 1003 (.int (-1) 999)]⟩ 4), ⟨[]⟩⟩
def o364 : Obj := ⟨.type "dict", none, (.dict ⟨[e P str18 1020 (.str str141 1010), e P str87 1022 (.int (-1) 1012), e P str88 1024 (.int (-1) 1014)]⟩ 3), ⟨[]⟩⟩
noncomputable def o365 : Obj := ⟨.ref 218, (some 364), .plain, ⟨[]⟩⟩
def o366 : Obj := ⟨.type "frame", none, (.dict ⟨[e P str7 1015 (.ref 365), e P str18 1016 (.str str141 1010), e P str87 1017 (.int (-1) 1012), e P str88 1018 (.int (-1) 1014)]⟩ 4), ⟨[]⟩⟩
def o367 : Obj := ⟨.type "dict", none, (.dict ⟨[e P str18 1035 (.str str142 1025), e P str87 1037 (.int (-1) 1027), e P str88 1039 (.int (-1) 1029)]⟩ 3), ⟨[]⟩⟩
noncomputable def o368 : Obj := ⟨.ref 218, (some 367), .plain, ⟨[]⟩⟩
def o369 : Obj := ⟨.type "frame", none, (.dict ⟨[e P str7 1030 (.ref 368), e P str18 1031 (.str str142 1025), e P str87 1032 (.int (-1) 1027), e P str88 1033 (.int (-1) 1029)]⟩ 4), ⟨[]⟩⟩
noncomputable def o370 : Obj := ⟨.type "list", none, (.seq ⟨[.ref 356, .ref 359, .ref 362, .ref 365, .ref 368]⟩ 0), ⟨[]⟩⟩
def sb36 : BT := n o47 (n o79 (n o143 (lf o271) z) (n o207 (lf (o335 P)) z)) (n o111 (n o175 (lf o303) z) (n o239 (lf (o367 P)) z))
def sb37 : BT := n o39 (n o71 (n o135 (lf o263) z) (n o199 (lf (o327 P)) z)) (n o103 (n o167 (lf (o295 P)) z) (n (oset231 P) (lf o359) z))
def sb38 : BT := n o35 (n o67 (n o131 (lf o259) z) (n o195 (lf (o323 P)) z)) (n o99 (n o163 (lf (o291 P)) z) (n o227_10 (lf (o355 P)) z))
def sb39 : BT := n o43 (n o75 (n o139 (lf o267) z) (n o203 (lf o331) z)) (n o107 (n o171 (lf o299) z) (n o235 (lf (o363 P)) z))
def sb40 : BT := n o49 (n o81 (n o145 (lf o273) z) (n o209 (lf o337) z)) (n o113 (n o177 (lf (o305 P)) z) (n o241 (lf (o369 P)) z))
def sb41 : BT := n o41 (n o73 (n o137 (lf o265) z) (n o201 (lf (o329 P)) z)) (n o105 (n o169 (lf (o297 P)) z) (n (oset233 P) (lf (o361 P)) z))
def sb42 : BT := n o37 (n o69 (n o133 (lf o261) z) (n o197_3 (lf o325) z)) (n o101 (n o165 (lf o293) z) (n o229 (lf (o357 P)) z))
def sb43 : BT := n o45 (n o77 (n o141 (lf o269) z) (n o205 (lf (o333 P)) z)) (n o109 (n o173 (lf o301) z) (n o237 (lf o365) z))
def sb44 : BT := n o48 (n o80 (n o144 (lf o272) z) (n o208 (lf (o336 P)) z)) (n o112 (n o176 (lf (o304 P)) z) (n o240 (lf o368) z))
def sb45 : BT := n o40 (n o72 (n o136 (lf o264) z) (n o200 (lf o328) z)) (n o104 (n o168 (lf o296) z) (n (oset232 P) (lf (o360 P)) z))
def sb46 : BT := n o36 (n o68 (n o132 (lf o260) z) (n (o196 P) (lf (o324 P)) z)) (n o100 (n o164 (lf (o292 P)) z) (n o228 (lf o356) z))
def sb47 : BT := n o44 (n o76 (n o140 (lf o268) z) (n (o204 P) (lf (o332 P)) z)) (n o108 (n o172 (lf (o300 P)) z) (n o236 (lf (o364 P)) z))
def sb48 : BT := n o50 (n o82 (n o146 (lf o274) z) (n o210 (lf (o338 P)) z)) (n o114 (n o178 (lf o306) z) (n o242 (lf o370) z))
def sb49 : BT := n o42 (n o74 (n o138 (lf o266) z) (n o202 (lf (o330 P)) z)) (n o106 (n o170 (lf (o298 P)) z) (n o234 (lf o362) z))
def sb50 : BT := n o38 (n o70 (n o134 (lf o262) z) (n o198 (lf (o326 P)) z)) (n o102 (n o166 (lf (o294 P)) z) (n (oset230 P) (lf (o358 P)) z))
def sb51 : BT := n o46 (n o78 (n o142 (lf o270) z) (n o206 (lf o334) z)) (n o110 (n o174 (lf (o302 P)) z) (n o238 (lf (o366 P)) z))
def TS17 : BT := n (boot_o_0 P) (n (boot_o_1 P) (n (o3_4 P) (n (boot_o_7 P) (n o15 (sb21 P) (sb36 P)) (n o23 (sb37 P) (sb22 P))) (n o11 (n o19 (sb38 P) (sb23 P)) (n o27 (sb39 P) (sb24 P)))) (n (boot_o_5 P) (n (boot_o_9 P) (n o17 (n o33 (n o65 (n o129 (lf o257) z) (n o193 (lf (o321 P)) z)) (n o97 (n o161 (lf (o289 P)) z) (n (o225_14 P) (lf (o353 P)) z))) (sb40 P)) (n o25 (sb41 P) (sb25 P))) (n o13 (n o21 (sb42 P) (sb26 P)) (n o29 (sb43 P) (sb27 P))))) (n (boot_o_2 P) (n (boot_o_4 P) (n (boot_o_8 P) (n o16 (sb28 P) (sb44 P)) (n (o24 P) (sb45 P) (sb29 P))) (n o12_5 (n o20 (sb46 P) (sb30 P)) (n o28 (sb47 P) (sb31 P)))) (n (boot_o_6 P) (n (boot_o_10 P) (n o18 sb32 (sb48 P)) (n o26 (sb49 P) (sb33 P))) (n o14 (n o22 (sb50 P) (sb34 P)) (n o30 (sb51 P) (sb35 P)))))
def o225_15 : Obj := ⟨.type "dict", none, (.dict ⟨[e P str209 480 (.str str84 471), e P str210 482 (.str str90 481), e P str211 484 (.int (210) 483), e P str213 503 (.ref 230), e P str214 530 (.ref 231), e P str215 553 (.ref 232), e P str216 574 (.ref 233), e P str158 576 (.int (0) 575), e P str157 578 (.int (0) 577), e P str97 591 (.ref 240), e P str100 600 (.ref 247), e P str102 609 (.ref 254), e P str104 616 (.ref 261), e P str106 623 (.ref 268), e P str113 641 (.ref 275), e P str115 651 (.ref 282), e P str217 732 (.ref 301), e P str218 812 (.ref 320), e P str219 964 (.ref 354), e P str220 1040 (.ref 370), e P str221 1110 (.ref 386)]⟩ 21), ⟨[]⟩⟩
def o371 : Obj := ⟨.type "dict", none, (.dict ⟨[e P str18 1050 (.str str130 1041), e P str87 1052 (.int (-1) 1043), e P str88 1054 (.int (1) 1044)]⟩ 3), ⟨[]⟩⟩
noncomputable def o372 : Obj := ⟨.ref 218, (some 371), .plain, ⟨[]⟩⟩
def o373 : Obj := ⟨.type "frame", none, (.dict ⟨[e P str7 1045 (.ref 372), e P str18 1046 (.str str130 1041), e P str87 1047 (.int (-1) 1043), e P str88 1048 (.int (1) 1044)]⟩ 4), ⟨[]⟩⟩
def o374 : Obj := ⟨.type "dict", none, (.dict ⟨[e P str18 1064 (.str str135 1055), e P str87 1066 (.int (-1) 1057), e P str88 1068 (.int (1) 1058)]⟩ 3), ⟨[]⟩⟩
noncomputable def o375 : Obj := ⟨.ref 218, (some 374), .plain, ⟨[]⟩⟩
def o376 : Obj := ⟨.type "frame", none, (.dict ⟨[e P str7 1059 (.ref 375), e P str18 1060 (.str str135 1055), e P str87 1061 (.int (-1) 1057), e P str88 1062 (.int (1) 1058)]⟩ 4), ⟨[]⟩⟩
def o377 : Obj := ⟨.type "dict", none, (.dict ⟨[e P str18 1078 (.str str143 1069), e P str87 1080 (.int (-1) 1071), e P str88 1082 (.int (3) 1072)]⟩ 3), ⟨[]⟩⟩
noncomputable def o378 : Obj := ⟨.ref 218, (some 377), .plain, ⟨[]⟩⟩
def o379 : Obj := ⟨.type "frame", none, (.dict ⟨[e P str7 1073 (.ref 378), e P str18 1074 (.str str143 1069), e P str87 1075 (.int (-1) 1071), e P str88 1076 (.int (3) 1072)]⟩ 4), ⟨[]⟩⟩
def o380 : Obj := ⟨.type "dict", none, (.dict ⟨[e P str18 1092 (.str str144 1083), e P str87 1094 (.int (-1) 1085), e P str88 1096 (.int (2) 1086)]⟩ 3), ⟨[]⟩⟩
noncomputable def o381 : Obj := ⟨.ref 218, (some 380), .plain, ⟨[]⟩⟩
def o382 : Obj := ⟨.type "frame", none, (.dict ⟨[e P str7 1087 (.ref 381), e P str18 1088 (.str str144 1083), e P str87 1089 (.int (-1) 1085), e P str88 1090 (.int (2) 1086)]⟩ 4), ⟨[]⟩⟩
def o383 : Obj := ⟨.type "dict", none, (.dict ⟨[e P str18 1105 (.str str145 1097), e P str87 1107 (.int (3) 1098), e P str88 1109 (.int (1) 1099)]⟩ 3), ⟨[]⟩⟩
noncomputable def o384 : Obj := ⟨.ref 218, (some 383), .plain, ⟨[]⟩⟩
def o385 : Obj := ⟨.type "frame", none, (.dict ⟨[e P str7 1100 (.ref 384), e P str18 1101 (.str str145 1097), e P str87 1102 (.int (3) 1098), e P str88 1103 (.int (1) 1099)]⟩ 4), ⟨[]⟩⟩
noncomputable def o386 : Obj := ⟨.type "list", none, (.seq ⟨[.ref 372, .ref 375, .ref 378, .ref 381, .ref 384]⟩ 0), ⟨[]⟩⟩
def TS18 : BT := n (boot_o_0 P) (n (boot_o_1 P) (n (o3_4 P) (n (boot_o_7 P) (n o15 (n o31 (n o63 (n o127 (lf o255) (lf (o383 P))) (n o191 (lf (o319 P)) z)) (n o95 (n o159 (lf o287) z) (n o223 (lf (o351 P)) z))) (sb36 P)) (n o23 (sb37 P) (n o55 (n o87 (n o151 (lf o279) z) (n o215 (lf o343) z)) (n o119 (n o183 (lf (o311 P)) z) (n o247 (lf o375) z))))) (n o11 (n o19 (sb38 P) (n o51 (n o83 (n o147 (lf o275) z) (n o211 (lf (o339 P)) z)) (n o115 (n o179 (lf (o307 P)) z) (n o243 (lf (o371 P)) z)))) (n o27 (sb39 P) (n o59 (n o91 (n o155 (lf (o283 P)) z) (n o219 (lf (o347 P)) z)) (n o123 (n o187 (lf o315) z) (n o251 (lf (o379 P)) z)))))) (n (boot_o_5 P) (n (boot_o_9 P) (n o17 (n o33 (n o65 (n o129 (lf o257) (lf (o385 P))) (n o193 (lf (o321 P)) z)) (n o97 (n o161 (lf (o289 P)) z) (n (o225_15 P) (lf (o353 P)) z))) (sb40 P)) (n o25 (sb41 P) (n o57 (n o89 (n o153 (lf o281) z) (n (o217 P) (lf (o345 P)) z)) (n o121 (n o185 (lf (o313 P)) z) (n o249 (lf (o377 P)) z))))) (n o13 (n o21 (sb42 P) (n o53 (n o85 (n o149 (lf o277) z) (n o213 (lf (o341 P)) z)) (n o117 (n o181 (lf o309) z) (n o245 (lf (o373 P)) z)))) (n o29 (sb43 P) (n o61 (n o93 (n o157 (lf (o285 P)) z) (n o221 (lf o349) z)) (n o125 (n o189 (lf (o317 P)) z) (n o253 (lf o381) z))))))) (n (boot_o_2 P) (n (boot_o_4 P) (n (boot_o_8 P) (n o16 (n o32 (n o64 (n o128 (lf o256) (lf o384)) (n o192 (lf o320) z)) (n o96 (n o160 (lf (o288 P)) z) (n o224 (lf o352) z))) (sb44 P)) (n (o24 P) (sb45 P) (n o56 (n o88 (n o152 (lf o280) z) (n o216 (lf (o344 P)) z)) (n o120 (n o184 (lf o312) z) (n o248 (lf (o376 P)) z))))) (n o12_5 (n o20 (sb46 P) (n o52 (n o84 (n o148 (lf o276) z) (n o212 (lf o340) z)) (n o116 (n o180 (lf (o308 P)) z) (n o244 (lf o372) z)))) (n o28 (sb47 P) (n o60 (n o92 (n o156 (lf o284) z) (n o220 (lf (o348 P)) z)) (n o124 (n o188 (lf (o316 P)) z) (n o252 (lf (o380 P)) z)))))) (n (boot_o_6 P) (n (boot_o_10 P) (n o18 (n o34 (n o66 (n o130 (lf o258) (lf o386)) (n o194 (lf o322) z)) (n o98 (n o162 (lf o290) z) (n o226 (lf o354) z))) (sb48 P)) (n o26 (sb49 P) (n o58 (n o90 (n o154 (lf o282) z) (n o218 (lf o346) z)) (n o122 (n o186 (lf (o314 P)) z) (n o250 (lf o378) z))))) (n o14 (n o22 (sb50 P) (n o54 (n o86 (n o150 (lf o278) z) (n o214 (lf (o342 P)) z)) (n o118 (n o182 (lf (o310 P)) z) (n o246 (lf (o374 P)) z)))) (n o30 (sb51 P) (n o62 (n o94 (n o158 (lf (o286 P)) z) (n o222 (lf (o350 P)) z)) (n o126 (n o190 (lf o318) z) (n o254 (lf (o382 P)) z)))))))
def o225_16 : Obj := ⟨.type "dict", none, (.dict ⟨[e P str209 480 (.str str84 471), e P str210 482 (.str str90 481), e P str211 484 (.int (210) 483), e P str213 503 (.ref 230), e P str214 530 (.ref 231), e P str215 553 (.ref 232), e P str216 574 (.ref 233), e P str158 576 (.int (0) 575), e P str157 578 (.int (0) 577), e P str97 591 (.ref 240), e P str100 600 (.ref 247), e P str102 609 (.ref 254), e P str104 616 (.ref 261), e P str106 623 (.ref 268), e P str113 641 (.ref 275), e P str115 651 (.ref 282), e P str217 732 (.ref 301), e P str218 812 (.ref 320), e P str219 964 (.ref 354), e P str220 1040 (.ref 370), e P str221 1110 (.ref 386), e P str222 1139 (.ref 393), e P str223 1252 (.ref 418)]⟩ 23), ⟨[]⟩⟩
def o387 : Obj := ⟨.type "dict", none, (.dict ⟨[e P str18 1120 (.str str146 1111), e P str87 1122 (.int (-1) 1113), e P str88 1124 (.int (1) 1114)]⟩ 3), ⟨[]⟩⟩
noncomputable def o388 : Obj := ⟨.ref 218, (some 387), .plain, ⟨[]⟩⟩
def o389 : Obj := ⟨.type "frame", none, (.dict ⟨[e P str7 1115 (.ref 388), e P str18 1116 (.str str146 1111), e P str87 1117 (.int (-1) 1113), e P str88 1118 (.int (1) 1114)]⟩ 4), ⟨[]⟩⟩
def o390 : Obj := ⟨.type "dict", none, (.dict ⟨[e P str18 1134 (.str str147 1125), e P str87 1136 (.int (-1) 1127), e P str88 1138 (.int (1) 1128)]⟩ 3), ⟨[]⟩⟩
noncomputable def o391 : Obj := ⟨.ref 218, (some 390), .plain, ⟨[]⟩⟩
def o392 : Obj := ⟨.type "frame", none, (.dict ⟨[e P str7 1129 (.ref 391), e P str18 1130 (.str str147 1125), e P str87 1131 (.int (-1) 1127), e P str88 1132 (.int (1) 1128)]⟩ 4), ⟨[]⟩⟩
noncomputable def o393 : Obj := ⟨.type "list", none, (.seq ⟨[.ref 388, .ref 391]⟩ 0), ⟨[]⟩⟩
def o394 : Obj := ⟨.type "dict", none, (.dict ⟨[e P str18 1149 (.str str148 1140), e P str87 1151 (.int (-1) 1142), e P str88 1153 (.int (1) 1143)]⟩ 3), ⟨[]⟩⟩
noncomputable def o395 : Obj := ⟨.ref 218, (some 394), .plain, ⟨[]⟩⟩
def o396 : Obj := ⟨.type "frame", none, (.dict ⟨[e P str7 1144 (.ref 395), e P str18 1145 (.str str148 1140), e P str87 1146 (.int (-1) 1142), e P str88 1147 (.int (1) 1143)]⟩ 4), ⟨[]⟩⟩
def o397 : Obj := ⟨.type "dict", none, (.dict ⟨[e P str18 1163 (.str str146 1154), e P str87 1165 (.int (-1) 1156), e P str88 1167 (.int (2) 1157)]⟩ 3), ⟨[]⟩⟩
noncomputable def o398 : Obj := ⟨.ref 218, (some 397), .plain, ⟨[]⟩⟩
def o399 : Obj := ⟨.type "frame", none, (.dict ⟨[e P str7 1158 (.ref 398), e P str18 1159 (.str str146 1154), e P str87 1160 (.int (-1) 1156), e P str88 1161 (.int (2) 1157)]⟩ 4), ⟨[]⟩⟩
def o400 : Obj := ⟨.type "dict", none, (.dict ⟨[e P str18 1177 (.str str149 1168), e P str87 1179 (.int (-1) 1170), e P str88 1181 (.int (1) 1171)]⟩ 3), ⟨[]⟩⟩
noncomputable def o401 : Obj := ⟨.ref 218, (some 400), .plain, ⟨[]⟩⟩
def o402 : Obj := ⟨.type "frame", none, (.dict ⟨[e P str7 1172 (.ref 401), e P str18 1173 (.str str149 1168), e P str87 1174 (.int (-1) 1170), e P str88 1175 (.int (1) 1171)]⟩ 4), ⟨[]⟩⟩
def o403 : Obj := ⟨.type "dict", none, (.dict ⟨[e P str18 1191 (.str str147 1182), e P str87 1193 (.int (-1) 1184), e P str88 1195 (.int (3) 1185)]⟩ 3), ⟨[]⟩⟩
noncomputable def o404 : Obj := ⟨.ref 218, (some 403), .plain, ⟨[]⟩⟩
def o405 : Obj := ⟨.type "frame", none, (.dict ⟨[e P str7 1186 (.ref 404), e P str18 1187 (.str str147 1182), e P str87 1188 (.int (-1) 1184), e P str88 1189 (.int (3) 1185)]⟩ 4), ⟨[]⟩⟩
def o406 : Obj := ⟨.type "dict", none, (.dict ⟨[e P str18 1205 (.str str150 1196), e P str87 1207 (.int (-1) 1198), e P str88 1209 (.int (2) 1199)]⟩ 3), ⟨[]⟩⟩
noncomputable def o407 : Obj := ⟨.ref 218, (some 406), .plain, ⟨[]⟩⟩
def o408 : Obj := ⟨.type "frame", none, (.dict ⟨[e P str7 1200 (.ref 407), e P str18 1201 (.str str150 1196), e P str87 1202 (.int (-1) 1198), e P str88 1203 (.int (2) 1199)]⟩ 4), ⟨[]⟩⟩
def o409 : Obj := ⟨.type "dict", none, (.dict ⟨[e P str18 1219 (.str str151 1210), e P str87 1221 (.int (-1) 1212), e P str88 1223 (.int (2) 1213)]⟩ 3), ⟨[]⟩⟩
noncomputable def o410 : Obj := ⟨.ref 218, (some 409), .plain, ⟨[]⟩⟩
def o411 : Obj := ⟨.type "frame", none, (.dict ⟨[e P str7 1214 (.ref 410), e P str18 1215 (.str str151 1210), e P str87 1216 (.int (-1) 1212), e P str88 1217 (.int (2) 1213)]⟩ 4), ⟨[]⟩⟩
def o412 : Obj := ⟨.type "dict", none, (.dict ⟨[e P str18 1233 (.str str152 1224), e P str87 1235 (.int (-1) 1226), e P str88 1237 (.int (3) 1227)]⟩ 3), ⟨[]⟩⟩
noncomputable def o413 : Obj := ⟨.ref 218, (some 412), .plain, ⟨[]⟩⟩
def o414 : Obj := ⟨.type "frame", none, (.dict ⟨[e P str7 1228 (.ref 413), e P str18 1229 (.str str152 1224), e P str87 1230 (.int (-1) 1226), e P str88 1231 (.int (3) 1227)]⟩ 4), ⟨[]⟩⟩
def o415 : Obj := ⟨.type "dict", none, (.dict ⟨[e P str18 1247 (.str str153 1238), e P str87 1249 (.int (-1) 1240), e P str88 1251 (.int (4) 1241)]⟩ 3), ⟨[]⟩⟩
noncomputable def o416 : Obj := ⟨.ref 218, (some 415), .plain, ⟨[]⟩⟩
def o417 : Obj := ⟨.type "frame", none, (.dict ⟨[e P str7 1242 (.ref 416), e P str18 1243 (.str str153 1238), e P str87 1244 (.int (-1) 1240), e P str88 1245 (.int (4) 1241)]⟩ 4), ⟨[]⟩⟩
noncomputable def o418 : Obj := ⟨.type "list", none, (.seq ⟨[.ref 395, .ref 398, .ref 401, .ref 404, .ref 407, .ref 410, .ref 413, .ref 416]⟩ 0), ⟨[]⟩⟩
def sb52 : BT := n o31 (n o63 (n o127 (lf o255) (lf (o383 P))) (n o191 (lf (o319 P)) z)) (n o95 (n o159 (lf o287) (lf (o415 P))) (n o223 (lf (o351 P)) z))
def sb53 : BT := n o15 (sb52 P) (n o47 (n o79 (n o143 (lf o271) (lf (o399 P))) (n o207 (lf (o335 P)) z)) (n o111 (n o175 (lf o303) z) (n o239 (lf (o367 P)) z)))
def sb54 : BT := n o55 (n o87 (n o151 (lf o279) (lf o407)) (n o215 (lf o343) z)) (n o119 (n o183 (lf (o311 P)) z) (n o247 (lf o375) z))
def sb55 : BT := n o51 (n o83 (n o147 (lf o275) (lf (o403 P))) (n o211 (lf (o339 P)) z)) (n o115 (n o179 (lf (o307 P)) z) (n o243 (lf (o371 P)) z))
def sb56 : BT := n o59 (n o91 (n o155 (lf (o283 P)) (lf (o411 P))) (n o219 (lf (o347 P)) z)) (n o123 (n o187 (lf o315) z) (n o251 (lf (o379 P)) z))
def sb57 : BT := n o49 (n o81 (n o145 (lf o273) (lf o401)) (n o209 (lf o337) z)) (n o113 (n o177 (lf (o305 P)) z) (n o241 (lf (o369 P)) z))
def sb58 : BT := n o57 (n o89 (n o153 (lf o281) (lf (o409 P))) (n (o217 P) (lf (o345 P)) z)) (n o121 (n o185 (lf (o313 P)) z) (n o249 (lf (o377 P)) z))
def sb59 : BT := n o53 (n o85 (n o149 (lf o277) (lf (o405 P))) (n o213 (lf (o341 P)) z)) (n o117 (n o181 (lf o309) z) (n o245 (lf (o373 P)) z))
def sb60 : BT := n o61 (n o93 (n o157 (lf (o285 P)) (lf o413)) (n o221 (lf o349) z)) (n o125 (n o189 (lf (o317 P)) z) (n o253 (lf o381) z))
def sb61 : BT := n o29 (n o45 (n o77 (n o141 (lf o269) (lf (o397 P))) (n o205 (lf (o333 P)) z)) (n o109 (n o173 (lf o301) z) (n o237 (lf o365) z))) (sb60 P)
def sb62 : BT := n o32 (n o64 (n o128 (lf o256) (lf o384)) (n o192 (lf o320) z)) (n o96 (n o160 (lf (o288 P)) (lf o416)) (n o224 (lf o352) z))
def sb63 : BT := n o16 (sb62 P) (n o48 (n o80 (n o144 (lf o272) (lf (o400 P))) (n o208 (lf (o336 P)) z)) (n o112 (n o176 (lf (o304 P)) z) (n o240 (lf o368) z)))
def sb64 : BT := n o56 (n o88 (n o152 (lf o280) (lf (o408 P))) (n o216 (lf (o344 P)) z)) (n o120 (n o184 (lf o312) z) (n o248 (lf (o376 P)) z))
def sb65 : BT := n o52 (n o84 (n o148 (lf o276) (lf o404)) (n o212 (lf o340) z)) (n o116 (n o180 (lf (o308 P)) z) (n o244 (lf o372) z))
def sb66 : BT := n o60 (n o92 (n o156 (lf o284) (lf (o412 P))) (n o220 (lf (o348 P)) z)) (n o124 (n o188 (lf (o316 P)) z) (n o252 (lf (o380 P)) z))
def sb67 : BT := n o18 (n o34 (n o66 (n o130 (lf o258) (lf o386)) (n o194 (lf o322) z)) (n o98 (n o162 (lf o290) (lf o418)) (n o226 (lf o354) z))) (n o50 (n o82 (n o146 (lf o274) (lf (o402 P))) (n o210 (lf (o338 P)) z)) (n o114 (n o178 (lf o306) z) (n o242 (lf o370) z)))
def sb68 : BT := n o58 (n o90 (n o154 (lf o282) (lf o410)) (n o218 (lf o346) z)) (n o122 (n o186 (lf (o314 P)) z) (n o250 (lf o378) z))
def sb69 : BT := n o54 (n o86 (n o150 (lf o278) (lf (o406 P))) (n o214 (lf (o342 P)) z)) (n o118 (n o182 (lf (o310 P)) z) (n o246 (lf (o374 P)) z))
def sb70 : BT := n o62 (n o94 (n o158 (lf (o286 P)) (lf (o414 P))) (n o222 (lf (o350 P)) z)) (n o126 (n o190 (lf o318) z) (n o254 (lf (o382 P)) z))
def sb71 : BT := n o30 (n o46 (n o78 (n o142 (lf o270) (lf o398)) (n o206 (lf o334) z)) (n o110 (n o174 (lf (o302 P)) z) (n o238 (lf (o366 P)) z))) (sb70 P)
def TS20 : BT := n (boot_o_0 P) (n (boot_o_1 P) (n (o3_4 P) (n (boot_o_7 P) (sb53 P) (n o23 (n o39 (n o71 (n o135 (lf o263) (lf o391)) (n o199 (lf (o327 P)) z)) (n o103 (n o167 (lf (o295 P)) z) (n (oset231 P) (lf o359) z))) (sb54 P))) (n o11 (n o19 (n o35 (n o67 (n o131 (lf o259) (lf (o387 P))) (n o195 (lf (o323 P)) z)) (n o99 (n o163 (lf (o291 P)) z) (n o227_10 (lf (o355 P)) z))) (sb55 P)) (n o27 (n o43 (n o75 (n o139 (lf o267) (lf o395)) (n o203 (lf o331) z)) (n o107 (n o171 (lf o299) z) (n o235 (lf (o363 P)) z))) (sb56 P)))) (n (boot_o_5 P) (n (boot_o_9 P) (n o17 (n o33 (n o65 (n o129 (lf o257) (lf (o385 P))) (n o193 (lf (o321 P)) z)) (n o97 (n o161 (lf (o289 P)) (lf (o417 P))) (n (o225_16 P) (lf (o353 P)) z))) (sb57 P)) (n o25 (n o41 (n o73 (n o137 (lf o265) (lf o393)) (n o201 (lf (o329 P)) z)) (n o105 (n o169 (lf (o297 P)) z) (n (oset233 P) (lf (o361 P)) z))) (sb58 P))) (n o13 (n o21 (n o37 (n o69 (n o133 (lf o261) (lf (o389 P))) (n o197_3 (lf o325) z)) (n o101 (n o165 (lf o293) z) (n o229 (lf (o357 P)) z))) (sb59 P)) (sb61 P)))) (n (boot_o_2 P) (n (boot_o_4 P) (n (boot_o_8 P) (sb63 P) (n (o24 P) (n o40 (n o72 (n o136 (lf o264) (lf (o392 P))) (n o200 (lf o328) z)) (n o104 (n o168 (lf o296) z) (n (oset232 P) (lf (o360 P)) z))) (sb64 P))) (n o12_5 (n o20 (n o36 (n o68 (n o132 (lf o260) (lf o388)) (n (o196 P) (lf (o324 P)) z)) (n o100 (n o164 (lf (o292 P)) z) (n o228 (lf o356) z))) (sb65 P)) (n o28 (n o44 (n o76 (n o140 (lf o268) (lf (o396 P))) (n (o204 P) (lf (o332 P)) z)) (n o108 (n o172 (lf (o300 P)) z) (n o236 (lf (o364 P)) z))) (sb66 P)))) (n (boot_o_6 P) (n (boot_o_10 P) (sb67 P) (n o26 (n o42 (n o74 (n o138 (lf o266) (lf (o394 P))) (n o202 (lf (o330 P)) z)) (n o106 (n o170 (lf (o298 P)) z) (n o234 (lf o362) z))) (sb68 P))) (n o14 (n o22 (n o38 (n o70 (n o134 (lf o262) (lf (o390 P))) (n o198 (lf (o326 P)) z)) (n o102 (n o166 (lf (o294 P)) z) (n (oset230 P) (lf (o358 P)) z))) (sb69 P)) (sb71 P))))
def o225_17 : Obj := ⟨.type "dict", none, (.dict ⟨[e P str209 480 (.str str84 471), e P str210 482 (.str str90 481), e P str211 484 (.int (210) 483), e P str213 503 (.ref 230), e P str214 530 (.ref 231), e P str215 553 (.ref 232), e P str216 574 (.ref 233), e P str158 576 (.int (0) 575), e P str157 578 (.int (0) 577), e P str97 591 (.ref 240), e P str100 600 (.ref 247), e P str102 609 (.ref 254), e P str104 616 (.ref 261), e P str106 623 (.ref 268), e P str113 641 (.ref 275), e P str115 651 (.ref 282), e P str217 732 (.ref 301), e P str218 812 (.ref 320), e P str219 964 (.ref 354), e P str220 1040 (.ref 370), e P str221 1110 (.ref 386), e P str222 1139 (.ref 393), e P str223 1252 (.ref 418), e P str224 1295 (.ref 428)]⟩ 24), ⟨[]⟩⟩
def o419 : Obj := ⟨.type "dict", none, (.dict ⟨[e P str18 1262 (.str str154 1253), e P str87 1264 (.int (-1) 1255), e P str88 1266 (.int (1) 1256)]⟩ 3), ⟨[]⟩⟩
noncomputable def o420 : Obj := ⟨.ref 218, (some 419), .plain, ⟨[]⟩⟩
def o421 : Obj := ⟨.type "frame", none, (.dict ⟨[e P str7 1257 (.ref 420), e P str18 1258 (.str str154 1253), e P str87 1259 (.int (-1) 1255), e P str88 1260 (.int (1) 1256)]⟩ 4), ⟨[]⟩⟩
def o422 : Obj := ⟨.type "dict", none, (.dict ⟨[e P str18 1276 (.str str155 1267), e P str87 1278 (.int (-1) 1269), e P str88 1280 (.int (1) 1270)]⟩ 3), ⟨[]⟩⟩
noncomputable def o423 : Obj := ⟨.ref 218, (some 422), .plain, ⟨[]⟩⟩
def o424 : Obj := ⟨.type "frame", none, (.dict ⟨[e P str7 1271 (.ref 423), e P str18 1272 (.str str155 1267), e P str87 1273 (.int (-1) 1269), e P str88 1274 (.int (1) 1270)]⟩ 4), ⟨[]⟩⟩
def o425 : Obj := ⟨.type "dict", none, (.dict ⟨[e P str18 1290 (.str str156 1281), e P str87 1292 (.int (-1) 1283), e P str88 1294 (.int (1) 1284)]⟩ 3), ⟨[]⟩⟩
noncomputable def o426 : Obj := ⟨.ref 218, (some 425), .plain, ⟨[]⟩⟩
def o427 : Obj := ⟨.type "frame", none, (.dict ⟨[e P str7 1285 (.ref 426), e P str18 1286 (.str str156 1281), e P str87 1287 (.int (-1) 1283), e P str88 1288 (.int (1) 1284)]⟩ 4), ⟨[]⟩⟩
noncomputable def o428 : Obj := ⟨.type "list", none, (.seq ⟨[.ref 420, .ref 423, .ref 426]⟩ 0), ⟨[]⟩⟩
def sb72 : BT := n o23 (n o39 (n o71 (n o135 (lf o263) (lf o391)) (n o199 (lf (o327 P)) z)) (n o103 (n o167 (lf (o295 P)) (lf o423)) (n (oset231 P) (lf o359) z))) (sb54 P)
def sb73 : BT := n o11 (n o19 (n o35 (n o67 (n o131 (lf o259) (lf (o387 P))) (n o195 (lf (o323 P)) z)) (n o99 (n o163 (lf (o291 P)) (lf (o419 P))) (n o227_10 (lf (o355 P)) z))) (sb55 P)) (n o27 (n o43 (n o75 (n o139 (lf o267) (lf o395)) (n o203 (lf o331) z)) (n o107 (n o171 (lf o299) (lf (o427 P))) (n o235 (lf (o363 P)) z))) (sb56 P))
def sb74 : BT := n o25 (n o41 (n o73 (n o137 (lf o265) (lf o393)) (n o201 (lf (o329 P)) z)) (n o105 (n o169 (lf (o297 P)) (lf (o425 P))) (n (oset233 P) (lf (o361 P)) z))) (sb58 P)
def sb75 : BT := n (o24 P) (n o40 (n o72 (n o136 (lf o264) (lf (o392 P))) (n o200 (lf o328) z)) (n o104 (n o168 (lf o296) (lf (o424 P))) (n (oset232 P) (lf (o360 P)) z))) (sb64 P)
def sb76 : BT := n o12_5 (n o20 (n o36 (n o68 (n o132 (lf o260) (lf o388)) (n (o196 P) (lf (o324 P)) z)) (n o100 (n o164 (lf (o292 P)) (lf o420)) (n o228 (lf o356) z))) (sb65 P)) (n o28 (n o44 (n o76 (n o140 (lf o268) (lf (o396 P))) (n (o204 P) (lf (o332 P)) z)) (n o108 (n o172 (lf (o300 P)) (lf o428)) (n o236 (lf (o364 P)) z))) (sb66 P))
def sb77 : BT := n (boot_o_10 P) (sb67 P) (n o26 (n o42 (n o74 (n o138 (lf o266) (lf (o394 P))) (n o202 (lf (o330 P)) z)) (n o106 (n o170 (lf (o298 P)) (lf o426)) (n o234 (lf o362) z))) (sb68 P))
def sb78 : BT := n o22 (n o38 (n o70 (n o134 (lf o262) (lf (o390 P))) (n o198 (lf (o326 P)) z)) (n o102 (n o166 (lf (o294 P)) (lf (o422 P))) (n (oset230 P) (lf (o358 P)) z))) (sb69 P)
def TS21 : BT := n (boot_o_0 P) (n (boot_o_1 P) (n (o3_4 P) (n (boot_o_7 P) (sb53 P) (sb72 P)) (sb73 P)) (n (boot_o_5 P) (n (boot_o_9 P) (n o17 (n o33 (n o65 (n o129 (lf o257) (lf (o385 P))) (n o193 (lf (o321 P)) z)) (n o97 (n o161 (lf (o289 P)) (lf (o417 P))) (n (o225_17 P) (lf (o353 P)) z))) (sb57 P)) (sb74 P)) (n o13 (n o21 (n o37 (n o69 (n o133 (lf o261) (lf (o389 P))) (n o197_3 (lf o325) z)) (n o101 (n o165 (lf o293) (lf (o421 P))) (n o229 (lf (o357 P)) z))) (sb59 P)) (sb61 P)))) (n (boot_o_2 P) (n (boot_o_4 P) (n (boot_o_8 P) (sb63 P) (sb75 P)) (sb76 P)) (n (boot_o_6 P) (sb77 P) (n o14 (sb78 P) (sb71 P))))
def o3_18 : Obj := ⟨.type "dict", none, (.dict ⟨[e P str200 165 (.str str84 471), e P str201 166 (.none), e P str202 167 (.none), e P str203 168 (.builtin "__main__.__loader__#opaque"), e P str204 169 (.none), e P str205 170 (.ref 6), e P str206 171 (.ref 4), e P str207 173 (.str str1 172), e P str208 174 (.none), e P str5 193 (.ref 21), e P str6 435 (.ref 197), e P str86 470 (.ref 218), e P str90 1305 (.ref 431)]⟩ 13), ⟨[]⟩⟩
def o197_18 : Obj := ⟨.type "type", none, (.cls ⟨str6, [.type "object"], [.ref 197, .type "object"], 196, str6, true, [], [.ref 431], false, none, false⟩), ⟨[none, none, some (.str str6 196), some (.str str6 204), some (.builtin "object.__new__"), some (.bool true)]⟩⟩
def o225_18 : Obj := ⟨.type "dict", none, (.dict ⟨[e P str209 480 (.str str84 471), e P str210 482 (.str str90 481), e P str211 484 (.int (210) 483), e P str213 503 (.ref 230), e P str214 530 (.ref 231), e P str215 553 (.ref 232), e P str216 574 (.ref 233), e P str158 576 (.int (0) 575), e P str157 578 (.int (0) 577), e P str97 591 (.ref 240), e P str100 600 (.ref 247), e P str102 609 (.ref 254), e P str104 616 (.ref 261), e P str106 623 (.ref 268), e P str113 641 (.ref 275), e P str115 651 (.ref 282), e P str217 732 (.ref 301), e P str218 812 (.ref 320), e P str219 964 (.ref 354), e P str220 1040 (.ref 370), e P str221 1110 (.ref 386), e P str222 1139 (.ref 393), e P str223 1252 (.ref 418), e P str224 1295 (.ref 428), e P str212 1302 (.ref 429)]⟩ 25), ⟨[]⟩⟩
def o429 : Obj := tu [.str str157 1296, .str str158 1297, .str str76 1298, .str str78 1299, .str str79 1300, .str str81 1301]
def o430 : Obj := ⟨.type "dict", none, (.dict ⟨[e P str209 480 (.str str84 471), e P str211 484 (.int (210) 483), e P str213 503 (.ref 230), e P str214 530 (.ref 231), e P str215 553 (.ref 232), e P str216 574 (.ref 233), e P str158 576 (.int (0) 575), e P str157 578 (.int (0) 577), e P str97 591 (.ref 240), e P str100 600 (.ref 247), e P str102 609 (.ref 254), e P str104 616 (.ref 261), e P str106 623 (.ref 268), e P str113 641 (.ref 275), e P str115 651 (.ref 282), e P str217 732 (.ref 301), e P str218 812 (.ref 320), e P str219 964 (.ref 354), e P str220 1040 (.ref 370), e P str221 1110 (.ref 386), e P str222 1139 (.ref 393), e P str223 1252 (.ref 418), e P str224 1295 (.ref 428), e P str212 1302 (.ref 429), e P str201 1303 (.none)]⟩ 2), ⟨[]⟩⟩
def o431 : Obj := ⟨.type "type", none, (.cls ⟨str90, [.ref 197], [.ref 431, .ref 197, .type "object"], 430, str90, true, [], [], false, none, false⟩), ⟨[some (.ref 223), none, some (.str str90 473), some (.str str90 481), some (.builtin "object.__new__"), some (.bool true)]⟩⟩
noncomputable def o432 : Obj := ⟨.type "super", none, (.fields ⟨[.ref 431, .ref 431, .ref 431]⟩), ⟨[]⟩⟩
noncomputable def o433 : Obj := ⟨.type "builtin_function_or_method", none, (.fields ⟨[.builtin "object.__init_subclass__", .ref 431]⟩), ⟨[]⟩⟩
noncomputable def TE (P : Params) : BT := n (boot_o_0 P) (n (boot_o_1 P) (n (o3_18 P) (n (boot_o_7 P) (n o15 (sb52 P) (n o47 (n o79 (n o143 (lf o271) (lf (o399 P))) (n o207 (lf (o335 P)) z)) (n o111 (n o175 (lf o303) (lf o431)) (n o239 (lf (o367 P)) z)))) (sb72 P)) (sb73 P)) (n (boot_o_5 P) (n (boot_o_9 P) (n o17 (n o33 (n o65 (n o129 (lf o257) (lf (o385 P))) (n o193 (lf (o321 P)) z)) (n o97 (n o161 (lf (o289 P)) (lf (o417 P))) (n (o225_18 P) (lf (o353 P)) z))) (n o49 (n o81 (n o145 (lf o273) (lf o401)) (n o209 (lf o337) z)) (n o113 (n o177 (lf (o305 P)) (lf o433)) (n o241 (lf (o369 P)) z)))) (sb74 P)) (n o13 (n o21 (n o37 (n o69 (n o133 (lf o261) (lf (o389 P))) (n o197_18 (lf o325) z)) (n o101 (n o165 (lf o293) (lf (o421 P))) (n o229 (lf (o357 P)) z))) (sb59 P)) (n o29 (n o45 (n o77 (n o141 (lf o269) (lf (o397 P))) (n o205 (lf (o333 P)) z)) (n o109 (n o173 (lf o301) (lf o429)) (n o237 (lf o365) z))) (sb60 P))))) (n (boot_o_2 P) (n (boot_o_4 P) (n (boot_o_8 P) (n o16 (sb62 P) (n o48 (n o80 (n o144 (lf o272) (lf (o400 P))) (n o208 (lf (o336 P)) z)) (n o112 (n o176 (lf (o304 P)) (lf o432)) (n o240 (lf o368) z)))) (sb75 P)) (sb76 P)) (n (boot_o_6 P) (sb77 P) (n o14 (sb78 P) (n o30 (n o46 (n o78 (n o142 (lf o270) (lf o398)) (n o206 (lf o334) z)) (n o110 (n o174 (lf (o302 P)) (lf (o430 P))) (n o238 (lf (o366 P)) z))) (sb70 P)))))
def o2 : Obj := ⟨.none, none, (.dict ⟨[e P str225 1322 ((i 443)), e P str226 1323 ((i 3)), e P str227 1342 ((i 456)), e P str228 1362 ((i 469))]⟩ 4), ⟨[]⟩⟩
def o3_19 : Obj := ⟨.type "dict", none, (.dict ⟨[e P str200 165 (.str str84 471), e P str201 166 (.none), e P str202 167 (.none), e P str203 168 (.builtin "__main__.__loader__#opaque"), e P str204 169 (.none), e P str205 170 (.ref 6), e P str206 171 (.ref 4), e P str207 173 (.str str1 172), e P str208 174 (.none), e P str5 193 (.ref 21), e P str6 435 (.ref 197), e P str86 470 (.ref 218), e P str90 1305 (.ref 431), e P str159 1325 (.ref 443), e P str160 1345 (.ref 456), e P str161 1365 (.ref 469)]⟩ 16), ⟨[]⟩⟩
def o12_19 : Obj := ⟨.none, none, (.fields ⟨[(i 1), i0, .ref 20, (i 5), i0, .ref 27, (i 203), i0, .ref 207, (i 210), i0, .ref 228, (i 555), i0, .ref 439, (i 557), i0, .ref 452, (i 559), i0, .ref 465]⟩), ⟨[]⟩⟩
def o434 : Obj := tu [.type "Exception"]
noncomputable def o435 : Obj := ⟨.type "builtin_function_or_method", none, (.fields ⟨[.builtin "type.__prepare__", .type "type"]⟩), ⟨[]⟩⟩
def o436 : Obj := ⟨.type "dict", none, (.dict ⟨[e P str209 1313 (.str str84 471), e P str210 1315 (.str str159 1314), e P str211 1317 (.int (555) 1316), e P str212 1318 (.ref 441)]⟩ 4), ⟨[]⟩⟩
def o437 : Obj := oT
def o438 : Obj := oF
def o439 : Obj := ⟨.type "code", none, (.fields ⟨[.str str159 1308, .str str159 1309, .str str1 1310, (i 555), i0, i0, i0, i0, .ref 437, .bool false, (i 181), .ref 438, .none, .none, .none, .none, (i 1311), (i 555), .str str1 1312]⟩), ⟨[]⟩⟩
def o440 : Obj := ⟨.type "frame", none, .plain, ⟨[some (.ref 439), some (.ref 3), some (.ref 436), none, some (.str str84 471), none, some (.ref 0)]⟩⟩
def o441 : Obj := oT
def o442 : Obj := ⟨.type "dict", none, (.dict ⟨[e P str209 1313 (.str str84 471), e P str211 1317 (.int (555) 1316), e P str212 1318 (.ref 441), e P str83 1320 (.ref 444), e P str201 1321 (.none)]⟩ 3), ⟨[]⟩⟩
def o443 : Obj := ⟨.type "type", none, (.cls ⟨str159, [.type "Exception"], [.ref 443, .type "Exception", .type "BaseException", .type "object"], 442, str159, true, [], [], false, none, false⟩), ⟨[some (.ref 434), none, some (.str str159 1306), some (.str str159 1314), some (.builtin "Exception.__new__"), some (.bool true)]⟩⟩
def o444 : Obj := ⟨.type "getset_descriptor", none, (.fields ⟨[.str str83 1319, .ref 443, .builtin "ExceptionGroup.__weakref__", .none]⟩), ⟨[]⟩⟩
noncomputable def o445 : Obj := ⟨.type "super", none, (.fields ⟨[.ref 443, .ref 443, .ref 443]⟩), ⟨[]⟩⟩
noncomputable def o446 : Obj := ⟨.type "builtin_function_or_method", none, (.fields ⟨[.builtin "object.__init_subclass__", .ref 443]⟩), ⟨[]⟩⟩
def o447 : Obj := tu [.type "Exception"]
noncomputable def o448 : Obj := ⟨.type "builtin_function_or_method", none, (.fields ⟨[.builtin "type.__prepare__", .type "type"]⟩), ⟨[]⟩⟩
def o449 : Obj := ⟨.type "dict", none, (.dict ⟨[e P str209 1333 (.str str84 471), e P str210 1335 (.str str160 1334), e P str211 1337 (.int (557) 1336), e P str212 1338 (.ref 454)]⟩ 4), ⟨[]⟩⟩
def o450 : Obj := oT
def o451 : Obj := oF
def o452 : Obj := ⟨.type "code", none, (.fields ⟨[.str str160 1328, .str str160 1329, .str str1 1330, (i 557), i0, i0, i0, i0, .ref 450, .bool false, (i 181), .ref 451, .none, .none, .none, .none, (i 1331), (i 557), .str str1 1332]⟩), ⟨[]⟩⟩
def o453 : Obj := ⟨.type "frame", none, .plain, ⟨[some (.ref 452), some (.ref 3), some (.ref 449), none, some (.str str84 471), none, some (.ref 0)]⟩⟩
def o454 : Obj := oT
def o455 : Obj := ⟨.type "dict", none, (.dict ⟨[e P str209 1333 (.str str84 471), e P str211 1337 (.int (557) 1336), e P str212 1338 (.ref 454), e P str83 1340 (.ref 457), e P str201 1341 (.none)]⟩ 3), ⟨[]⟩⟩
def o456 : Obj := ⟨.type "type", none, (.cls ⟨str160, [.type "Exception"], [.ref 456, .type "Exception", .type "BaseException", .type "object"], 455, str160, true, [], [], false, none, false⟩), ⟨[some (.ref 447), none, some (.str str160 1326), some (.str str160 1334), some (.builtin "Exception.__new__"), some (.bool true)]⟩⟩
def o457 : Obj := ⟨.type "getset_descriptor", none, (.fields ⟨[.str str83 1339, .ref 456, .builtin "ExceptionGroup.__weakref__", .none]⟩), ⟨[]⟩⟩
noncomputable def o458 : Obj := ⟨.type "super", none, (.fields ⟨[.ref 456, .ref 456, .ref 456]⟩), ⟨[]⟩⟩
noncomputable def o459 : Obj := ⟨.type "builtin_function_or_method", none, (.fields ⟨[.builtin "object.__init_subclass__", .ref 456]⟩), ⟨[]⟩⟩
def o460 : Obj := tu [.type "Exception"]
noncomputable def o461 : Obj := ⟨.type "builtin_function_or_method", none, (.fields ⟨[.builtin "type.__prepare__", .type "type"]⟩), ⟨[]⟩⟩
def o462 : Obj := ⟨.type "dict", none, (.dict ⟨[e P str209 1353 (.str str84 471), e P str210 1355 (.str str161 1354), e P str211 1357 (.int (559) 1356), e P str212 1358 (.ref 467)]⟩ 4), ⟨[]⟩⟩
def o463 : Obj := oT
def o464 : Obj := oF
def o465 : Obj := ⟨.type "code", none, (.fields ⟨[.str str161 1348, .str str161 1349, .str str1 1350, (i 559), i0, i0, i0, i0, .ref 463, .bool false, (i 181), .ref 464, .none, .none, .none, .none, (i 1351), (i 559), .str str1 1352]⟩), ⟨[]⟩⟩
def o466 : Obj := ⟨.type "frame", none, .plain, ⟨[some (.ref 465), some (.ref 3), some (.ref 462), none, some (.str str84 471), none, some (.ref 0)]⟩⟩
def o467 : Obj := oT
def o468 : Obj := ⟨.type "dict", none, (.dict ⟨[e P str209 1353 (.str str84 471), e P str211 1357 (.int (559) 1356), e P str212 1358 (.ref 467), e P str83 1360 (.ref 470), e P str201 1361 (.none)]⟩ 3), ⟨[]⟩⟩
def o469 : Obj := ⟨.type "type", none, (.cls ⟨str161, [.type "Exception"], [.ref 469, .type "Exception", .type "BaseException", .type "object"], 468, str161, true, [], [], false, none, false⟩), ⟨[some (.ref 460), none, some (.str str161 1346), some (.str str161 1354), some (.builtin "Exception.__new__"), some (.bool true)]⟩⟩
def o470 : Obj := ⟨.type "getset_descriptor", none, (.fields ⟨[.str str83 1359, .ref 469, .builtin "ExceptionGroup.__weakref__", .none]⟩), ⟨[]⟩⟩
noncomputable def o471 : Obj := ⟨.type "super", none, (.fields ⟨[.ref 469, .ref 469, .ref 469]⟩), ⟨[]⟩⟩
noncomputable def o472 : Obj := ⟨.type "builtin_function_or_method", none, (.fields ⟨[.builtin "object.__init_subclass__", .ref 469]⟩), ⟨[]⟩⟩
def TB10 : BT := n (boot_o_0 P) (n (boot_o_1 P) (n (o3_19 P) (n (boot_o_7 P) (n o15 (n o31 (n o63 (n o127 (lf o255) (lf (o383 P))) (n o191 (lf (o319 P)) (lf o447))) (n o95 (n o159 (lf o287) (lf (o415 P))) (n o223 (lf (o351 P)) z))) (n o47 (n o79 (n o143 (lf o271) (lf (o399 P))) (n o207 (lf (o335 P)) (lf o463))) (n o111 (n o175 (lf o303) (lf o431)) (n o239 (lf (o367 P)) z)))) (n o23 (n o39 (n o71 (n o135 (lf o263) (lf o391)) (n o199 (lf (o327 P)) (lf (o455 P)))) (n o103 (n o167 (lf (o295 P)) (lf o423)) (n (oset231 P) (lf o359) z))) (n o55 (n o87 (n o151 (lf o279) (lf o407)) (n o215 (lf o343) (lf o471))) (n o119 (n o183 (lf (o311 P)) (lf o439)) (n o247 (lf o375) z))))) (n o11 (n o19 (n o35 (n o67 (n o131 (lf o259) (lf (o387 P))) (n o195 (lf (o323 P)) (lf o451))) (n o99 (n o163 (lf (o291 P)) (lf (o419 P))) (n o227_10 (lf (o355 P)) z))) (n o51 (n o83 (n o147 (lf o275) (lf (o403 P))) (n o211 (lf (o339 P)) (lf o467))) (n o115 (n o179 (lf (o307 P)) (lf o435)) (n o243 (lf (o371 P)) z)))) (n o27 (n o43 (n o75 (n o139 (lf o267) (lf o395)) (n o203 (lf o331) (lf o459))) (n o107 (n o171 (lf o299) (lf (o427 P))) (n o235 (lf (o363 P)) z))) (n o59 (n o91 (n o155 (lf (o283 P)) (lf (o411 P))) (n o219 (lf (o347 P)) z)) (n o123 (n o187 (lf o315) (lf o443)) (n o251 (lf (o379 P)) z)))))) (n (boot_o_5 P) (n (boot_o_9 P) (n o17 (n o33 (n o65 (n o129 (lf o257) (lf (o385 P))) (n o193 (lf (o321 P)) (lf (o449 P)))) (n o97 (n o161 (lf (o289 P)) (lf (o417 P))) (n (o225_18 P) (lf (o353 P)) z))) (n o49 (n o81 (n o145 (lf o273) (lf o401)) (n o209 (lf o337) (lf o465))) (n o113 (n o177 (lf (o305 P)) (lf o433)) (n o241 (lf (o369 P)) z)))) (n o25 (n o41 (n o73 (n o137 (lf o265) (lf o393)) (n o201 (lf (o329 P)) (lf o457))) (n o105 (n o169 (lf (o297 P)) (lf (o425 P))) (n (oset233 P) (lf (o361 P)) z))) (n o57 (n o89 (n o153 (lf o281) (lf (o409 P))) (n (o217 P) (lf (o345 P)) z)) (n o121 (n o185 (lf (o313 P)) (lf o441)) (n o249 (lf (o377 P)) z))))) (n o13 (n o21 (n o37 (n o69 (n o133 (lf o261) (lf (o389 P))) (n o197_18 (lf o325) (lf o453))) (n o101 (n o165 (lf o293) (lf (o421 P))) (n o229 (lf (o357 P)) z))) (n o53 (n o85 (n o149 (lf o277) (lf (o405 P))) (n o213 (lf (o341 P)) (lf o469))) (n o117 (n o181 (lf o309) (lf o437)) (n o245 (lf (o373 P)) z)))) (n o29 (n o45 (n o77 (n o141 (lf o269) (lf (o397 P))) (n o205 (lf (o333 P)) (lf o461))) (n o109 (n o173 (lf o301) (lf o429)) (n o237 (lf o365) z))) (n o61 (n o93 (n o157 (lf (o285 P)) (lf o413)) (n o221 (lf o349) z)) (n o125 (n o189 (lf (o317 P)) (lf o445)) (n o253 (lf o381) z))))))) (n (o2 P) (n (boot_o_4 P) (n (boot_o_8 P) (n o16 (n o32 (n o64 (n o128 (lf o256) (lf o384)) (n o192 (lf o320) (lf o448))) (n o96 (n o160 (lf (o288 P)) (lf o416)) (n o224 (lf o352) z))) (n o48 (n o80 (n o144 (lf o272) (lf (o400 P))) (n o208 (lf (o336 P)) (lf o464))) (n o112 (n o176 (lf (o304 P)) (lf o432)) (n o240 (lf o368) z)))) (n (o24 P) (n o40 (n o72 (n o136 (lf o264) (lf (o392 P))) (n o200 (lf o328) (lf o456))) (n o104 (n o168 (lf o296) (lf (o424 P))) (n (oset232 P) (lf (o360 P)) z))) (n o56 (n o88 (n o152 (lf o280) (lf (o408 P))) (n o216 (lf (o344 P)) (lf o472))) (n o120 (n o184 (lf o312) (lf o440)) (n o248 (lf (o376 P)) z))))) (n o12_19 (n o20 (n o36 (n o68 (n o132 (lf o260) (lf o388)) (n (o196 P) (lf (o324 P)) (lf o452))) (n o100 (n o164 (lf (o292 P)) (lf o420)) (n o228 (lf o356) z))) (n o52 (n o84 (n o148 (lf o276) (lf o404)) (n o212 (lf o340) (lf (o468 P)))) (n o116 (n o180 (lf (o308 P)) (lf (o436 P))) (n o244 (lf o372) z)))) (n o28 (n o44 (n o76 (n o140 (lf o268) (lf (o396 P))) (n (o204 P) (lf (o332 P)) (lf o460))) (n o108 (n o172 (lf (o300 P)) (lf o428)) (n o236 (lf (o364 P)) z))) (n o60 (n o92 (n o156 (lf o284) (lf (o412 P))) (n o220 (lf (o348 P)) z)) (n o124 (n o188 (lf (o316 P)) (lf o444)) (n o252 (lf (o380 P)) z)))))) (n (boot_o_6 P) (n (boot_o_10 P) (n o18 (n o34 (n o66 (n o130 (lf o258) (lf o386)) (n o194 (lf o322) (lf o450))) (n o98 (n o162 (lf o290) (lf o418)) (n o226 (lf o354) z))) (n o50 (n o82 (n o146 (lf o274) (lf (o402 P))) (n o210 (lf (o338 P)) (lf o466))) (n o114 (n o178 (lf o306) (lf o434)) (n o242 (lf o370) z)))) (n o26 (n o42 (n o74 (n o138 (lf o266) (lf (o394 P))) (n o202 (lf (o330 P)) (lf o458))) (n o106 (n o170 (lf (o298 P)) (lf o426)) (n o234 (lf o362) z))) (n o58 (n o90 (n o154 (lf o282) (lf o410)) (n o218 (lf o346) z)) (n o122 (n o186 (lf (o314 P)) (lf (o442 P))) (n o250 (lf o378) z))))) (n o14 (n o22 (n o38 (n o70 (n o134 (lf o262) (lf (o390 P))) (n o198 (lf (o326 P)) (lf o454))) (n o102 (n o166 (lf (o294 P)) (lf (o422 P))) (n (oset230 P) (lf (o358 P)) z))) (n o54 (n o86 (n o150 (lf o278) (lf (o406 P))) (n o214 (lf (o342 P)) (lf o470))) (n o118 (n o182 (lf (o310 P)) (lf o438)) (n o246 (lf (o374 P)) z)))) (n o30 (n o46 (n o78 (n o142 (lf o270) (lf o398)) (n o206 (lf o334) (lf (o462 P)))) (n o110 (n o174 (lf (o302 P)) (lf (o430 P))) (n o238 (lf (o366 P)) z))) (n o62 (n o94 (n o158 (lf (o286 P)) (lf (o414 P))) (n o222 (lf (o350 P)) z)) (n o126 (n o190 (lf o318) (lf o446)) (n o254 (lf (o382 P)) z)))))))
def o3_20 : Obj := ⟨.type "dict", none, (.dict ⟨[e P str200 165 (.str str162 1366), e P str201 166 (.none), e P str202 167 (.none), e P str203 168 (.builtin "__main__.__loader__#opaque"), e P str204 169 (.none), e P str205 170 (.ref 6), e P str206 171 (.ref 4), e P str207 173 (.str str1 172), e P str208 174 (.none), e P str5 193 (.ref 21), e P str6 435 (.ref 197), e P str86 470 (.ref 218), e P str90 1305 (.ref 431), e P str159 1325 (.ref 443), e P str160 1345 (.ref 456), e P str161 1365 (.ref 469), e P str229 1369 (.str str163 1368), e P str164 1375 (.ref 479), e P str230 1387 (.ref 480), e P str231 1393 (.ref 481), e P str232 1402 (.ref 482), e P str233 1406 (.ref 483), e P str165 1412 (.ref 490), e P str166 1418 (.ref 497), e P str167 1424 (.ref 504), e P str234 1430 (.ref 505), e P str168 1436 (.ref 512), e P str169 1442 (.ref 519), e P str171 1449 (.ref 526)]⟩ 29), ⟨[]⟩⟩
def o12_20 : Obj := ⟨.none, none, (.fields ⟨[(i 1), i0, .ref 20, (i 5), i0, .ref 27, (i 203), i0, .ref 207, (i 210), i0, .ref 228, (i 555), i0, .ref 439, (i 557), i0, .ref 452, (i 559), i0, .ref 465, (i 563), i0, .ref 478, (i 569), i0, .ref 489, (i 571), i0, .ref 496, (i 573), i0, .ref 503, (i 576), i0, .ref 511, (i 578), i0, .ref 518, (i 580), i0, .ref 525]⟩), ⟨[]⟩⟩
def o473 : Obj := oT
def o474 : Obj := oF
def o475 : Obj := oT
def o476 : Obj := oT
def o477 : Obj := fC str164 str164 dNo (top 12)
def o478 : Obj := cd str164 str164 1370 1371 1372 (i 563) i0 473 474 475 476 477 1373 1374
def o479 : Obj := fF str164 str164 dNo (top 12) (.str str162 1366) 478
def o480 : Obj := ⟨.type "list", none, (.seq ⟨[.str str129 1376, .str str134 1377, .str str135 1378, .str str132 1379, .str str131 1380, .str str128 1381, .str str130 1382, .str str136 1383, .str str18 1384, .str str133 1385, .str str137 1386]⟩ 0), ⟨[]⟩⟩
def o481 : Obj := ⟨.type "list", none, (.seq ⟨[.str str130 1388, .str str135 1389, .str str145 1390, .str str144 1391, .str str143 1392]⟩ 0), ⟨[]⟩⟩
def o482 : Obj := ⟨.type "list", none, (.seq ⟨[.str str148 1394, .str str149 1395, .str str146 1396, .str str151 1397, .str str150 1398, .str str147 1399, .str str152 1400, .str str153 1401]⟩ 0), ⟨[]⟩⟩
def o483 : Obj := ⟨.type "list", none, (.seq ⟨[.str str154 1403, .str str156 1404, .str str155 1405]⟩ 0), ⟨[]⟩⟩
def o484 : Obj := oT
def o485 : Obj := oF
def o486 : Obj := oT
def o487 : Obj := oT
def o488 : Obj := fC str165 str165 dNo (top 17)
def o489 : Obj := cd str165 str165 1407 1408 1409 (i 569) i0 484 485 486 487 488 1410 1411
def o490 : Obj := fF str165 str165 dNo (top 17) (.str str162 1366) 489
def o491 : Obj := oT
def o492 : Obj := oF
def o493 : Obj := oT
def o494 : Obj := oT
def o495 : Obj := fC str166 str166 dNo (top 18)
def o496 : Obj := cd str166 str166 1413 1414 1415 (i 571) i0 491 492 493 494 495 1416 1417
def o497 : Obj := fF str166 str166 dNo (top 18) (.str str162 1366) 496
def o498 : Obj := oT
def o499 : Obj := oF
def o500 : Obj := oT
def o501 : Obj := oT
def o502 : Obj := fC str167 str167 dNo (top 19)
def o503 : Obj := cd str167 str167 1419 1420 1421 (i 573) i0 498 499 500 501 502 1422 1423
def o504 : Obj := fF str167 str167 dNo (top 19) (.str str162 1366) 503
def o505 : Obj := ⟨.type "list", none, (.seq ⟨[.str str140 1425, .str str141 1426, .str str139 1427, .str str138 1428, .str str142 1429]⟩ 0), ⟨[]⟩⟩
def o506 : Obj := oT
def o507 : Obj := oF
def o508 : Obj := oT
def o509 : Obj := oT
def o510 : Obj := fC str168 str168 dNo (top 21)
def o511 : Obj := cd str168 str168 1431 1432 1433 (i 576) i0 506 507 508 509 510 1434 1435
def o512 : Obj := fF str168 str168 dNo (top 21) (.str str162 1366) 511
def o513 : Obj := oT
def o514 : Obj := oF
def o515 : Obj := oT
def o516 : Obj := oT
def o517 : Obj := fC str169 str169 dNo (top 22)
def o518 : Obj := cd str169 str169 1437 1438 1439 (i 578) i0 513 514 515 516 517 1440 1441
def o519 : Obj := fF str169 str169 dNo (top 22) (.str str162 1366) 518
def o520 : Obj := oT
def o521 : Obj := oF
def o522 : Obj := tu [.str str170 1446]
def o523 : Obj := oT
def o524 : Obj := fC str171 str171 (dA (top 23)) (top 23)
def o525 : Obj := cd str171 str171 1443 1444 1445 (i 580) (i 1) 520 521 522 523 524 1447 1448
def o526 : Obj := fF str171 str171 (dA (top 23)) (top 23) (.str str162 1366) 525
def TB24 : BT := n (boot_o_0 P) (n (boot_o_1 P) (n (o3_20 P) (n (boot_o_7 P) (n o15 (n o31 (n o63 (n o127 (n o255 (lf o511) z) (lf (o383 P))) (n o191 (lf (o319 P)) (lf o447))) (n o95 (n o159 (lf o287) (lf (o415 P))) (n o223 (lf (o351 P)) (lf o479)))) (n o47 (n o79 (n o143 (lf o271) (lf (o399 P))) (n o207 (lf (o335 P)) (lf o463))) (n o111 (n o175 (lf o303) (lf o431)) (n o239 (lf (o367 P)) (lf o495))))) (n o23 (n o39 (n o71 (n o135 (n o263 (lf o519) z) (lf o391)) (n o199 (lf (o327 P)) (lf (o455 P)))) (n o103 (n o167 (lf (o295 P)) (lf o423)) (n (oset231 P) (lf o359) (lf o487)))) (n o55 (n o87 (n o151 (lf o279) (lf o407)) (n o215 (lf o343) (lf o471))) (n o119 (n o183 (lf (o311 P)) (lf o439)) (n o247 (lf o375) (lf o503)))))) (n o11 (n o19 (n o35 (n o67 (n o131 (n o259 (lf o515) z) (lf (o387 P))) (n o195 (lf (o323 P)) (lf o451))) (n o99 (n o163 (lf (o291 P)) (lf (o419 P))) (n o227_10 (lf (o355 P)) (lf o483)))) (n o51 (n o83 (n o147 (lf o275) (lf (o403 P))) (n o211 (lf (o339 P)) (lf o467))) (n o115 (n o179 (lf (o307 P)) (lf o435)) (n o243 (lf (o371 P)) (lf o499))))) (n o27 (n o43 (n o75 (n o139 (n o267 (lf o523) z) (lf o395)) (n o203 (lf o331) (lf o459))) (n o107 (n o171 (lf o299) (lf (o427 P))) (n o235 (lf (o363 P)) (lf o491)))) (n o59 (n o91 (n o155 (lf (o283 P)) (lf (o411 P))) (n o219 (lf (o347 P)) (lf o475))) (n o123 (n o187 (lf o315) (lf o443)) (n o251 (lf (o379 P)) (lf o507))))))) (n (boot_o_5 P) (n (boot_o_9 P) (n o17 (n o33 (n o65 (n o129 (n o257 (lf o513) z) (lf (o385 P))) (n o193 (lf (o321 P)) (lf (o449 P)))) (n o97 (n o161 (lf (o289 P)) (lf (o417 P))) (n (o225_18 P) (lf (o353 P)) (lf o481)))) (n o49 (n o81 (n o145 (lf o273) (lf o401)) (n o209 (lf o337) (lf o465))) (n o113 (n o177 (lf (o305 P)) (lf o433)) (n o241 (lf (o369 P)) (lf o497))))) (n o25 (n o41 (n o73 (n o137 (n o265 (lf o521) z) (lf o393)) (n o201 (lf (o329 P)) (lf o457))) (n o105 (n o169 (lf (o297 P)) (lf (o425 P))) (n (oset233 P) (lf (o361 P)) (lf o489)))) (n o57 (n o89 (n o153 (lf o281) (lf (o409 P))) (n (o217 P) (lf (o345 P)) (lf o473))) (n o121 (n o185 (lf (o313 P)) (lf o441)) (n o249 (lf (o377 P)) (lf o505)))))) (n o13 (n o21 (n o37 (n o69 (n o133 (n o261 (lf o517) z) (lf (o389 P))) (n o197_18 (lf o325) (lf o453))) (n o101 (n o165 (lf o293) (lf (o421 P))) (n o229 (lf (o357 P)) (lf o485)))) (n o53 (n o85 (n o149 (lf o277) (lf (o405 P))) (n o213 (lf (o341 P)) (lf o469))) (n o117 (n o181 (lf o309) (lf o437)) (n o245 (lf (o373 P)) (lf o501))))) (n o29 (n o45 (n o77 (n o141 (n o269 (lf o525) z) (lf (o397 P))) (n o205 (lf (o333 P)) (lf o461))) (n o109 (n o173 (lf o301) (lf o429)) (n o237 (lf o365) (lf o493)))) (n o61 (n o93 (n o157 (lf (o285 P)) (lf o413)) (n o221 (lf o349) (lf o477))) (n o125 (n o189 (lf (o317 P)) (lf o445)) (n o253 (lf o381) (lf o509)))))))) (n (o2 P) (n (boot_o_4 P) (n (boot_o_8 P) (n o16 (n o32 (n o64 (n o128 (n o256 (lf o512) z) (lf o384)) (n o192 (lf o320) (lf o448))) (n o96 (n o160 (lf (o288 P)) (lf o416)) (n o224 (lf o352) (lf o480)))) (n o48 (n o80 (n o144 (lf o272) (lf (o400 P))) (n o208 (lf (o336 P)) (lf o464))) (n o112 (n o176 (lf (o304 P)) (lf o432)) (n o240 (lf o368) (lf o496))))) (n (o24 P) (n o40 (n o72 (n o136 (n o264 (lf o520) z) (lf (o392 P))) (n o200 (lf o328) (lf o456))) (n o104 (n o168 (lf o296) (lf (o424 P))) (n (oset232 P) (lf (o360 P)) (lf o488)))) (n o56 (n o88 (n o152 (lf o280) (lf (o408 P))) (n o216 (lf (o344 P)) (lf o472))) (n o120 (n o184 (lf o312) (lf o440)) (n o248 (lf (o376 P)) (lf o504)))))) (n o12_20 (n o20 (n o36 (n o68 (n o132 (n o260 (lf o516) z) (lf o388)) (n (o196 P) (lf (o324 P)) (lf o452))) (n o100 (n o164 (lf (o292 P)) (lf o420)) (n o228 (lf o356) (lf o484)))) (n o52 (n o84 (n o148 (lf o276) (lf o404)) (n o212 (lf o340) (lf (o468 P)))) (n o116 (n o180 (lf (o308 P)) (lf (o436 P))) (n o244 (lf o372) (lf o500))))) (n o28 (n o44 (n o76 (n o140 (n o268 (lf o524) z) (lf (o396 P))) (n (o204 P) (lf (o332 P)) (lf o460))) (n o108 (n o172 (lf (o300 P)) (lf o428)) (n o236 (lf (o364 P)) (lf o492)))) (n o60 (n o92 (n o156 (lf o284) (lf (o412 P))) (n o220 (lf (o348 P)) (lf o476))) (n o124 (n o188 (lf (o316 P)) (lf o444)) (n o252 (lf (o380 P)) (lf o508))))))) (n (boot_o_6 P) (n (boot_o_10 P) (n o18 (n o34 (n o66 (n o130 (n o258 (lf o514) z) (lf o386)) (n o194 (lf o322) (lf o450))) (n o98 (n o162 (lf o290) (lf o418)) (n o226 (lf o354) (lf o482)))) (n o50 (n o82 (n o146 (lf o274) (lf (o402 P))) (n o210 (lf (o338 P)) (lf o466))) (n o114 (n o178 (lf o306) (lf o434)) (n o242 (lf o370) (lf o498))))) (n o26 (n o42 (n o74 (n o138 (n o266 (lf o522) z) (lf (o394 P))) (n o202 (lf (o330 P)) (lf o458))) (n o106 (n o170 (lf (o298 P)) (lf o426)) (n o234 (lf o362) (lf o490)))) (n o58 (n o90 (n o154 (lf o282) (lf o410)) (n o218 (lf o346) (lf o474))) (n o122 (n o186 (lf (o314 P)) (lf (o442 P))) (n o250 (lf o378) (lf o506)))))) (n o14 (n o22 (n o38 (n o70 (n o134 (n o262 (lf o518) z) (lf (o390 P))) (n o198 (lf (o326 P)) (lf o454))) (n o102 (n o166 (lf (o294 P)) (lf (o422 P))) (n (oset230 P) (lf (o358 P)) (lf o486)))) (n o54 (n o86 (n o150 (lf o278) (lf (o406 P))) (n o214 (lf (o342 P)) (lf o470))) (n o118 (n o182 (lf (o310 P)) (lf o438)) (n o246 (lf (o374 P)) (lf o502))))) (n o30 (n o46 (n o78 (n o142 (n o270 (lf o526) z) (lf o398)) (n o206 (lf o334) (lf (o462 P)))) (n o110 (n o174 (lf (o302 P)) (lf (o430 P))) (n o238 (lf (o366 P)) (lf o494)))) (n o62 (n o94 (n o158 (lf (o286 P)) (lf (o414 P))) (n o222 (lf (o350 P)) (lf o478))) (n o126 (n o190 (lf o318) (lf o446)) (n o254 (lf (o382 P)) (lf o510))))))))
def o3_21 : Obj := ⟨.type "dict", none, (.dict ⟨[e P str200 165 (.str str162 1366), e P str201 166 (.none), e P str202 167 (.none), e P str203 168 (.builtin "__main__.__loader__#opaque"), e P str204 169 (.none), e P str205 170 (.ref 6), e P str206 171 (.ref 4), e P str207 173 (.str str1 172), e P str208 174 (.none), e P str5 193 (.ref 21), e P str6 435 (.ref 197), e P str86 470 (.ref 218), e P str90 1305 (.ref 431), e P str159 1325 (.ref 443), e P str160 1345 (.ref 456), e P str161 1365 (.ref 469), e P str229 1369 (.str str163 1368), e P str164 1375 (.ref 479), e P str230 1387 (.ref 480), e P str231 1393 (.ref 481), e P str232 1402 (.ref 482), e P str233 1406 (.ref 483), e P str165 1412 (.ref 490), e P str166 1418 (.ref 497), e P str167 1424 (.ref 504), e P str234 1430 (.ref 505), e P str168 1436 (.ref 512), e P str169 1442 (.ref 519), e P str171 1449 (.ref 526), e P str176 1461 (.ref 533), e P str177 1469 (.ref 540), e P str178 1478 (.ref 547), e P str179 1487 (.ref 554), e P str182 1497 (.ref 561), e P str185 1507 (.ref 568), e P str187 1518 (.ref 575), e P str191 1531 (.ref 582), e P str192 1539 (.ref 589), e P str193 1545 (.ref 594), e P str198 1557 (.ref 601), e P str199 1563 (.ref 606)]⟩ 41), ⟨[]⟩⟩
def o12_21 : Obj := ⟨.none, none, (.fields ⟨[(i 1), i0, .ref 20, (i 5), i0, .ref 27, (i 203), i0, .ref 207, (i 210), i0, .ref 228, (i 555), i0, .ref 439, (i 557), i0, .ref 452, (i 559), i0, .ref 465, (i 563), i0, .ref 478, (i 569), i0, .ref 489, (i 571), i0, .ref 496, (i 573), i0, .ref 503, (i 576), i0, .ref 511, (i 578), i0, .ref 518, (i 580), i0, .ref 525, (i 582), i0, .ref 532, (i 597), i0, .ref 539, (i 601), i0, .ref 546, (i 611), i0, .ref 553, (i 616), i0, .ref 560, (i 622), i0, .ref 567, (i 636), i0, .ref 574, (i 647), i0, .ref 581, (i 663), i0, .ref 588, (i 666), i0, .ref 593, (i 676), i0, .ref 600, (i 685), i0, .ref 605]⟩), ⟨[]⟩⟩
def o527 : Obj := oT
def o528 : Obj := oF
def o529 : Obj := tu [.str str71 1453, .str str172 1454, .str str173 1455, .str str170 1456, .str str174 1457, .str str175 1458]
def o530 : Obj := oT
def o531 : Obj := fC str176 str176 (dA (top 24)) (top 24)
def o532 : Obj := cd str176 str176 1450 1451 1452 (i 582) (i 1) 527 528 529 530 531 1459 1460
def o533 : Obj := fF str176 str176 (dA (top 24)) (top 24) (.str str162 1366) 532
def o534 : Obj := oT
def o535 : Obj := oF
def o536 : Obj := tu [.str str71 1465, .str str173 1466]
def o537 : Obj := oT
def o538 : Obj := fC str177 str177 (dA (top 25)) (top 25)
def o539 : Obj := cd str177 str177 1462 1463 1464 (i 597) (i 2) 534 535 536 537 538 1467 1468
def o540 : Obj := fF str177 str177 (dA (top 25)) (top 25) (.str str162 1366) 539
def o541 : Obj := oT
def o542 : Obj := oF
def o543 : Obj := tu [.str str71 1473, .str str172 1474, .str str173 1475]
def o544 : Obj := oT
def o545 : Obj := fC str178 str178 (dA (top 26)) (top 26)
def o546 : Obj := cd str178 str178 1470 1471 1472 (i 601) (i 1) 541 542 543 544 545 1476 1477
def o547 : Obj := fF str178 str178 (dA (top 26)) (top 26) (.str str162 1366) 546
def o548 : Obj := oT
def o549 : Obj := oF
def o550 : Obj := tu [.str str71 1482, .str str173 1483, .str str4 1484]
def o551 : Obj := oT
def o552 : Obj := fC str179 str179 (dA (top 27)) (top 27)
def o553 : Obj := cd str179 str179 1479 1480 1481 (i 611) (i 2) 548 549 550 551 552 1485 1486
def o554 : Obj := fF str179 str179 (dA (top 27)) (top 27) (.str str162 1366) 553
def o555 : Obj := oT
def o556 : Obj := oF
def o557 : Obj := tu [.str str71 1491, .str str180 1492, .str str181 1493, .str str148 1494]
def o558 : Obj := oT
def o559 : Obj := fC str182 str182 (dA (top 28)) (top 28)
def o560 : Obj := cd str182 str182 1488 1489 1490 (i 616) (i 2) 555 556 557 558 559 1495 1496
def o561 : Obj := fF str182 str182 (dA (top 28)) (top 28) (.str str162 1366) 560
def o562 : Obj := oT
def o563 : Obj := oF
def o564 : Obj := tu [.str str71 1501, .str str183 1502, .str str148 1503, .str str184 1504]
def o565 : Obj := oT
def o566 : Obj := fC str185 str185 (dA (top 29)) (top 29)
def o567 : Obj := cd str185 str185 1498 1499 1500 (i 622) (i 2) 562 563 564 565 566 1505 1506
def o568 : Obj := fF str185 str185 (dA (top 29)) (top 29) (.str str162 1366) 567
def o569 : Obj := oT
def o570 : Obj := oF
def o571 : Obj := tu [.str str71 1511, .str str183 1512, .str str148 1513, .str str184 1514, .str str186 1515]
def o572 : Obj := oT
def o573 : Obj := fC str187 str187 (dA (top 30)) (top 30)
def o574 : Obj := cd str187 str187 1508 1509 1510 (i 636) (i 2) 569 570 571 572 573 1516 1517
def o575 : Obj := fF str187 str187 (dA (top 30)) (top 30) (.str str162 1366) 574
def o576 : Obj := oT
def o577 : Obj := oF
def o578 : Obj := tu [.str str71 1522, .str str183 1523, .str str188 1524, .str str148 1525, .str str184 1526, .str str189 1527, .str str190 1528]
def o579 : Obj := oT
def o580 : Obj := fC str191 str191 (dA (top 31)) (top 31)
def o581 : Obj := cd str191 str191 1519 1520 1521 (i 647) (i 3) 576 577 578 579 580 1529 1530
def o582 : Obj := fF str191 str191 (dA (top 31)) (top 31) (.str str162 1366) 581
def o583 : Obj := oT
def o584 : Obj := oF
def o585 : Obj := tu [.str str71 1535, .str str184 1536]
def o586 : Obj := oT
def o587 : Obj := fC str192 str192 (dA (top 32)) (top 32)
def o588 : Obj := cd str192 str192 1532 1533 1534 (i 663) (i 1) 583 584 585 586 587 1537 1538
def o589 : Obj := fF str192 str192 (dA (top 32)) (top 32) (.str str162 1366) 588
def o590 : Obj := oT
def o591 : Obj := oF
def o592 : Obj := fC str193 str193 (dA (top 33)) (top 33)
def o593 : Obj := ⟨.type "code", none, (.fields ⟨[.str str193 1540, .str str193 1541, .str str1 1542, (i 666), (i 1), i0, i0, (i 3), .ref 590, .bool true, (i 181), .ref 591, .none, .none, .none, .ref 592, (i 1543), (i 666), .str str1 1544]⟩), ⟨[]⟩⟩
def o594 : Obj := fF str193 str193 (dA (top 33)) (top 33) (.str str162 1366) 593
def o595 : Obj := oT
def o596 : Obj := oF
def o597 : Obj := tu [.str str194 1549, .str str195 1550, .str str71 1551, .str str196 1552, .str str4 1553, .str str197 1554]
def o598 : Obj := oT
def o599 : Obj := fC str198 str198 (dA (top 34)) (top 34)
def o600 : Obj := cd str198 str198 1546 1547 1548 (i 676) (i 2) 595 596 597 598 599 1555 1556
def o601 : Obj := fF str198 str198 (dA (top 34)) (top 34) (.str str162 1366) 600
def o602 : Obj := oT
def o603 : Obj := oF
def o604 : Obj := fC str199 str199 (dA (top 35)) (top 35)
def o605 : Obj := ⟨.type "code", none, (.fields ⟨[.str str199 1558, .str str199 1559, .str str1 1560, (i 685), (i 1), i0, i0, (i 3), .ref 602, .bool true, (i 181), .ref 603, .none, .none, .none, .ref 604, (i 1561), (i 685), .str str1 1562]⟩), ⟨[]⟩⟩
def o606 : Obj := fF str199 str199 (dA (top 35)) (top 35) (.str str162 1366) 605
def TB36 : BT := n (boot_o_0 P) (n (boot_o_1 P) (n (o3_21 P) (n (boot_o_7 P) (n o15 (n o31 (n o63 (n o127 (n o255 (lf o511) z) (lf (o383 P))) (n o191 (n (o319 P) (lf o575) z) (lf o447))) (n o95 (n o159 (n o287 (lf o543) z) (lf (o415 P))) (n o223 (lf (o351 P)) (lf o479)))) (n o47 (n o79 (n o143 (n o271 (lf o527) z) (lf (o399 P))) (n o207 (n (o335 P) (lf o591) z) (lf o463))) (n o111 (n o175 (n o303 (lf o559) z) (lf o431)) (n o239 (lf (o367 P)) (lf o495))))) (n o23 (n o39 (n o71 (n o135 (n o263 (lf o519) z) (lf o391)) (n o199 (n (o327 P) (lf o583) z) (lf (o455 P)))) (n o103 (n o167 (n (o295 P) (lf o551) z) (lf o423)) (n (oset231 P) (lf o359) (lf o487)))) (n o55 (n o87 (n o151 (n o279 (lf o535) z) (lf o407)) (n o215 (n o343 (lf o599) z) (lf o471))) (n o119 (n o183 (n (o311 P) (lf o567) z) (lf o439)) (n o247 (lf o375) (lf o503)))))) (n o11 (n o19 (n o35 (n o67 (n o131 (n o259 (lf o515) z) (lf (o387 P))) (n o195 (n (o323 P) (lf o579) z) (lf o451))) (n o99 (n o163 (n (o291 P) (lf o547) z) (lf (o419 P))) (n o227_10 (lf (o355 P)) (lf o483)))) (n o51 (n o83 (n o147 (n o275 (lf o531) z) (lf (o403 P))) (n o211 (n (o339 P) (lf o595) z) (lf o467))) (n o115 (n o179 (n (o307 P) (lf o563) z) (lf o435)) (n o243 (lf (o371 P)) (lf o499))))) (n o27 (n o43 (n o75 (n o139 (n o267 (lf o523) z) (lf o395)) (n o203 (n o331 (lf o587) z) (lf o459))) (n o107 (n o171 (n o299 (lf o555) z) (lf (o427 P))) (n o235 (lf (o363 P)) (lf o491)))) (n o59 (n o91 (n o155 (n (o283 P) (lf o539) z) (lf (o411 P))) (n o219 (n (o347 P) (lf o603) z) (lf o475))) (n o123 (n o187 (n o315 (lf o571) z) (lf o443)) (n o251 (lf (o379 P)) (lf o507))))))) (n (boot_o_5 P) (n (boot_o_9 P) (n o17 (n o33 (n o65 (n o129 (n o257 (lf o513) z) (lf (o385 P))) (n o193 (n (o321 P) (lf o577) z) (lf (o449 P)))) (n o97 (n o161 (n (o289 P) (lf o545) z) (lf (o417 P))) (n (o225_18 P) (lf (o353 P)) (lf o481)))) (n o49 (n o81 (n o145 (n o273 (lf o529) z) (lf o401)) (n o209 (n o337 (lf o593) z) (lf o465))) (n o113 (n o177 (n (o305 P) (lf o561) z) (lf o433)) (n o241 (lf (o369 P)) (lf o497))))) (n o25 (n o41 (n o73 (n o137 (n o265 (lf o521) z) (lf o393)) (n o201 (n (o329 P) (lf o585) z) (lf o457))) (n o105 (n o169 (n (o297 P) (lf o553) z) (lf (o425 P))) (n (oset233 P) (lf (o361 P)) (lf o489)))) (n o57 (n o89 (n o153 (n o281 (lf o537) z) (lf (o409 P))) (n (o217 P) (n (o345 P) (lf o601) z) (lf o473))) (n o121 (n o185 (n (o313 P) (lf o569) z) (lf o441)) (n o249 (lf (o377 P)) (lf o505)))))) (n o13 (n o21 (n o37 (n o69 (n o133 (n o261 (lf o517) z) (lf (o389 P))) (n o197_18 (n o325 (lf o581) z) (lf o453))) (n o101 (n o165 (n o293 (lf o549) z) (lf (o421 P))) (n o229 (lf (o357 P)) (lf o485)))) (n o53 (n o85 (n o149 (n o277 (lf o533) z) (lf (o405 P))) (n o213 (n (o341 P) (lf o597) z) (lf o469))) (n o117 (n o181 (n o309 (lf o565) z) (lf o437)) (n o245 (lf (o373 P)) (lf o501))))) (n o29 (n o45 (n o77 (n o141 (n o269 (lf o525) z) (lf (o397 P))) (n o205 (n (o333 P) (lf o589) z) (lf o461))) (n o109 (n o173 (n o301 (lf o557) z) (lf o429)) (n o237 (lf o365) (lf o493)))) (n o61 (n o93 (n o157 (n (o285 P) (lf o541) z) (lf o413)) (n o221 (n o349 (lf o605) z) (lf o477))) (n o125 (n o189 (n (o317 P) (lf o573) z) (lf o445)) (n o253 (lf o381) (lf o509)))))))) (n (o2 P) (n (boot_o_4 P) (n (boot_o_8 P) (n o16 (n o32 (n o64 (n o128 (n o256 (lf o512) z) (lf o384)) (n o192 (n o320 (lf o576) z) (lf o448))) (n o96 (n o160 (n (o288 P) (lf o544) z) (lf o416)) (n o224 (lf o352) (lf o480)))) (n o48 (n o80 (n o144 (n o272 (lf o528) z) (lf (o400 P))) (n o208 (n (o336 P) (lf o592) z) (lf o464))) (n o112 (n o176 (n (o304 P) (lf o560) z) (lf o432)) (n o240 (lf o368) (lf o496))))) (n (o24 P) (n o40 (n o72 (n o136 (n o264 (lf o520) z) (lf (o392 P))) (n o200 (n o328 (lf o584) z) (lf o456))) (n o104 (n o168 (n o296 (lf o552) z) (lf (o424 P))) (n (oset232 P) (lf (o360 P)) (lf o488)))) (n o56 (n o88 (n o152 (n o280 (lf o536) z) (lf (o408 P))) (n o216 (n (o344 P) (lf o600) z) (lf o472))) (n o120 (n o184 (n o312 (lf o568) z) (lf o440)) (n o248 (lf (o376 P)) (lf o504)))))) (n o12_21 (n o20 (n o36 (n o68 (n o132 (n o260 (lf o516) z) (lf o388)) (n (o196 P) (n (o324 P) (lf o580) z) (lf o452))) (n o100 (n o164 (n (o292 P) (lf o548) z) (lf o420)) (n o228 (lf o356) (lf o484)))) (n o52 (n o84 (n o148 (n o276 (lf o532) z) (lf o404)) (n o212 (n o340 (lf o596) z) (lf (o468 P)))) (n o116 (n o180 (n (o308 P) (lf o564) z) (lf (o436 P))) (n o244 (lf o372) (lf o500))))) (n o28 (n o44 (n o76 (n o140 (n o268 (lf o524) z) (lf (o396 P))) (n (o204 P) (n (o332 P) (lf o588) z) (lf o460))) (n o108 (n o172 (n (o300 P) (lf o556) z) (lf o428)) (n o236 (lf (o364 P)) (lf o492)))) (n o60 (n o92 (n o156 (n o284 (lf o540) z) (lf (o412 P))) (n o220 (n (o348 P) (lf o604) z) (lf o476))) (n o124 (n o188 (n (o316 P) (lf o572) z) (lf o444)) (n o252 (lf (o380 P)) (lf o508))))))) (n (boot_o_6 P) (n (boot_o_10 P) (n o18 (n o34 (n o66 (n o130 (n o258 (lf o514) z) (lf o386)) (n o194 (n o322 (lf o578) z) (lf o450))) (n o98 (n o162 (n o290 (lf o546) z) (lf o418)) (n o226 (lf o354) (lf o482)))) (n o50 (n o82 (n o146 (n o274 (lf o530) z) (lf (o402 P))) (n o210 (n (o338 P) (lf o594) z) (lf o466))) (n o114 (n o178 (n o306 (lf o562) z) (lf o434)) (n o242 (lf o370) (lf o498))))) (n o26 (n o42 (n o74 (n o138 (n o266 (lf o522) z) (lf (o394 P))) (n o202 (n (o330 P) (lf o586) z) (lf o458))) (n o106 (n o170 (n (o298 P) (lf o554) z) (lf o426)) (n o234 (lf o362) (lf o490)))) (n o58 (n o90 (n o154 (n o282 (lf o538) z) (lf o410)) (n o218 (n o346 (lf o602) z) (lf o474))) (n o122 (n o186 (n (o314 P) (lf o570) z) (lf (o442 P))) (n o250 (lf o378) (lf o506)))))) (n o14 (n o22 (n o38 (n o70 (n o134 (n o262 (lf o518) z) (lf (o390 P))) (n o198 (n (o326 P) (lf o582) z) (lf o454))) (n o102 (n o166 (n (o294 P) (lf o550) z) (lf (o422 P))) (n (oset230 P) (lf (o358 P)) (lf o486)))) (n o54 (n o86 (n o150 (n o278 (lf o534) z) (lf (o406 P))) (n o214 (n (o342 P) (lf o598) z) (lf o470))) (n o118 (n o182 (n (o310 P) (lf o566) z) (lf o438)) (n o246 (lf (o374 P)) (lf o502))))) (n o30 (n o46 (n o78 (n o142 (n o270 (lf o526) z) (lf o398)) (n o206 (n o334 (lf o590) z) (lf (o462 P)))) (n o110 (n o174 (n (o302 P) (lf o558) z) (lf (o430 P))) (n o238 (lf (o366 P)) (lf o494)))) (n o62 (n o94 (n o158 (n (o286 P) (lf o542) z) (lf (o414 P))) (n o222 (n (o350 P) (lf o606) z) (lf o478))) (n o126 (n o190 (n o318 (lf o574) z) (lf o446)) (n o254 (lf (o382 P)) (lf o510))))))))
end
end
end
section
open PySem PySem.W PyProof.Rows
set_option maxHeartbeats 0
noncomputable abbrev env0 : Env := { scope := prg.main.scope, locals := mainNs, globals := mainNs, cells := [], code := .ref 13, frame := some 14 }
noncomputable def body0 : List Stmt := prg.main.body
noncomputable def cE : Code := .body body0 env0
noncomputable abbrev P0 : Pos := ⟨0, 0, 0, 0⟩
noncomputable abbrev B0 : List Frame := [topFrame P0]
noncomputable abbrev envG : Env := { scope := dS (top 6), locals := 225, globals := mainNs, cells := [], qual := s [71, 101, 114, 109, 97, 110, 83, 116, 101, 109, 109, 101, 114, 46], code := .ref 228, frame := some 229 }
noncomputable def bodyG : List Stmt := clsBody (top 6)
noncomputable def cG : Code := .body bodyG envG
noncomputable abbrev st (T : BT) (n k : Nat) (os : OsState) : SharedT := ⟨T, n, {}, #[], {}, k, os⟩
noncomputable abbrev B2 (k1 : Result -> Sem PySem.Fin) : List Frame := [.ret k1 none false [.ref 197, .ref 223, .ref 223, .ref 225, .ref 229] cE ⟨210, 0, 554, 71⟩ [], topFrame P0]
section
variable {w : World} {env : Env} {B : List Frame}
theorem piece_appB (hB : splitAtGen B = none) {n N : Nat} {s s' r : Shared} {l rest : List Stmt} {c : Code} {pos p' : Pos} (h : segRun treeTable prg w 11 (some (.ref 6)) B.length n s (piecesOf l env c pos B) = some (.next, s', c, p'))
    (k : tR w N s' (restOf rest env c p' B) = some r) : tR w (n + N) s (restOf (l ++ rest) env c pos B) = some r := by
  obtain ⟨a, ha, hN⟩ := seg_top (res := id) (K' := fun f => match f with | .next => (execs rest env).wrap doneF (leaveH env) id id | f => doneF f) (H' := leaveH env) (B := B) hB n s (piecesOf l env c pos B)
    ⟨(execs l env).wrap (fun f => match f with | .next => (execs rest env).wrap doneF (leaveH env) id id | f => doneF f) (leaveH env) id id, c, pos, B⟩ _ _ _ _ ⟨rfl, rfl, .inl ⟨rfl, rfl, _, rfl, rfl⟩⟩ h
  obtain rfl : a = .next := ha
  have := hN N r k
  unfold restOf
  rw [execs_app_wrap]
  exact this
theorem piece_run {n N : Nat} {s s' r : Shared} {x : Stmt} {rest : List Stmt} {c : Code} {pos p' : Pos} (h : RunsX w (exec x env) s pos n .next s' p')
    (k : tR w N s' (restOf rest env c p' B) = some r) : tR w (n + N) s (restOf (x :: rest) env c pos B) = some r := by
  unfold restOf
  rw [execs_cons_wrap]
  exact h _ _ _ _ c B N r k
noncomputable def goT (w : World) : Nat -> SharedT -> Thread -> Option (SharedT × Thread)
  | 0, s, t => some (s, t)
  | n + 1, s, t => match through t, stepOk 11 (some (.ref 6)) t, stepT (denote treeTable) prg w s t with
    | false, true, some (s', t') => goT w n s' t'
    | _, _, _ => none
set_option tactic.hygienic true in
theorem goT_run : ∀ {n N : Nat} {s s' : SharedT} {r : Shared} {t t' : Thread}, goT w n s t = some (s', t') -> tR w N s'.abs t' = some r -> tR w (n + N) s.abs t = some r
  | 0, N, s, s', r, t, t', h, k => by
    obtain ⟨rfl, rfl⟩ : s = s' /\ t = t' := by simpa [goT] using h
    rw [Nat.zero_add]; exact k
  | n + 1, N, s, s', r, t, t', h, k => by
    unfold goT at h
    split at h
    · rename_i s1 t1 h1 h2 h3
      rw [show n + 1 + N = 1 + (n + N) by lia]
      exact RunsX.go1 h1 h2 (stepT_spec h3) (goT_run h k)
    · cases h
end
theorem gA2 (w : World) (os : OsState) : segRunT treeTable prg w 11 (some (.ref 6)) 1 39 (st (Ta w.params) 15 187 os) (piecesOf [top 0, top 1] env0 cE P0 B0) = some (.next, st (TA2 w.params) 22 196 os, cE, ⟨4, 0, 4, 8⟩) := by
  rw [Fast.te10110043849684766642, Fast.te14364793385576792824]; kernel_rfl
theorem gA3 (w : World) (os : OsState) : segRunT treeTable prg w 11 (some (.ref 6)) 1 984 (st (TA2 w.params) 22 196 os) (piecesOf [top 2] env0 cE ⟨4, 0, 4, 8⟩ B0) = some (.next, st (TA3 w.params) 202 436 os, cE, ⟨5, 0, 201, 54⟩) := by
  rw [Fast.te10110043849684766642, Fast.te14364793385576792824]; kernel_rfl
theorem gA6 (w : World) (os : OsState) : segRunT treeTable prg w 11 (some (.ref 6)) 1 245 (st (TA3 w.params) 202 436 os) (piecesOf [top 3, top 4, top 5] env0 cE ⟨5, 0, 201, 54⟩ B0) = some (.next, st (TA6 w.params) 223 473 os, cE, ⟨209, 0, 209, 8⟩) := by
  rw [Fast.te10110043849684766642, Fast.te14364793385576792824]; kernel_rfl
theorem gS13 (w : World) (os : OsState) (k1 : Result -> Sem PySem.Fin) : segRunT treeTable prg w 11 (some (.ref 6)) 2 255 (st (TS4 w.params) 234 575 os) (piecesOf [sub 6 4, sub 6 5, sub 6 6, sub 6 7, sub 6 8, sub 6 9, sub 6 10, sub 6 11, sub 6 12] envG cG ⟨214, 4, 214, 15⟩ (B2 k1)) = some (.next, st (TS13 w.params) 283 652 os, cG, ⟨532, 4, 546, 19⟩) := by
  rw [Fast.te10110043849684766642, Fast.te14364793385576792824]; kernel_rfl
theorem gS14 (w : World) (os : OsState) (k1 : Result -> Sem PySem.Fin) : segRunT treeTable prg w 11 (some (.ref 6)) 2 1012 (st (TS13 w.params) 283 652 os) (piecesOf [sub 6 13] envG cG ⟨532, 4, 546, 19⟩ (B2 k1)) = some (.next, st (TS14 w.params) 302 733 os, cG, ⟨547, 4, 547, 7⟩) := by
  rw [Fast.te10110043849684766642, Fast.te14364793385576792824]; kernel_rfl
theorem gS15 (w : World) (os : OsState) (k1 : Result -> Sem PySem.Fin) : segRunT treeTable prg w 11 (some (.ref 6)) 2 1007 (st (TS14 w.params) 302 733 os) (piecesOf [sub 6 14] envG cG ⟨547, 4, 547, 7⟩ (B2 k1)) = some (.next, st (TS15 w.params) 321 813 os, cG, ⟨548, 4, 548, 7⟩) := by
  rw [Fast.te10110043849684766642, Fast.te14364793385576792824]; kernel_rfl
theorem gS16 (w : World) (os : OsState) (k1 : Result -> Sem PySem.Fin) : segRunT treeTable prg w 11 (some (.ref 6)) 2 1867 (st (TS15 w.params) 321 813 os) (piecesOf [sub 6 15] envG cG ⟨548, 4, 548, 7⟩ (B2 k1)) = some (.next, st (TS16 w.params) 355 965 os, cG, ⟨549, 4, 549, 7⟩) := by
  rw [Fast.te10110043849684766642, Fast.te14364793385576792824]; kernel_rfl
theorem gS17 (w : World) (os : OsState) (k1 : Result -> Sem PySem.Fin) : segRunT treeTable prg w 11 (some (.ref 6)) 2 887 (st (TS16 w.params) 355 965 os) (piecesOf [sub 6 16] envG cG ⟨549, 4, 549, 7⟩ (B2 k1)) = some (.next, st (TS17 w.params) 371 1041 os, cG, ⟨550, 4, 550, 7⟩) := by
  rw [Fast.te10110043849684766642, Fast.te14364793385576792824]; kernel_rfl
theorem gS18 (w : World) (os : OsState) (k1 : Result -> Sem PySem.Fin) : segRunT treeTable prg w 11 (some (.ref 6)) 2 857 (st (TS17 w.params) 371 1041 os) (piecesOf [sub 6 17] envG cG ⟨550, 4, 550, 7⟩ (B2 k1)) = some (.next, st (TS18 w.params) 387 1111 os, cG, ⟨551, 4, 551, 7⟩) := by
  rw [Fast.te10110043849684766642, Fast.te14364793385576792824]; kernel_rfl
theorem gS20 (w : World) (os : OsState) (k1 : Result -> Sem PySem.Fin) : segRunT treeTable prg w 11 (some (.ref 6)) 2 1723 (st (TS18 w.params) 387 1111 os) (piecesOf [sub 6 18, sub 6 19] envG cG ⟨551, 4, 551, 7⟩ (B2 k1)) = some (.next, st (TS20 w.params) 419 1253 os, cG, ⟨553, 4, 553, 7⟩) := by
  rw [Fast.te10110043849684766642, Fast.te14364793385576792824]; kernel_rfl
theorem gS21 (w : World) (os : OsState) (k1 : Result -> Sem PySem.Fin) : segRunT treeTable prg w 11 (some (.ref 6)) 2 522 (st (TS20 w.params) 419 1253 os) (piecesOf [sub 6 20] envG cG ⟨553, 4, 553, 7⟩ (B2 k1)) = some (.next, st (TS21 w.params) 429 1296 os, cG, ⟨554, 4, 554, 7⟩) := by
  rw [Fast.te10110043849684766642, Fast.te14364793385576792824]; kernel_rfl
theorem gB10 (w : World) (os : OsState) : segRunT treeTable prg w 11 (some (.ref 6)) 1 589 (st (TE w.params) 434 1306 os) (piecesOf [top 7, top 8, top 9] env0 cE ⟨210, 0, 554, 71⟩ B0) = some (.next, st (TB10 w.params) 473 1366 os, cE, ⟨559, 0, 560, 8⟩) := by
  rw [Fast.te10110043849684766642, Fast.te14364793385576792824]; kernel_rfl
theorem gB24 (w : World) (os : OsState) : segRunT treeTable prg w 11 (some (.ref 6)) 1 298 (st (TB10 w.params) 473 1366 os) (piecesOf [top 10, top 11, top 12, top 13, top 14, top 15, top 16, top 17, top 18, top 19, top 20, top 21, top 22, top 23] env0 cE ⟨559, 0, 560, 8⟩ B0) = some (.next, st (TB24 w.params) 527 1450 os, cE, ⟨580, 0, 581, 67⟩) := by
  rw [Fast.te10110043849684766642, Fast.te14364793385576792824]; kernel_rfl
theorem gB36 (w : World) (os : OsState) : segRunT treeTable prg w 11 (some (.ref 6)) 1 375 (st (TB24 w.params) 527 1450 os) (piecesOf [top 24, top 25, top 26, top 27, top 28, top 29, top 30, top 31, top 32, top 33, top 34, top 35] env0 cE ⟨580, 0, 581, 67⟩ B0) = some (.next, st (TB36 w.params) 607 1564 os, cE, ⟨685, 0, 691, 70⟩) := by
  rw [Fast.te10110043849684766642, Fast.te14364793385576792824]; kernel_rfl
theorem pre0 (w : World) (os : OsState) : topGo treeTable prg w 11 (some (.ref 6)) 12 ⟨boot_heap w.params, #[], boot_drawn, boot_toks, os⟩ (topStub prg) = some ((st (Ta w.params) 15 187 os).abs, ⟨denote treeTable cE, cE, P0, B0⟩) := by kernel_rfl
theorem blk0 (w : World) (os : OsState) : segRun treeTable prg w 11 (some (.ref 6)) 1 1 (st (Ta w.params) 15 187 os).abs (blockOf body0 env0 cE P0 B0) = some (.next, (st (Ta w.params) 15 187 os).abs, cE, P0) := by kernel_rfl
noncomputable def thrG (w : World) (os : OsState) : Thread := match goT w 64 (st (TA6 w.params) 223 473 os) (restOf (body0.drop 6) env0 cE ⟨209, 0, 209, 8⟩ B0) with | some x => x.2 | none => ⟨.pure (.done .next), cE, P0, []⟩
noncomputable def k1 (w : World) (os : OsState) : Result -> Sem PySem.Fin := match (thrG w os).stack with | .ret k _ _ _ _ _ _ :: _ => k | _ => fun _ => .unsupported ""
theorem gG (w : World) (os : OsState) : goT w 64 (st (TA6 w.params) 223 473 os) (restOf (body0.drop 6) env0 cE ⟨209, 0, 209, 8⟩ B0) = some (st (TG w.params) 230 485 os, ⟨denote treeTable cG, cG, ⟨210, 0, 554, 71⟩, B2 (k1 w os)⟩) := by kernel_rfl
theorem blkG (w : World) (os : OsState) : segRun treeTable prg w 11 (some (.ref 6)) 2 1 (st (TG w.params) 230 485 os).abs (blockOf bodyG envG cG ⟨210, 0, 554, 71⟩ (B2 (k1 w os))) = some (.next, (st (TG w.params) 230 485 os).abs, cG, ⟨210, 0, 554, 71⟩) := by kernel_rfl
theorem gE (w : World) (os : OsState) : goT w 173 (st (TS21 w.params) 429 1296 os) ⟨doneF .next, cG, ⟨554, 4, 554, 7⟩, B2 (k1 w os)⟩ = some (st (TE w.params) 434 1306 os, restOf (body0.drop 7) env0 cE ⟨210, 0, 554, 71⟩ B0) := by kernel_rfl
theorem fin0 (w : World) (os : OsState) : topRun treeTable prg w 11 (some (.ref 6)) 10 (st (TB36 w.params) 607 1564 os).abs ⟨doneF .next, cE, ⟨685, 0, 691, 70⟩, B0⟩ = some (st (TB36 w.params) 607 1564 os).abs := by kernel_rfl
noncomputable def setEl (x : Stmt) : List Expr := if h : x.ctorIdx = 5 then @Stmt.Assign.elim (fun _ => List Expr) x h fun _ v _ => if h : v.ctorIdx = 7 then @Expr.Set.elim (fun _ => List Expr) v h fun l _ _ => l else [] else []
noncomputable def setNm (x : Stmt) : Str := if h : x.ctorIdx = 5 then @Stmt.Assign.elim (fun _ => Str) x h fun ts _ _ => ts.head?.elim ⟨#[]⟩ fun t => if h : t.ctorIdx = 23 then @Expr.Name.elim (fun _ => Str) t h fun n _ => n else ⟨#[]⟩ else ⟨#[]⟩
noncomputable def disp (x : Str) (np : Pos) (l : List Expr) (pos pos' : Pos) : Stmt := .Assign [.Name x np] (.Set l 0 pos) pos'
theorem sub0 : sub 6 0 = disp (setNm (sub 6 0)) ⟨211, 4, 211, 7⟩ (setEl (sub 6 0)) ⟨211, 10, 211, 58⟩ ⟨211, 4, 211, 58⟩ := by kernel_rfl
theorem run0 (w : World) (os : OsState) : RunsT w (exec (sub 6 0) envG) (st (TG w.params) 230 485 os) ⟨210, 0, 554, 71⟩ 500 .next (st (TS1 w.params) 231 504 os) ⟨211, 4, 211, 7⟩ := by
  rw [sub0]
  refine RunsX.le (disp_run (xs := xs230) (n0 := 2) (n1 := 18) (n2 := 8) (b := true) ?_ ?_ ?_ ?_ ?_ ?_ ?_ ?_ ?_ ?_) ?_
  · kernel_rfl
  · kernel_rfl
  · kernel_rfl
  · decide +kernel
  · kernel_rfl
  · intro o; kernel_rfl
  · intro o; kernel_rfl
  · decide +kernel
  · decide +kernel
  · kernel_rfl
  · decide +kernel
theorem sub1 : sub 6 1 = disp (setNm (sub 6 1)) ⟨212, 4, 212, 15⟩ (setEl (sub 6 1)) ⟨212, 18, 212, 84⟩ ⟨212, 4, 212, 84⟩ := by kernel_rfl
theorem run1 (w : World) (os : OsState) : RunsT w (exec (sub 6 1) envG) (st (TS1 w.params) 231 504 os) ⟨211, 4, 211, 7⟩ 500 .next (st (TS2 w.params) 232 531 os) ⟨212, 4, 212, 15⟩ := by
  rw [sub1]
  refine RunsX.le (disp_run (xs := xs231) (n0 := 2) (n1 := 26) (n2 := 8) (b := true) ?_ ?_ ?_ ?_ ?_ ?_ ?_ ?_ ?_ ?_) ?_
  · kernel_rfl
  · kernel_rfl
  · kernel_rfl
  · decide +kernel
  · kernel_rfl
  · intro o; kernel_rfl
  · intro o; kernel_rfl
  · decide +kernel
  · decide +kernel
  · kernel_rfl
  · decide +kernel
theorem sub2 : sub 6 2 = disp (setNm (sub 6 2)) ⟨213, 4, 213, 14⟩ (setEl (sub 6 2)) ⟨213, 17, 213, 72⟩ ⟨213, 4, 213, 72⟩ := by kernel_rfl
theorem run2 (w : World) (os : OsState) : RunsT w (exec (sub 6 2) envG) (st (TS2 w.params) 232 531 os) ⟨212, 4, 212, 15⟩ 500 .next (st (TS3 w.params) 233 554 os) ⟨213, 4, 213, 14⟩ := by
  rw [sub2]
  refine RunsX.le (disp_run (xs := xs232) (n0 := 2) (n1 := 22) (n2 := 8) (b := true) ?_ ?_ ?_ ?_ ?_ ?_ ?_ ?_ ?_ ?_) ?_
  · kernel_rfl
  · kernel_rfl
  · kernel_rfl
  · decide +kernel
  · kernel_rfl
  · intro o; kernel_rfl
  · intro o; kernel_rfl
  · decide +kernel
  · decide +kernel
  · kernel_rfl
  · decide +kernel
theorem sub3 : sub 6 3 = disp (setNm (sub 6 3)) ⟨214, 4, 214, 15⟩ (setEl (sub 6 3)) ⟨214, 18, 214, 68⟩ ⟨214, 4, 214, 68⟩ := by kernel_rfl
theorem run3 (w : World) (os : OsState) : RunsT w (exec (sub 6 3) envG) (st (TS3 w.params) 233 554 os) ⟨213, 4, 213, 14⟩ 500 .next (st (TS4 w.params) 234 575 os) ⟨214, 4, 214, 15⟩ := by
  rw [sub3]
  refine RunsX.le (disp_run (xs := xs233) (n0 := 2) (n1 := 20) (n2 := 8) (b := true) ?_ ?_ ?_ ?_ ?_ ?_ ?_ ?_ ?_ ?_) ?_
  · kernel_rfl
  · kernel_rfl
  · kernel_rfl
  · decide +kernel
  · kernel_rfl
  · intro o; kernel_rfl
  · intro o; kernel_rfl
  · decide +kernel
  · decide +kernel
  · kernel_rfl
  · decide +kernel
theorem body_eq : body0 = [top 0, top 1] ++ ([top 2] ++ ([top 3, top 4, top 5] ++ body0.drop 6)) := by kernel_rfl
theorem bodyG_eq : bodyG = sub 6 0 :: sub 6 1 :: sub 6 2 :: sub 6 3 :: ([sub 6 4, sub 6 5, sub 6 6, sub 6 7, sub 6 8, sub 6 9, sub 6 10, sub 6 11, sub 6 12] ++ ([sub 6 13] ++ ([sub 6 14] ++ ([sub 6 15] ++ ([sub 6 16] ++ ([sub 6 17] ++ ([sub 6 18, sub 6 19] ++ ([sub 6 20] ++ [])))))))) := by kernel_rfl
theorem bodyE_eq : body0.drop 7 = [top 7, top 8, top 9] ++ ([top 10, top 11, top 12, top 13, top 14, top 15, top 16, top 17, top 18, top 19, top 20, top 21, top 22, top 23] ++ ([top 24, top 25, top 26, top 27, top 28, top 29, top 30, top 31, top 32, top 33, top 34, top 35] ++ [])) := by kernel_rfl
theorem tailE (w : World) (os : OsState) : tR w (589 + (298 + (375 + 10))) (st (TE w.params) 434 1306 os).abs (restOf (body0.drop 7) env0 cE ⟨210, 0, 554, 71⟩ B0) = (some (st (TB36 w.params) 607 1564 os).abs) := by
  rw [bodyE_eq]
  refine piece_appB rfl (segRun_of (gB10 w os)) ?_
  refine piece_appB rfl (segRun_of (gB24 w os)) ?_
  refine piece_appB rfl (segRun_of (gB36 w os)) ?_
  exact fin0 w os
theorem tailG (w : World) (os : OsState) : tR w (500 + (500 + (500 + (500 + (255 + (1012 + (1007 + (1867 + (887 + (857 + (1723 + (522 + (173 + (589 + (298 + (375 + 10)))))))))))))))) (st (TG w.params) 230 485 os).abs (restOf bodyG envG cG ⟨210, 0, 554, 71⟩ (B2 (k1 w os))) = (some (st (TB36 w.params) 607 1564 os).abs) := by
  rw [bodyG_eq]
  refine piece_run (run0 w os) ?_
  refine piece_run (run1 w os) ?_
  refine piece_run (run2 w os) ?_
  refine piece_run (run3 w os) ?_
  refine piece_appB rfl (segRun_of (gS13 w os (k1 w os))) ?_
  refine piece_appB rfl (segRun_of (gS14 w os (k1 w os))) ?_
  refine piece_appB rfl (segRun_of (gS15 w os (k1 w os))) ?_
  refine piece_appB rfl (segRun_of (gS16 w os (k1 w os))) ?_
  refine piece_appB rfl (segRun_of (gS17 w os (k1 w os))) ?_
  refine piece_appB rfl (segRun_of (gS18 w os (k1 w os))) ?_
  refine piece_appB rfl (segRun_of (gS20 w os (k1 w os))) ?_
  refine piece_appB rfl (segRun_of (gS21 w os (k1 w os))) ?_
  exact goT_run (gE w os) (tailE w os)
theorem tailW (w : World) (os : OsState) : tR w 12500 (st (TG w.params) 230 485 os).abs (restOf bodyG envG cG ⟨210, 0, 554, 71⟩ (B2 (k1 w os))) = (some (st (TB36 w.params) 607 1564 os).abs) := tR_mono (tailG w os) (by decide +kernel)
theorem blkG2 (w : World) (os : OsState) : tR w (1 + 12500) (st (TG w.params) 230 485 os).abs ⟨denote treeTable cG, cG, ⟨210, 0, 554, 71⟩, B2 (k1 w os)⟩ = (some (st (TB36 w.params) 607 1564 os).abs) := by
  obtain ⟨a, ha, hN⟩ := seg_top (res := fun _ : Unit => Flow.next) (K' := fun _ => (execs bodyG envG).wrap doneF (leaveH envG) id id) (H' := Sem.raise) (B := B2 (k1 w os)) rfl 1 _ (blockOf bodyG envG cG ⟨210, 0, 554, 71⟩ (B2 (k1 w os)))
    ⟨(blockStart bodyG envG).wrap (fun _ => (execs bodyG envG).wrap doneF (leaveH envG) id id) .raise id id, cG, ⟨210, 0, 554, 71⟩, B2 (k1 w os)⟩ _ _ _ _ ⟨rfl, rfl, .inl ⟨rfl, rfl, _, rfl, rfl⟩⟩ (blkG w os)
  show tR w _ _ ⟨denote treeTable (.body bodyG envG), _, _, _⟩ = _
  rw [body_wrap]
  exact hN _ _ (tailW w os)
theorem run_all (w : World) (os : OsState) : topRun treeTable prg w 11 (some (.ref 6)) 14000 ⟨boot_heap w.params, #[], boot_drawn, boot_toks, os⟩ (topStub prg) = (some (st (TB36 w.params) 607 1564 os).abs) := by
  have h : topRun treeTable prg w 11 (some (.ref 6)) (12 + (1 + (39 + (984 + (245 + (64 + (1 + 12500))))))) ⟨boot_heap w.params, #[], boot_drawn, boot_toks, os⟩ (topStub prg) = (some (st (TB36 w.params) 607 1564 os).abs) := by
    refine go_top (pre0 w os) ?_
    refine piece_block (blk0 w os) ?_
    rw [show restOf body0 env0 cE P0 [topFrame P0] = restOf ([top 0, top 1] ++ ([top 2] ++ ([top 3, top 4, top 5] ++ body0.drop 6))) env0 cE P0 [topFrame P0] from congrArg (fun b => restOf b env0 cE P0 [topFrame P0]) body_eq]
    refine piece_appB rfl (segRun_of (gA2 w os)) ?_
    refine piece_appB rfl (segRun_of (gA3 w os)) ?_
    refine piece_appB rfl (segRun_of (gA6 w os)) ?_
    exact goT_run (gG w os) (blkG2 w os)
  exact tR_mono h (by decide +kernel)
noncomputable def H1 (P : Params) : Heap := absHeap (TB36 P) 607 {}
theorem H1_eq (P : Params) : absHeap (TB36 P) 607 {} = H1 P := rfl
abbrev lw : OpenLaw := PySem.Challenge.rw_ip0005_01
noncomputable abbrev qv : Program := { prg with main := { prg.main with body := [top 35] } }
noncomputable def loose1 : List Str := (["_wall", "BaseStemmer", "Among", "GermanStemmer", "lab0", "lab1", "lab2", "_law_letters", "_law_texts", "_law_ends_first", "_law_ends_second", "_law_ends_third", "_law_ends_fourth", "_law_before_s", "_law_before_st", "_law_before_et", "_law_keeps_et", "_law_umlaut", "_law_back", "_law_vowel", "_law_marked", "_law_pair", "_law_joined", "_law_past", "_law_end", "_law_first", "_law_second", "_law_third", "_law_fourth", "_law_stem", "_law_drawn"] : List Str)
theorem size0 (w : World) : ((boot_heap w.params).isNs mainGlobals && (#[] : Array GenState).size == 0, (boot_heap w.params).objs.size, (boot_heap w.params).nsMap mainGlobals "__annotations__") = (true, 11, some (.ref 6)) := by kernel_rfl
theorem look1 (w : World) : staticsOk (importedModules prg.main.body) (boot_heap w.params) (H1 w.params) = true := by kernel_rfl
theorem look2 (w : World) : namesBound prg (H1 w.params) = true := by kernel_rfl
theorem look3 (w : World) (os : OsState) : gensDone ⟨H1 w.params, #[], {}, 1564, os⟩ = true := by kernel_rfl
theorem look4 (w : World) : laidKept (boot_heap w.params) (H1 w.params) = true := by kernel_rfl
theorem seen1 (w : World) (os : OsState) : openSeen qv loose1 (importedModules prg.main.body) (fun _ => true) true ⟨H1 w.params, #[], {}, 1564, os⟩ = openGood qv loose1 := by
  rw [Fast.te4187177175401517315]; kernel_rfl
noncomputable def Left (P : Params) (h : Heap) : Prop := ∀ a, a < 607 -> ∀ o, (TB36 P).get a = some o -> alive o = some o -> h.get? a = some o
noncomputable def hkL : Hook where
  α := List (Option Obj)
  obs := fun s => (List.range 607).map s.heap.get?
  val := fun w => (List.range 607).map (absHeap (TB36 w.params) 607 {}).get?
  says := fun w h => Left w.params h
  of := fun w s e a ha o ho hl => by
    have h1 := List.map_inj_left.mp e a (List.mem_range.mpr ha)
    rw [h1, abs_get ha ho, hl]
  keeps := fun w h h' x k a ha o ho hl => k _ _ (x a ha o ho hl)
theorem left1 : LeftO prg qv loose1 (fun _ => true) hkL.obs hkL.val 14000 := by
  refine LeftO.of_pieces (H₀ := boot_heap) (H₁ := H1) (gs₀ := #[]) (gs₁ := #[]) (d₀ := boot_drawn) (d₁ := {}) (k₀ := boot_toks) (k₁ := 1564) (m₀ := 11) (ann := some (.ref 6)) (M := 14000) ?_ size0 ?_ (by decide +kernel) ?_
  · exact boot_open (by kernel_rfl) (by decide +kernel) (fun s => by kernel_rfl)
  · intro w os
    have := run_all w os
    rw [show (⟨H1 w.params, #[], {}, 1564, os⟩ : Shared) = (st (TB36 w.params) 607 1564 os).abs from by
      show _ = (⟨absHeap (TB36 w.params) 607 {}, #[], {}, 1564, os⟩ : Shared); rw [H1_eq]]
    exact this
  · intro w
    funext os
    refine Prod.ext ?_ (Prod.ext (seen1 w os) ?_)
    · show (_ && _ && _ && _) = true
      rw [look1, look2, look3, look4]; rfl
    · show (List.range 607).map (H1 w.params).get? = (List.range 607).map (absHeap (TB36 w.params) 607 {}).get?
      rw [H1_eq]
theorem head.tw5873123813872182296 : True := trivial
set_option tactic.hygienic true in
set_option Elab.async true in
theorem head (call : ∀ d kwd, defOf qv (PySem.Str.ofString "law") = some (d, kwd) -> WalkO qv loose1 (fun _ _ => True) (fun w h => Left w.params h) lw.row.toRowW d kwd fun f vs => PySem.call f vs) : lw.Holds := by
  o_law
  rename_i said
  exact PySem.W.holds_open (r := lw.row) (q := qv) (loose := loose1) (Xt := fun _ => true) (XP := fun _ _ => True) (Yf := hkL.obs) (Ya := hkL.val) (YP := fun w h => Left w.params h) (N := 14000)
    left1 hkL.of hkL.keeps (fun _ _ => trivial) (fun _ _ _ _ _ => trivial) (by rfl) (by rfl) (by rfl) (fun s e => recFacts_nil rfl) rfl said (by decide +kernel) ⟨rfl, rfl, rfl, rfl, rfl, by decide +kernel⟩ (by w_witness2) (call _ _ (by rfl))
end
section
open PySem
theorem mid_lt {i j : Nat} (h : i < j) : i + (j - i) / 2 < j := Nat.add_lt_of_lt_sub' (Nat.div_lt_self (Nat.sub_pos_of_lt h) (by decide))
theorem mid_dn {i j : Nat} (h : 2 <= j - i) : 2 * (i + (j - i) / 2 - i) + 1 < 2 * (j - i) + 1 := by
  rw [Nat.add_sub_cancel_left]
  exact Nat.succ_lt_succ (Nat.mul_lt_mul_of_pos_left (Nat.div_lt_self (Nat.lt_of_lt_of_le (by decide) h) (by decide)) (by decide))
theorem mid_sub {i j : Nat} : j - (i + (j - i) / 2) = (j - i) - (j - i) / 2 := Nat.sub_add_eq j i _
theorem mid_up {i j : Nat} (h : 2 <= j - i) : 2 * (j - (i + (j - i) / 2)) + 1 < 2 * (j - i) + 1 := by
  rw [mid_sub]
  exact Nat.succ_lt_succ (Nat.mul_lt_mul_of_pos_left (Nat.sub_lt (Nat.lt_of_lt_of_le (by decide) h) (Nat.div_pos h (by decide))) (by decide))
theorem mid_gap {i j : Nat} (h : i + (j - i) / 2 + 1 < j) : 2 <= j - (i + (j - i) / 2) := Nat.le_sub_of_add_le' h
theorem ar_pred {n : Nat} (h : n ≠ 0) : (n : Int) - 1 = ((n - 1 : Nat) : Int) := (Int.ofNat_sub (Nat.pos_of_ne_zero h)).symm
theorem ar_sub {a b : Nat} (h : b <= a) : (a : Int) - b = ((a - b : Nat) : Int) := (Int.ofNat_sub h).symm
theorem ar_to (n p : Nat) : ((n : Int) - 1 - p).toNat = n - 1 - p := by
  rw [Int.sub_sub, show ((1 : Int) + (p : Int)) = ((1 + p : Nat) : Int) from rfl, Int.toNat_sub, Nat.sub_add_eq]
theorem ar_min {i j : Nat} : (if (j : Int) < i then (j : Int) else i) = ((min i j : Nat) : Int) := by
  split
  · rw [Nat.min_eq_right (Nat.le_of_lt (Int.ofNat_lt.mp ‹_›))]
  · rw [Nat.min_eq_left (Nat.le_of_not_lt fun q => ‹¬ _› (Int.ofNat_lt.mpr q))]
theorem ar_pred2 {c m : Nat} (h : m < c) : (c : Int) - 1 - m = ((c - 1 - m : Nat) : Int) := by
  rw [Int.sub_sub, show ((1 : Int) + (m : Int)) = ((1 + m : Nat) : Int) from rfl, ar_sub (by rw [Nat.add_comm]; exact h), Nat.sub_add_eq]
theorem ar_shift {c s k b : Nat} (h1 : b <= k) (h2 : k <= c) : (c : Int) + ((s : Int) - ((k : Int) - b)) = ((c + s - (k - b) : Nat) : Int) := by
  rw [ar_sub h1, Int.ofNat_sub (Nat.le_trans (Nat.sub_le ..) (Nat.le_trans h2 (Nat.le_add_right ..))), Int.natCast_add, Int.add_sub_assoc]
theorem ar_to1 (n p : Nat) : ((n : Int) - 1 - p + 1).toNat = n - p := by rw [Int.sub_sub, Int.add_comm 1, <- Int.sub_sub, Int.sub_add_cancel, Int.toNat_sub]
structure Amg where
  s : List Nat
  sub : Int
  res : Int
inductive MV where
  | none
  | bool (b : Bool)
  | int (i : Int)
  | str (l : List Nat)
  | obj
  | strs (l : List (List Nat))
  | ints (l : List Int)
  | tab (l : List Amg)
  | amg (a : Amg)
  | set (l : List Nat)
  | dict (l : List (List Nat × List Nat))
set_option genInjectivity false in
set_option genSizeOf false in
structure Ob where
  cur : Option (List Nat)
  c : Option Int
  l : Option Int
  lb : Option Int
  bra : Option Int
  ket : Option Int
  p1 : Int
  p2 : Int
noncomputable def Ob.lst (o : Ob) : List (Option MV) := [o.cur.map .str, o.c.map .int, o.l.map .int, o.lb.map .int, o.bra.map .int, o.ket.map .int, some (.int o.p1), some (.int o.p2)]
noncomputable def Ob.get (o : Ob) (f : Nat) : Option MV := (o.lst[f]?).getD Option.none
noncomputable def Ob.putI (o : Ob) (f : Nat) (i : Int) : Option Ob := ([Option.none, some { o with c := some i }, some { o with l := some i }, some { o with lb := some i }, some { o with bra := some i }, some { o with ket := some i }, some { o with p1 := i }, some { o with p2 := i }][f]?).getD Option.none
noncomputable def Ob.put (o : Ob) (f : Nat) (x : MV) : Option Ob := match x with
  | .str l => if f = 0 then some { o with cur := some l } else Option.none
  | .int i => o.putI f i
  | _ => Option.none
structure St where
  loc : List (Nat × MV)
  ob : Option Ob
noncomputable def upd (k : Nat) (v : MV) : List (Nat × MV) -> List (Nat × MV)
  | [] => [(k, v)]
  | (a, b) :: r => if a = k then (a, v) :: r else (a, b) :: upd k v r
inductive Bop where
  | add | sub | mod | shr
inductive Cop where
  | eq | ne | lt | le | gt | ge | isin | notin
set_option genInjectivity false in
set_option genSizeOf false in
inductive E where
  | none
  | bool (b : Bool)
  | int (i : Int)
  | neg1
  | str (l : List Nat)
  | var (v : Nat)
  | fld (f : Nat)
  | cattr (k : Nat)
  | glob (k : Nat)
  | amgOf (v : Nat) (f : Nat)
  | bin (op : Bop) (a b : E)
  | cmp (op : Cop) (a b : E)
  | bop (isAnd : Bool) (a b : E)
  | not (a : E)
  | ite (t a b : E)
  | idx (a i : E)
  | slice (a lo hi : E)
  | sliceLo (a lo : E)
  | sliceHi (a hi : E)
  | len (a : E)
  | ord (a : E)
  | min (a b : E)
  | max (a b : E)
  | call0 (f : Nat)
  | call1 (f : Nat) (a : E)
  | call2 (f : Nat) (a b : E)
  | call3 (f : Nat) (a b c : E)
  | meth0 (f : Nat)
  | meth1 (f : Nat) (a : E)
  | meth3 (f : Nat) (a b c : E)
  | ometh1 (v : Nat) (f : Nat) (a : E)
  | endsw (a b : E)
  | strs (l : List (List Nat))
  | dict (l : List (List Nat × List Nat))
  | list2 (a b : E)
  | comp (elt : E) (v : Nat) (src : E)
  | join (a : E)
noncomputable def E.noComp : E -> Bool
  | .comp .. => false
  | _ => true
set_option genInjectivity false in
set_option genSizeOf false in
inductive S where
  | pass
  | asg (v : Nat) (e : E)
  | asgF (f : Nat) (e : E)
  | aug (v : Nat) (op : Bop) (e : E)
  | augF (f : Nat) (op : Bop) (e : E)
  | ite (t : E) (a b : List S)
  | wh (t : E) (a : List S)
  | forR (v : Nat) (lo hi : E) (a : List S)
  | forR1 (v : Nat) (hi : E) (a : List S)
  | forD (v : Nat) (hi : E) (a : List S)
  | forL (v : Nat) (e : E) (a : List S)
  | tryE (a : List S) (k : Nat)
  | raise (k : Nat)
  | ret (e : E)
  | brk
  | cont
  | assert (e : E)
  | ex (e : E)
inductive Fl where
  | next
  | brk
  | cont
  | ret (v : MV)
  | exc (k : Nat)
set_option genInjectivity false in
set_option genSizeOf false in
structure Stat where
  cattr : Nat -> Option MV
  glob : Nat -> Option MV
set_option genInjectivity false in
set_option genSizeOf false in
structure Orc where
  lv : Nat
  ans : Nat -> List MV -> Option Ob -> Option (MV × Option Ob)
noncomputable def limS : Nat := 4096
noncomputable def limI : Int := 1000000
noncomputable def ssub (l : List Nat) (a b : Nat) : List Nat := (l.drop a).take (b - a)
noncomputable def small (i : Int) : Prop := -limI <= i /\ i <= limI
noncomputable def binI (op : Bop) (x y : Int) (k : MV -> Prop) : Prop := match op with
  | .add => k (.int (x + y))
  | .sub => k (.int (x - y))
  | .shr => y = 1 /\ k (.int (Int.fdiv x 2))
  | .mod => (y = 86 \/ y = 2) /\ k (.int (Int.fmod x y))
noncomputable def binM (op : Bop) (a b : MV) (k : MV -> Prop) : Prop := match a with
  | .int x => match b with
    | .int y => binI op x y k
    | _ => False
  | .str x => match b with
    | .str y => op = .add /\ x.length <= limS /\ y.length <= limS /\ k (.str (x ++ y))
    | _ => False
  | _ => False
noncomputable def cmpI (op : Cop) (x y : Int) (k : Bool -> Prop) : Prop := match op with
  | .eq => k (decide (x = y))
  | .ne => k (!decide (x = y))
  | .lt => k (decide (x < y))
  | .le => k (decide (x <= y))
  | .gt => k (decide (y < x))
  | .ge => k (decide (y <= x))
  | _ => False
noncomputable def cmpS (op : Cop) (x y : List Nat) (k : Bool -> Prop) : Prop := match op with
  | .eq => k (x == y)
  | .ne => k (!(x == y))
  | _ => False
noncomputable def cmpN (op : Cop) (b : Bool) (k : Bool -> Prop) : Prop := match op with
  | .isin => k b
  | .notin => k (!b)
  | _ => False
noncomputable def cmpM (op : Cop) (a b : MV) (k : Bool -> Prop) : Prop := match a with
  | .int x => match b with
    | .int y => cmpI op x y k
    | _ => False
  | .str x => match b with
    | .str y => cmpS op x y k
    | .strs l => cmpN op (l.contains x) k
    | .set l => ∃ z, x = [z] /\ l.length < 100 /\ cmpN op (l.contains z) k
    | .dict l => op = .isin /\ k ((l.lookup x).isSome)
    | _ => False
  | .strs x => match b with
    | .strs y => op = .eq /\ x.length <= limS /\ y.length <= limS /\ k (x == y)
    | _ => False
  | _ => False
noncomputable def idxM (a i : MV) (k : MV -> Prop) : Prop := match i with
  | .int n => match a with
    | .str l => 0 <= n /\ l.length <= limS /\ ∃ x, l[n.toNat]? = some x /\ k (.str [x])
    | .strs l => 0 <= n /\ l.length <= limS /\ ∃ x, l[n.toNat]? = some x /\ k (.str x)
    | .tab l => 0 <= n /\ l.length <= limS /\ ∃ x, l[n.toNat]? = some x /\ k (.amg x)
    | _ => False
  | .str x => match a with
    | .dict l => ∃ y, l.lookup x = some y /\ k (.str y)
    | _ => False
  | _ => False
noncomputable def partI (o : Option MV) (k : Option Int -> Prop) : Prop := match o with
  | Option.none => k Option.none
  | some (.int x) => 0 <= x /\ small x /\ k (some x)
  | _ => False
noncomputable def sliceS (l : List Nat) (a b : Option Int) (k : MV -> Prop) : Prop := match a, b with
  | some x, some y => k (.str (ssub l x.toNat y.toNat))
  | some x, Option.none => k (.str (l.drop x.toNat))
  | Option.none, some y => k (.str (l.take y.toNat))
  | Option.none, Option.none => False
noncomputable def sliceI (l : List Int) (a b : Option Int) (k : MV -> Prop) : Prop := match a, b with
  | some x, some y => k (.ints ((l.drop x.toNat).take (y.toNat - x.toNat)))
  | Option.none, some y => k (.ints (l.take y.toNat))
  | _, Option.none => False
noncomputable def sliceM (a : MV) (lo hi : Option MV) (k : MV -> Prop) : Prop := match a with
  | .str l => l.length <= limS /\ partI lo fun i => partI hi fun j => sliceS l i j k
  | .ints l => l.length <= limS /\ partI lo fun i => partI hi fun j => sliceI l i j k
  | _ => False
noncomputable def lenM (a : MV) (k : MV -> Prop) : Prop := match a with
  | .str l => l.length <= limS /\ k (.int l.length)
  | .tab l => l.length <= limS /\ k (.int l.length)
  | _ => False
noncomputable def amgM (f : Nat) (a : MV) (k : MV -> Prop) : Prop := match a with
  | .amg x => (f = 0 /\ k (.str x.s)) \/ (f = 1 /\ k (.int x.sub)) \/ (f = 2 /\ k (.int x.res))
  | _ => False
noncomputable def boolM (a : MV) (k : Bool -> Prop) : Prop := match a with
  | .bool b => k b
  | _ => False
noncomputable def pick (b : Bool) (p q : Prop) : Prop := (b = true -> p) /\ (b = false -> q)
noncomputable def itemsM : MV -> Option (List MV)
  | .strs l => some (l.map .str)
  | .ints l => some (l.map .int)
  | .str l => some (l.map fun c => .str [c])
  | _ => Option.none
noncomputable def compL (elt : St -> (MV -> St -> Prop) -> Prop) (v : Nat) : List MV -> List (List Nat) -> Option Ob -> (List (List Nat) -> Option Ob -> Prop) -> Prop
  | [], acc, ob, k => k acc ob
  | x :: r, acc, ob, k => elt ⟨[(v, x)], ob⟩ fun y st => ∃ q, y = .str q /\ compL elt v r (acc ++ [q]) st.ob k
section
variable (G : Stat) (O : Orc)
noncomputable def callM (f : Nat) (args : List MV) (st : St) (k : MV -> St -> Prop) : Prop :=
  f < O.lv /\ ∃ r o', O.ans f args st.ob = some (r, o') /\ k r { st with ob := o' }
noncomputable def VE : E -> St -> (MV -> St -> Prop) -> Prop
  | .none, st, k => k .none st
  | .bool b, st, k => k (.bool b) st
  | .int i, st, k => k (.int i) st
  | .neg1, st, k => k (.int (-1)) st
  | .str l, st, k => k (.str l) st
  | .var v, st, k => ∃ x, st.loc.lookup v = some x /\ k x st
  | .fld f, st, k => st.loc.lookup 0 = some .obj /\ ∃ o x, st.ob = some o /\ o.get f = some x /\ k x st
  | .cattr n, st, k => ∃ x, G.cattr n = some x /\ k x st
  | .glob n, st, k => ∃ x, G.glob n = some x /\ k x st
  | .amgOf v f, st, k => ∃ x, st.loc.lookup v = some x /\ amgM f x fun y => k y st
  | .bin op a b, st, k => VE a st fun x st => VE b st fun y st => binM op x y fun r => k r st
  | .cmp op a b, st, k => VE a st fun x st => VE b st fun y st => cmpM op x y fun r => k (.bool r) st
  | .bop isAnd a b, st, k => VE a st fun x st => boolM x fun t => pick t
      (if isAnd then VE b st fun y st => boolM y fun u => k (.bool u) st else k (.bool true) st)
      (if isAnd then k (.bool false) st else VE b st fun y st => boolM y fun u => k (.bool u) st)
  | .not a, st, k => VE a st fun x st => boolM x fun t => k (.bool (!t)) st
  | .ite t a b, st, k => VE t st fun x st => boolM x fun u => pick u (VE a st k) (VE b st k)
  | .idx a i, st, k => VE a st fun x st => VE i st fun y st => idxM x y fun r => k r st
  | .slice a lo hi, st, k => VE a st fun x st => VE lo st fun y st => VE hi st fun z st => sliceM x (some y) (some z) fun r => k r st
  | .sliceLo a lo, st, k => VE a st fun x st => VE lo st fun y st => sliceM x (some y) Option.none fun r => k r st
  | .sliceHi a hi, st, k => VE a st fun x st => VE hi st fun z st => sliceM x Option.none (some z) fun r => k r st
  | .len a, st, k => VE a st fun x st => lenM x fun r => k r st
  | .ord a, st, k => VE a st fun x st => ∃ c, x = .str [c] /\ k (.int c) st
  | .min a b, st, k => VE a st fun x st => VE b st fun y st => ∃ i j, x = .int i /\ y = .int j /\ k (.int (if j < i then j else i)) st
  | .max a b, st, k => VE a st fun x st => VE b st fun y st => ∃ i j, x = .int i /\ y = .int j /\ k (.int (if i < j then j else i)) st
  | .call0 f, st, k => f < 18 /\ callM O f [] st k
  | .call1 f a, st, k => f < 18 /\ VE a st fun x st => callM O f [x] st k
  | .call2 f a b, st, k => f < 18 /\ VE a st fun x st => VE b st fun y st => callM O f [x, y] st k
  | .call3 f a b c, st, k => f < 18 /\ VE a st fun x st => VE b st fun y st => VE c st fun z st => callM O f [x, y, z] st k
  | .meth0 f, st, k => (18 <= f /\ f < 40) /\ st.loc.lookup 0 = some .obj /\ st.ob.isSome = true /\ callM O f [] st k
  | .meth1 f a, st, k => (18 <= f /\ f < 40) /\ st.loc.lookup 0 = some .obj /\ st.ob.isSome = true /\ VE a st fun x st => callM O f [x] st k
  | .meth3 f a b c, st, k => (18 <= f /\ f < 40) /\ st.loc.lookup 0 = some .obj /\ st.ob.isSome = true /\ VE a st fun x st => VE b st fun y st => VE c st fun z st => callM O f [x, y, z] st k
  | .ometh1 v f a, st, k => (18 <= f /\ f < 40) /\ st.loc.lookup v = some .obj /\ st.ob.isSome = true /\ VE a st fun x st => callM O f [x] st k
  | .endsw a b, st, k => VE a st fun x st => ∃ p, x = .str p /\ VE b st fun y st => ∃ q, y = .str q /\ k (.bool (q.isSuffixOf p)) st
  | .strs l, st, k => l.length <= limS /\ k (.strs l) st
  | .dict l, st, k => l ≠ [] /\ l.length <= 15 /\ (l.map (·.1)).Nodup /\ k (.dict l) st
  | .list2 a b, st, k => VE a st fun x st => VE b st fun y st => ∃ p q, x = .str p /\ y = .str q /\ k (.strs [p, q]) st
  | .comp elt v src, st, k => VE src st fun x st => ∃ l, itemsM x = some l /\ l.length <= limS /\ compL (VE elt) v l [] st.ob fun r ob => k (.strs r) ⟨st.loc, ob⟩
  | .join a, st, k => VE a st fun x st => ∃ l, x = .strs l /\ l.flatten.length <= limS /\ l.length <= limS /\ k (.str l.flatten) st
noncomputable def rangeL (i d : Int) : Nat -> List MV
  | 0 => []
  | m + 1 => .int i :: rangeL (i + d) d m
noncomputable def turnK (on : St -> Prop) (k : Fl -> St -> Prop) : Fl -> St -> Prop
  | .next, st => on st
  | .cont, st => on st
  | .brk, st => k .next st
  | f, st => k f st
noncomputable def seqK (on : St -> Prop) (k : Fl -> St -> Prop) : Fl -> St -> Prop
  | .next, st => on st
  | f, st => k f st
noncomputable def catchK (j : Nat) (k : Fl -> St -> Prop) : Fl -> St -> Prop
  | .exc i, st => if i = j then k .next st else k (.exc i) st
  | f, st => k f st
mutual
noncomputable def VS : Nat -> S -> St -> (Fl -> St -> Prop) -> Prop
  | 0, _, _, _ => False
  | _ + 1, .pass, st, k => k .next st
  | _ + 1, .asg v e, st, k => e.noComp = true /\ VE G O e st fun x st => k .next { st with loc := upd v x st.loc }
  | _ + 1, .asgF f e, st, k => e.noComp = true /\ VE G O e st fun x st => st.loc.lookup 0 = some .obj /\ ∃ o o', st.ob = some o /\ o.put f x = some o' /\ k .next { st with ob := some o' }
  | _ + 1, .aug v op e, st, k => ∃ x, st.loc.lookup v = some x /\ VE G O e st fun y st => binM op x y fun r => k .next { st with loc := upd v r st.loc }
  | _ + 1, .augF f op e, st, k => st.loc.lookup 0 = some .obj /\ ∃ o x, st.ob = some o /\ o.get f = some x /\ VE G O e st fun y st => binM op x y fun r => st.loc.lookup 0 = some .obj /\ ∃ o1 o', st.ob = some o1 /\ o1.put f r = some o' /\ k .next { st with ob := some o' }
  | n + 1, .ite t a b, st, k => VE G O t st fun x st => boolM x fun u => pick u (VL n a st k) (VL n b st k)
  | n + 1, .wh t a, st, k => VE G O t st fun x st => boolM x fun u => pick u (VL n a st (turnK (fun st => VS n (.wh t a) st k) k)) (k .next st)
  | n + 1, .forR v lo hi a, st, k => VE G O lo st fun x st => VE G O hi st fun y st => ∃ i j, x = .int i /\ y = .int j /\ small i /\ small j /\ VI n v (rangeL i 1 (j - i).toNat) a st k
  | n + 1, .forR1 v hi a, st, k => VE G O hi st fun y st => ∃ j, y = .int j /\ small j /\ VI n v (rangeL 0 1 j.toNat) a st k
  | n + 1, .forD v hi a, st, k => VE G O hi st fun y st => ∃ j, y = .int j /\ small j /\ VI n v (rangeL j (-1) (j + 1).toNat) a st k
  | n + 1, .forL v e a, st, k => VE G O e st fun x st => ∃ l, itemsM x = some l /\ l.length <= limS /\ VI n v l a st k
  | n + 1, .tryE a j, st, k => VL n a st (catchK j k)
  | _ + 1, .raise j, st, k => k (.exc j) st
  | _ + 1, .ret e, st, k => VE G O e st fun x st => k (.ret x) st
  | _ + 1, .brk, st, k => k .brk st
  | _ + 1, .cont, st, k => k .cont st
  | _ + 1, .assert e, st, k => VE G O e st fun x st => boolM x fun t => t = true /\ k .next st
  | _ + 1, .ex e, st, k => e.noComp = true /\ VE G O e st fun x st => k .next st
noncomputable def VL : Nat -> List S -> St -> (Fl -> St -> Prop) -> Prop
  | 0, _, _, _ => False
  | _ + 1, [], st, k => k .next st
  | n + 1, s :: r, st, k => VS n s st (seqK (fun st => VL n r st k) k)
noncomputable def VI : Nat -> Nat -> List MV -> List S -> St -> (Fl -> St -> Prop) -> Prop
  | 0, _, _, _, _, _ => False
  | _ + 1, _, [], _, st, k => k .next st
  | n + 1, v, x :: r, a, st, k => VL n a { st with loc := upd v x st.loc } (turnK (fun st => VI n v r a st k) k)
end
end
noncomputable def tabS (l : List (List Nat)) (i : Nat) : Str := ⟨⟨(l[i]?).getD [0, i]⟩⟩
noncomputable def nmL : List (List Nat) := [[115, 101, 108, 102],
  [115, 105, 103, 110],
  [116, 111, 108, 100],
  [112, 108, 97, 99, 101],
  [119, 111, 114, 100],
  [115, 116, 97, 114, 116],
  [99, 111, 117, 110, 116],
  [107],
  [102, 111, 117, 110, 100],
  [101, 110, 100],
  [101, 110, 100, 115],
  [115, 116, 101, 109],
  [111, 110, 101],
  [108, 97, 115, 116],
  [116, 119, 111],
  [108, 101, 97, 115, 116],
  [109, 111, 114, 101],
  [110, 117, 109, 98, 101, 114],
  [112, 105, 101, 99, 101],
  [109, 111, 115, 116],
  [110, 117, 109, 98, 101, 114, 115],
  [118, 97, 108, 117, 101],
  [115],
  [105],
  [106],
  [118],
  [99],
  [108],
  [99, 111, 109, 109, 111, 110, 95, 105],
  [99, 111, 109, 109, 111, 110, 95, 106],
  [102, 105, 114, 115, 116, 95, 107, 101, 121, 95, 105, 110, 115, 112, 101, 99, 116, 101, 100],
  [100, 105, 102, 102],
  [99, 111, 109, 109, 111, 110],
  [119],
  [105, 50],
  [108, 98],
  [97, 100, 106, 117, 115, 116, 109, 101, 110, 116],
  [99, 95, 107, 101, 116],
  [99, 95, 98, 114, 97],
  [118, 95, 49],
  [118, 95, 50],
  [118, 95, 51],
  [118, 95, 52],
  [118, 95, 53],
  [97, 109, 111, 110, 103, 95, 118, 97, 114],
  [73, 95, 120],
  [118, 95, 54],
  [118, 95, 55],
  [118, 95, 56],
  [118, 95, 57],
  [118, 95, 49, 48],
  [119, 111, 114, 100, 115],
  [115, 99, 114, 105, 112, 116],
  [114, 111, 119],
  [115, 116, 101, 109, 109, 101, 114],
  [112, 97, 114, 116]]
noncomputable def fldL : List (List Nat) := [[99, 117, 114, 114, 101, 110, 116], [99, 117, 114, 115, 111, 114], [108, 105, 109, 105, 116], [108, 105, 109, 105, 116, 95, 98, 97, 99, 107, 119, 97, 114, 100], [98, 114, 97], [107, 101, 116], [73, 95, 112, 49], [73, 95, 112, 50]]
noncomputable def catL : List (List Nat) := [[103, 95, 118], [103, 95, 101, 116, 95, 101, 110, 100, 105, 110, 103], [103, 95, 115, 95, 101, 110, 100, 105, 110, 103], [103, 95, 115, 116, 95, 101, 110, 100, 105, 110, 103], [97, 95, 48], [97, 95, 49], [97, 95, 50], [97, 95, 51], [97, 95, 52], [97, 95, 53], [97, 95, 54], [97, 95, 55]]
noncomputable def glbL : List (List Nat) := [[95, 108, 97, 119, 95, 108, 101, 116, 116, 101, 114, 115], [95, 108, 97, 119, 95, 101, 110, 100, 115, 95, 102, 105, 114, 115, 116], [95, 108, 97, 119, 95, 101, 110, 100, 115, 95, 115, 101, 99, 111, 110, 100], [95, 108, 97, 119, 95, 101, 110, 100, 115, 95, 116, 104, 105, 114, 100], [95, 108, 97, 119, 95, 101, 110, 100, 115, 95, 102, 111, 117, 114, 116, 104], [95, 108, 97, 119, 95, 107, 101, 101, 112, 115, 95, 101, 116]]
noncomputable def fnL : List (List Nat) := [[95, 108, 97, 119, 95, 118, 111, 119, 101, 108],
  [95, 108, 97, 119, 95, 98, 101, 102, 111, 114, 101, 95, 115],
  [95, 108, 97, 119, 95, 98, 101, 102, 111, 114, 101, 95, 115, 116],
  [95, 108, 97, 119, 95, 98, 101, 102, 111, 114, 101, 95, 101, 116],
  [95, 108, 97, 119, 95, 117, 109, 108, 97, 117, 116],
  [95, 108, 97, 119, 95, 98, 97, 99, 107],
  [95, 108, 97, 119, 95, 116, 101, 120, 116, 115],
  [95, 108, 97, 119, 95, 109, 97, 114, 107, 101, 100],
  [95, 108, 97, 119, 95, 112, 97, 105, 114],
  [95, 108, 97, 119, 95, 106, 111, 105, 110, 101, 100],
  [95, 108, 97, 119, 95, 112, 97, 115, 116],
  [95, 108, 97, 119, 95, 101, 110, 100],
  [95, 108, 97, 119, 95, 102, 105, 114, 115, 116],
  [95, 108, 97, 119, 95, 115, 101, 99, 111, 110, 100],
  [95, 108, 97, 119, 95, 116, 104, 105, 114, 100],
  [95, 108, 97, 119, 95, 102, 111, 117, 114, 116, 104],
  [95, 108, 97, 119, 95, 115, 116, 101, 109],
  [95, 108, 97, 119, 95, 100, 114, 97, 119, 110],
  [115, 101, 116, 95, 99, 117, 114, 114, 101, 110, 116],
  [103, 101, 116, 95, 99, 117, 114, 114, 101, 110, 116],
  [105, 110, 95, 103, 114, 111, 117, 112, 105, 110, 103],
  [103, 111, 95, 105, 110, 95, 103, 114, 111, 117, 112, 105, 110, 103],
  [105, 110, 95, 103, 114, 111, 117, 112, 105, 110, 103, 95, 98],
  [103, 111, 95, 111, 117, 116, 95, 103, 114, 111, 117, 112, 105, 110, 103],
  [101, 113, 95, 115, 95, 98],
  [102, 105, 110, 100, 95, 97, 109, 111, 110, 103],
  [102, 105, 110, 100, 95, 97, 109, 111, 110, 103, 95, 98],
  [114, 101, 112, 108, 97, 99, 101, 95, 115],
  [115, 108, 105, 99, 101, 95, 102, 114, 111, 109],
  [115, 108, 105, 99, 101, 95, 100, 101, 108],
  [114, 95, 82, 49],
  [114, 95, 82, 50],
  [114, 95, 112, 114, 101, 108, 117, 100, 101],
  [114, 95, 109, 97, 114, 107, 95, 114, 101, 103, 105, 111, 110, 115],
  [114, 95, 112, 111, 115, 116, 108, 117, 100, 101],
  [114, 95, 115, 116, 97, 110, 100, 97, 114, 100, 95, 115, 117, 102, 102, 105, 120],
  [95, 115, 116, 101, 109],
  [115, 116, 101, 109, 87, 111, 114, 100],
  [115, 116, 101, 109, 87, 111, 114, 100, 115],
  [95, 95, 105, 110, 105, 116, 95, 95]]
noncomputable def nmS : Nat -> Str := tabS nmL
noncomputable def fldS : Nat -> Str := tabS fldL
noncomputable def catS : Nat -> Str := tabS catL
noncomputable def glbS : Nat -> Str := tabS glbL
noncomputable def fnS : Nat -> Str := tabS fnL
noncomputable def amgS : Nat -> Str := tabS [[115], [115, 117, 98, 115, 116, 114, 105, 110, 103, 95, 105], [114, 101, 115, 117, 108, 116]]
noncomputable def sLit (l : List Nat) : Str := ⟨⟨l⟩⟩
noncomputable def labS (j : Nat) : Str := ⟨⟨[108, 97, 98, 48 + j]⟩⟩
noncomputable def dbg : Str := sLit [95, 95, 100, 101, 98, 117, 103, 95, 95]
noncomputable def bopIs : Bop -> Operator -> Bool
  | .add, .Add => true
  | .sub, .Sub => true
  | .mod, .Mod => true
  | .shr, .RShift => true
  | _, _ => false
noncomputable def copIs : Cop -> CmpOp -> Bool
  | .eq, .Eq => true
  | .ne, .NotEq => true
  | .lt, .Lt => true
  | .le, .LtE => true
  | .gt, .Gt => true
  | .ge, .GtE => true
  | .isin, .In => true
  | .notin, .NotIn => true
  | _, _ => false
noncomputable def notCall : Expr -> Bool
  | .Call _ _ _ _ => false
  | _ => true
noncomputable def onBoolOp (x : Expr) (q : BoolOp -> List Expr -> Pos -> Bool) : Bool := if h : x.ctorIdx = 0 then @Expr.BoolOp.elim (fun _ => Bool) x h q else false
@[elab_as_elim] theorem onBoolOp_inv {motive : Expr -> Prop} {x : Expr} {q} (h : onBoolOp x q = true) (K : ∀ a b c, q a b c = true -> motive (.BoolOp a b c)) : motive x := by
  by_cases e : x.ctorIdx = 0
  · exact @Expr.BoolOp.elim (fun x => onBoolOp x q = true -> motive x) x e K h
  · exact absurd ((dif_neg e : onBoolOp x q = false).symm.trans h) Bool.false_ne_true
noncomputable def onBinOp (x : Expr) (q : Expr -> Operator -> Expr -> Pos -> Bool) : Bool := if h : x.ctorIdx = 2 then @Expr.BinOp.elim (fun _ => Bool) x h q else false
@[elab_as_elim] theorem onBinOp_inv {motive : Expr -> Prop} {x : Expr} {q} (h : onBinOp x q = true) (K : ∀ a b c d, q a b c d = true -> motive (.BinOp a b c d)) : motive x := by
  by_cases e : x.ctorIdx = 2
  · exact @Expr.BinOp.elim (fun x => onBinOp x q = true -> motive x) x e K h
  · exact absurd ((dif_neg e : onBinOp x q = false).symm.trans h) Bool.false_ne_true
noncomputable def onUnaryOp (x : Expr) (q : UnaryOp -> Expr -> Pos -> Bool) : Bool := if h : x.ctorIdx = 3 then @Expr.UnaryOp.elim (fun _ => Bool) x h q else false
@[elab_as_elim] theorem onUnaryOp_inv {motive : Expr -> Prop} {x : Expr} {q} (h : onUnaryOp x q = true) (K : ∀ a b c, q a b c = true -> motive (.UnaryOp a b c)) : motive x := by
  by_cases e : x.ctorIdx = 3
  · exact @Expr.UnaryOp.elim (fun x => onUnaryOp x q = true -> motive x) x e K h
  · exact absurd ((dif_neg e : onUnaryOp x q = false).symm.trans h) Bool.false_ne_true
noncomputable def onIfExp (x : Expr) (q : Expr -> Expr -> Expr -> Pos -> Bool) : Bool := if h : x.ctorIdx = 5 then @Expr.IfExp.elim (fun _ => Bool) x h q else false
@[elab_as_elim] theorem onIfExp_inv {motive : Expr -> Prop} {x : Expr} {q} (h : onIfExp x q = true) (K : ∀ a b c d, q a b c d = true -> motive (.IfExp a b c d)) : motive x := by
  by_cases e : x.ctorIdx = 5
  · exact @Expr.IfExp.elim (fun x => onIfExp x q = true -> motive x) x e K h
  · exact absurd ((dif_neg e : onIfExp x q = false).symm.trans h) Bool.false_ne_true
noncomputable def onDict (x : Expr) (q : List (Option Expr) -> List Expr -> Pos -> Bool) : Bool := if h : x.ctorIdx = 6 then @Expr.Dict.elim (fun _ => Bool) x h q else false
@[elab_as_elim] theorem onDict_inv {motive : Expr -> Prop} {x : Expr} {q} (h : onDict x q = true) (K : ∀ a b c, q a b c = true -> motive (.Dict a b c)) : motive x := by
  by_cases e : x.ctorIdx = 6
  · exact @Expr.Dict.elim (fun x => onDict x q = true -> motive x) x e K h
  · exact absurd ((dif_neg e : onDict x q = false).symm.trans h) Bool.false_ne_true
noncomputable def onListComp (x : Expr) (q : Expr -> List Comprehension -> Scope -> Pos -> Bool) : Bool := if h : x.ctorIdx = 8 then @Expr.ListComp.elim (fun _ => Bool) x h q else false
@[elab_as_elim] theorem onListComp_inv {motive : Expr -> Prop} {x : Expr} {q} (h : onListComp x q = true) (K : ∀ a b c d, q a b c d = true -> motive (.ListComp a b c d)) : motive x := by
  by_cases e : x.ctorIdx = 8
  · exact @Expr.ListComp.elim (fun x => onListComp x q = true -> motive x) x e K h
  · exact absurd ((dif_neg e : onListComp x q = false).symm.trans h) Bool.false_ne_true
noncomputable def onCompare (x : Expr) (q : Expr -> List CmpOp -> List Expr -> Pos -> Bool) : Bool := if h : x.ctorIdx = 15 then @Expr.Compare.elim (fun _ => Bool) x h q else false
@[elab_as_elim] theorem onCompare_inv {motive : Expr -> Prop} {x : Expr} {q} (h : onCompare x q = true) (K : ∀ a b c d, q a b c d = true -> motive (.Compare a b c d)) : motive x := by
  by_cases e : x.ctorIdx = 15
  · exact @Expr.Compare.elim (fun x => onCompare x q = true -> motive x) x e K h
  · exact absurd ((dif_neg e : onCompare x q = false).symm.trans h) Bool.false_ne_true
noncomputable def onCall (x : Expr) (q : Expr -> List Expr -> List Keyword -> Pos -> Bool) : Bool := if h : x.ctorIdx = 16 then @Expr.Call.elim (fun _ => Bool) x h q else false
@[elab_as_elim] theorem onCall_inv {motive : Expr -> Prop} {x : Expr} {q} (h : onCall x q = true) (K : ∀ a b c d, q a b c d = true -> motive (.Call a b c d)) : motive x := by
  by_cases e : x.ctorIdx = 16
  · exact @Expr.Call.elim (fun x => onCall x q = true -> motive x) x e K h
  · exact absurd ((dif_neg e : onCall x q = false).symm.trans h) Bool.false_ne_true
noncomputable def onConstant (x : Expr) (q : Const -> Nat -> Pos -> Bool) : Bool := if h : x.ctorIdx = 19 then @Expr.Constant.elim (fun _ => Bool) x h q else false
@[elab_as_elim] theorem onConstant_inv {motive : Expr -> Prop} {x : Expr} {q} (h : onConstant x q = true) (K : ∀ a b c, q a b c = true -> motive (.Constant a b c)) : motive x := by
  by_cases e : x.ctorIdx = 19
  · exact @Expr.Constant.elim (fun x => onConstant x q = true -> motive x) x e K h
  · exact absurd ((dif_neg e : onConstant x q = false).symm.trans h) Bool.false_ne_true
noncomputable def onAttribute (x : Expr) (q : Expr -> Str -> Pos -> Bool) : Bool := if h : x.ctorIdx = 20 then @Expr.Attribute.elim (fun _ => Bool) x h q else false
@[elab_as_elim] theorem onAttribute_inv {motive : Expr -> Prop} {x : Expr} {q} (h : onAttribute x q = true) (K : ∀ a b c, q a b c = true -> motive (.Attribute a b c)) : motive x := by
  by_cases e : x.ctorIdx = 20
  · exact @Expr.Attribute.elim (fun x => onAttribute x q = true -> motive x) x e K h
  · exact absurd ((dif_neg e : onAttribute x q = false).symm.trans h) Bool.false_ne_true
noncomputable def onSubscript (x : Expr) (q : Expr -> Expr -> Pos -> Bool) : Bool := if h : x.ctorIdx = 21 then @Expr.Subscript.elim (fun _ => Bool) x h q else false
@[elab_as_elim] theorem onSubscript_inv {motive : Expr -> Prop} {x : Expr} {q} (h : onSubscript x q = true) (K : ∀ a b c, q a b c = true -> motive (.Subscript a b c)) : motive x := by
  by_cases e : x.ctorIdx = 21
  · exact @Expr.Subscript.elim (fun x => onSubscript x q = true -> motive x) x e K h
  · exact absurd ((dif_neg e : onSubscript x q = false).symm.trans h) Bool.false_ne_true
noncomputable def onName (x : Expr) (q : Str -> Pos -> Bool) : Bool := if h : x.ctorIdx = 23 then @Expr.Name.elim (fun _ => Bool) x h q else false
@[elab_as_elim] theorem onName_inv {motive : Expr -> Prop} {x : Expr} {q} (h : onName x q = true) (K : ∀ a b, q a b = true -> motive (.Name a b)) : motive x := by
  by_cases e : x.ctorIdx = 23
  · exact @Expr.Name.elim (fun x => onName x q = true -> motive x) x e K h
  · exact absurd ((dif_neg e : onName x q = false).symm.trans h) Bool.false_ne_true
noncomputable def onList (x : Expr) (q : List Expr -> Pos -> Bool) : Bool := if h : x.ctorIdx = 24 then @Expr.List.elim (fun _ => Bool) x h q else false
@[elab_as_elim] theorem onList_inv {motive : Expr -> Prop} {x : Expr} {q} (h : onList x q = true) (K : ∀ a b, q a b = true -> motive (.List a b)) : motive x := by
  by_cases e : x.ctorIdx = 24
  · exact @Expr.List.elim (fun x => onList x q = true -> motive x) x e K h
  · exact absurd ((dif_neg e : onList x q = false).symm.trans h) Bool.false_ne_true
noncomputable def onSlice (x : Expr) (q : Option Expr -> Option Expr -> Option Expr -> Pos -> Bool) : Bool := if h : x.ctorIdx = 26 then @Expr.Slice.elim (fun _ => Bool) x h q else false
@[elab_as_elim] theorem onSlice_inv {motive : Expr -> Prop} {x : Expr} {q} (h : onSlice x q = true) (K : ∀ a b c d, q a b c d = true -> motive (.Slice a b c d)) : motive x := by
  by_cases e : x.ctorIdx = 26
  · exact @Expr.Slice.elim (fun x => onSlice x q = true -> motive x) x e K h
  · exact absurd ((dif_neg e : onSlice x q = false).symm.trans h) Bool.false_ne_true
noncomputable def osReturn (x : Stmt) (q : Option Expr -> Pos -> Bool) : Bool := if h : x.ctorIdx = 3 then @Stmt.Return.elim (fun _ => Bool) x h q else false
@[elab_as_elim] theorem osReturn_inv {motive : Stmt -> Prop} {x : Stmt} {q} (h : osReturn x q = true) (K : ∀ a b, q a b = true -> motive (.Return a b)) : motive x := by
  by_cases e : x.ctorIdx = 3
  · exact @Stmt.Return.elim (fun x => osReturn x q = true -> motive x) x e K h
  · exact absurd ((dif_neg e : osReturn x q = false).symm.trans h) Bool.false_ne_true
noncomputable def osAssign (x : Stmt) (q : List Expr -> Expr -> Pos -> Bool) : Bool := if h : x.ctorIdx = 5 then @Stmt.Assign.elim (fun _ => Bool) x h q else false
@[elab_as_elim] theorem osAssign_inv {motive : Stmt -> Prop} {x : Stmt} {q} (h : osAssign x q = true) (K : ∀ a b c, q a b c = true -> motive (.Assign a b c)) : motive x := by
  by_cases e : x.ctorIdx = 5
  · exact @Stmt.Assign.elim (fun x => osAssign x q = true -> motive x) x e K h
  · exact absurd ((dif_neg e : osAssign x q = false).symm.trans h) Bool.false_ne_true
noncomputable def osAugAssign (x : Stmt) (q : Expr -> Operator -> Expr -> Pos -> Bool) : Bool := if h : x.ctorIdx = 7 then @Stmt.AugAssign.elim (fun _ => Bool) x h q else false
@[elab_as_elim] theorem osAugAssign_inv {motive : Stmt -> Prop} {x : Stmt} {q} (h : osAugAssign x q = true) (K : ∀ a b c d, q a b c d = true -> motive (.AugAssign a b c d)) : motive x := by
  by_cases e : x.ctorIdx = 7
  · exact @Stmt.AugAssign.elim (fun x => osAugAssign x q = true -> motive x) x e K h
  · exact absurd ((dif_neg e : osAugAssign x q = false).symm.trans h) Bool.false_ne_true
noncomputable def osFor (x : Stmt) (q : Expr -> Expr -> List Stmt -> List Stmt -> Pos -> Bool) : Bool := if h : x.ctorIdx = 9 then @Stmt.For.elim (fun _ => Bool) x h q else false
@[elab_as_elim] theorem osFor_inv {motive : Stmt -> Prop} {x : Stmt} {q} (h : osFor x q = true) (K : ∀ a b c d e, q a b c d e = true -> motive (.For a b c d e)) : motive x := by
  by_cases e : x.ctorIdx = 9
  · exact @Stmt.For.elim (fun x => osFor x q = true -> motive x) x e K h
  · exact absurd ((dif_neg e : osFor x q = false).symm.trans h) Bool.false_ne_true
noncomputable def osWhile (x : Stmt) (q : Expr -> List Stmt -> List Stmt -> Pos -> Bool) : Bool := if h : x.ctorIdx = 11 then @Stmt.While.elim (fun _ => Bool) x h q else false
@[elab_as_elim] theorem osWhile_inv {motive : Stmt -> Prop} {x : Stmt} {q} (h : osWhile x q = true) (K : ∀ a b c d, q a b c d = true -> motive (.While a b c d)) : motive x := by
  by_cases e : x.ctorIdx = 11
  · exact @Stmt.While.elim (fun x => osWhile x q = true -> motive x) x e K h
  · exact absurd ((dif_neg e : osWhile x q = false).symm.trans h) Bool.false_ne_true
noncomputable def osIf (x : Stmt) (q : Expr -> List Stmt -> List Stmt -> Pos -> Bool) : Bool := if h : x.ctorIdx = 12 then @Stmt.If.elim (fun _ => Bool) x h q else false
@[elab_as_elim] theorem osIf_inv {motive : Stmt -> Prop} {x : Stmt} {q} (h : osIf x q = true) (K : ∀ a b c d, q a b c d = true -> motive (.If a b c d)) : motive x := by
  by_cases e : x.ctorIdx = 12
  · exact @Stmt.If.elim (fun x => osIf x q = true -> motive x) x e K h
  · exact absurd ((dif_neg e : osIf x q = false).symm.trans h) Bool.false_ne_true
noncomputable def osRaise (x : Stmt) (q : Option Expr -> Option Expr -> Pos -> Bool) : Bool := if h : x.ctorIdx = 16 then @Stmt.Raise.elim (fun _ => Bool) x h q else false
@[elab_as_elim] theorem osRaise_inv {motive : Stmt -> Prop} {x : Stmt} {q} (h : osRaise x q = true) (K : ∀ a b c, q a b c = true -> motive (.Raise a b c)) : motive x := by
  by_cases e : x.ctorIdx = 16
  · exact @Stmt.Raise.elim (fun x => osRaise x q = true -> motive x) x e K h
  · exact absurd ((dif_neg e : osRaise x q = false).symm.trans h) Bool.false_ne_true
noncomputable def osTry (x : Stmt) (q : List Stmt -> List ExceptHandler -> List Stmt -> List Stmt -> Pos -> Bool) : Bool := if h : x.ctorIdx = 17 then @Stmt.Try.elim (fun _ => Bool) x h q else false
@[elab_as_elim] theorem osTry_inv {motive : Stmt -> Prop} {x : Stmt} {q} (h : osTry x q = true) (K : ∀ a b c d e, q a b c d e = true -> motive (.Try a b c d e)) : motive x := by
  by_cases e : x.ctorIdx = 17
  · exact @Stmt.Try.elim (fun x => osTry x q = true -> motive x) x e K h
  · exact absurd ((dif_neg e : osTry x q = false).symm.trans h) Bool.false_ne_true
noncomputable def osAssert (x : Stmt) (q : Expr -> Option Expr -> Pos -> Bool) : Bool := if h : x.ctorIdx = 19 then @Stmt.Assert.elim (fun _ => Bool) x h q else false
@[elab_as_elim] theorem osAssert_inv {motive : Stmt -> Prop} {x : Stmt} {q} (h : osAssert x q = true) (K : ∀ a b c, q a b c = true -> motive (.Assert a b c)) : motive x := by
  by_cases e : x.ctorIdx = 19
  · exact @Stmt.Assert.elim (fun x => osAssert x q = true -> motive x) x e K h
  · exact absurd ((dif_neg e : osAssert x q = false).symm.trans h) Bool.false_ne_true
noncomputable def osExpr (x : Stmt) (q : Expr -> Pos -> Bool) : Bool := if h : x.ctorIdx = 24 then @Stmt.Expr.elim (fun _ => Bool) x h q else false
@[elab_as_elim] theorem osExpr_inv {motive : Stmt -> Prop} {x : Stmt} {q} (h : osExpr x q = true) (K : ∀ a b, q a b = true -> motive (.Expr a b)) : motive x := by
  by_cases e : x.ctorIdx = 24
  · exact @Stmt.Expr.elim (fun x => osExpr x q = true -> motive x) x e K h
  · exact absurd ((dif_neg e : osExpr x q = false).symm.trans h) Bool.false_ne_true
noncomputable def osPass (x : Stmt) (q : Pos -> Bool) : Bool := if h : x.ctorIdx = 25 then @Stmt.Pass.elim (fun _ => Bool) x h q else false
@[elab_as_elim] theorem osPass_inv {motive : Stmt -> Prop} {x : Stmt} {q} (h : osPass x q = true) (K : ∀ a, q a = true -> motive (.Pass a)) : motive x := by
  by_cases e : x.ctorIdx = 25
  · exact @Stmt.Pass.elim (fun x => osPass x q = true -> motive x) x e K h
  · exact absurd ((dif_neg e : osPass x q = false).symm.trans h) Bool.false_ne_true
noncomputable def osBreak (x : Stmt) (q : Pos -> Bool) : Bool := if h : x.ctorIdx = 26 then @Stmt.Break.elim (fun _ => Bool) x h q else false
@[elab_as_elim] theorem osBreak_inv {motive : Stmt -> Prop} {x : Stmt} {q} (h : osBreak x q = true) (K : ∀ a, q a = true -> motive (.Break a)) : motive x := by
  by_cases e : x.ctorIdx = 26
  · exact @Stmt.Break.elim (fun x => osBreak x q = true -> motive x) x e K h
  · exact absurd ((dif_neg e : osBreak x q = false).symm.trans h) Bool.false_ne_true
noncomputable def osContinue (x : Stmt) (q : Pos -> Bool) : Bool := if h : x.ctorIdx = 27 then @Stmt.Continue.elim (fun _ => Bool) x h q else false
@[elab_as_elim] theorem osContinue_inv {motive : Stmt -> Prop} {x : Stmt} {q} (h : osContinue x q = true) (K : ∀ a, q a = true -> motive (.Continue a)) : motive x := by
  by_cases e : x.ctorIdx = 27
  · exact @Stmt.Continue.elim (fun x => osContinue x q = true -> motive x) x e K h
  · exact absurd ((dif_neg e : osContinue x q = false).symm.trans h) Bool.false_ne_true
noncomputable def ocnone (x : Const) (q : Bool) : Bool := if h : x.ctorIdx = 0 then @Const.none.elim (fun _ => Bool) x h q else false
@[elab_as_elim] theorem ocnone_inv {motive : Const -> Prop} {x : Const} {q} (h : ocnone x q = true) (K : q = true -> motive .none) : motive x := by
  by_cases e : x.ctorIdx = 0
  · exact @Const.none.elim (fun x => ocnone x q = true -> motive x) x e K h
  · exact absurd ((dif_neg e : ocnone x q = false).symm.trans h) Bool.false_ne_true
noncomputable def ocbool (x : Const) (q : Bool -> Bool) : Bool := if h : x.ctorIdx = 1 then @Const.bool.elim (fun _ => Bool) x h q else false
@[elab_as_elim] theorem ocbool_inv {motive : Const -> Prop} {x : Const} {q} (h : ocbool x q = true) (K : ∀ a, q a = true -> motive (.bool a)) : motive x := by
  by_cases e : x.ctorIdx = 1
  · exact @Const.bool.elim (fun x => ocbool x q = true -> motive x) x e K h
  · exact absurd ((dif_neg e : ocbool x q = false).symm.trans h) Bool.false_ne_true
noncomputable def ocint (x : Const) (q : Int -> Bool) : Bool := if h : x.ctorIdx = 2 then @Const.int.elim (fun _ => Bool) x h q else false
@[elab_as_elim] theorem ocint_inv {motive : Const -> Prop} {x : Const} {q} (h : ocint x q = true) (K : ∀ a, q a = true -> motive (.int a)) : motive x := by
  by_cases e : x.ctorIdx = 2
  · exact @Const.int.elim (fun x => ocint x q = true -> motive x) x e K h
  · exact absurd ((dif_neg e : ocint x q = false).symm.trans h) Bool.false_ne_true
noncomputable def ocstr (x : Const) (q : Str -> Bool) : Bool := if h : x.ctorIdx = 5 then @Const.str.elim (fun _ => Bool) x h q else false
@[elab_as_elim] theorem ocstr_inv {motive : Const -> Prop} {x : Const} {q} (h : ocstr x q = true) (K : ∀ a, q a = true -> motive (.str a)) : motive x := by
  by_cases e : x.ctorIdx = 5
  · exact @Const.str.elim (fun x => ocstr x q = true -> motive x) x e K h
  · exact absurd ((dif_neg e : ocstr x q = false).symm.trans h) Bool.false_ne_true
section
variable {α : Type}
noncomputable def on0 : List α -> Bool -> Bool | [], q => q | _, _ => false
noncomputable def on1 : List α -> (α -> Bool) -> Bool | [x], q => q x | _, _ => false
noncomputable def on2 : List α -> (α -> α -> Bool) -> Bool | [x, y], q => q x y | _, _ => false
noncomputable def on3 : List α -> (α -> α -> α -> Bool) -> Bool | [x, y, z], q => q x y z | _, _ => false
noncomputable def oN : Option α -> Bool -> Bool | none, q => q | _, _ => false
noncomputable def oJ : Option α -> (α -> Bool) -> Bool | some x, q => q x | _, _ => false
@[elab_as_elim] theorem on0_inv {motive : List α -> Prop} : ∀ {l : List α} {q}, on0 l q = true -> (q = true -> motive []) -> motive l | [], _, h, K => K h | _ :: _, _, h, _ => Bool.noConfusion h
@[elab_as_elim] theorem on1_inv {motive : List α -> Prop} : ∀ {l : List α} {q}, on1 l q = true -> (∀ x, q x = true -> motive [x]) -> motive l | [], _, h, _ => Bool.noConfusion h | [x], _, h, K => K x h | _ :: _ :: _, _, h, _ => Bool.noConfusion h
@[elab_as_elim] theorem on2_inv {motive : List α -> Prop} : ∀ {l : List α} {q}, on2 l q = true -> (∀ x y, q x y = true -> motive [x, y]) -> motive l | [], _, h, _ => Bool.noConfusion h | [_], _, h, _ => Bool.noConfusion h | [x, y], _, h, K => K x y h | _ :: _ :: _ :: _, _, h, _ => Bool.noConfusion h
@[elab_as_elim] theorem on3_inv {motive : List α -> Prop} : ∀ {l : List α} {q}, on3 l q = true -> (∀ x y z, q x y z = true -> motive [x, y, z]) -> motive l | [], _, h, _ => Bool.noConfusion h | [_], _, h, _ => Bool.noConfusion h | [_, _], _, h, _ => Bool.noConfusion h | [x, y, z], _, h, K => K x y z h | _ :: _ :: _ :: _ :: _, _, h, _ => Bool.noConfusion h
@[elab_as_elim] theorem oN_inv {motive : Option α -> Prop} : ∀ {l : Option α} {q}, oN l q = true -> (q = true -> motive none) -> motive l | none, _, h, K => K h | some _, _, h, _ => Bool.noConfusion h
@[elab_as_elim] theorem oJ_inv {motive : Option α -> Prop} : ∀ {l : Option α} {q}, oJ l q = true -> (∀ x, q x = true -> motive (some x)) -> motive l | none, _, h, _ => Bool.noConfusion h | some x, _, h, K => K x h
end
theorem an2 {a b : Bool} (h : (a && b) = true) : a = true /\ b = true := Bool.and_eq_true_iff.mp h
noncomputable def isNot : UnaryOp -> Bool | .Not => true | _ => false
noncomputable def isUSub : UnaryOp -> Bool | .USub => true | _ => false
@[elab_as_elim] theorem isNot_inv {motive : UnaryOp -> Prop} : ∀ {o}, isNot o = true -> motive .Not -> motive o | .Not, _, K => K
@[elab_as_elim] theorem isUSub_inv {motive : UnaryOp -> Prop} : ∀ {o}, isUSub o = true -> motive .USub -> motive o | .USub, _, K => K
theorem an2c {a b : Bool} {P : Prop} (h : (a && b) = true) (K : a = true -> b = true -> P) : P := K (an2 h).1 (an2 h).2
noncomputable def bopOk (t : Bool) (o : BoolOp) : Bool := match t, o with | true, .And => true | false, .Or => true | _, _ => false
noncomputable def bopK : Bool -> BoolOp | true => .And | false => .Or
theorem bopOk_inv {t : Bool} {o : BoolOp} (h : bopOk t o = true) : o = bopK t := by
  cases t <;> cases o <;> first | rfl | exact Bool.noConfusion h
noncomputable def onH : ExceptHandler -> (Expr -> List Stmt -> Pos -> Bool) -> Bool | .ExceptHandler (some n) none b p, q => q n b p | _, _ => false
@[elab_as_elim] theorem onH_inv {motive : ExceptHandler -> Prop} : ∀ {x q}, onH x q = true -> (∀ n b p, q n b p = true -> motive (.ExceptHandler (some n) none b p)) -> motive x
  | .ExceptHandler (some n) none b p, _, h, K => K n b p h
  | .ExceptHandler none _ _ _, _, h, _ => Bool.noConfusion h
  | .ExceptHandler (some _) (some _) _ _, _, h, _ => Bool.noConfusion h
noncomputable def isLoc (sc : Scope) (x : Str) : Bool := decide (sc.names.lookup x = some .local) && !(x == dbg)
noncomputable def isGlb (sc : Scope) (x : Str) : Bool := decide (sc.names.lookup x = some .globalImplicit) && !(x == dbg)
noncomputable def locName (sc : Scope) (v : Nat) (x : Expr) : Bool := onName x fun n _ => n == nmS v && isLoc sc n
noncomputable def glbName (sc : Scope) (n : Str) (x : Expr) : Bool := onName x fun m _ => m == n && isGlb sc m
noncomputable def strConst (l : List Nat) (x : Expr) : Bool := onConstant x fun c _ _ => ocstr c fun s => s == sLit l
noncomputable def strConsts : List (List Nat) -> List Expr -> Bool
  | [] => List.isEmpty
  | l :: r => fun w => match w with | x :: q => strConst l x && strConsts r q | [] => false
noncomputable def strConstsO : List (List Nat) -> List (Option Expr) -> Bool
  | [] => List.isEmpty
  | l :: r => fun w => match w with | x :: q => oJ x (strConst l) && strConstsO r q | [] => false
noncomputable def onG (g : Comprehension) (q : Expr -> Expr -> Bool) : Bool := on0 g.ifs (g.is_async == 0 && q g.target g.iter)
@[elab_as_elim] theorem onG_inv {motive : Comprehension -> Prop} : ∀ {g q}, onG g q = true -> (∀ t i, q t i = true -> motive ⟨t, i, [], 0⟩) -> motive g
  | ⟨t, i, ifs, asy⟩, q, h, K => by
    revert h; intro (h : on0 ifs (asy == 0 && q t i) = true)
    refine on0_inv h fun h => an2c h fun h0 h => ?_
    cases eq_of_beq h0
    exact K t i h
noncomputable def rep (sc : Scope) : E -> Expr -> Bool
  | .str l, x => strConst l x
  | .var v, x => locName sc v x
  | .glob k, x => glbName sc (glbS k) x
  | .none, x => onConstant x (fun c k p => ocnone c (true))
  | .bool b, x => onConstant x (fun c k p => ocbool c (fun d => b == d))
  | .int i, x => onConstant x (fun c k p => ocint c (fun j => i == j))
  | .neg1, x => onUnaryOp x (fun o y p => isUSub o && (onConstant y (fun c k q => ocint c (fun j => j == 1))))
  | .fld f, x => onAttribute x (fun o a p => locName sc 0 o && a == fldS f)
  | .cattr k, x => onAttribute x (fun o a p => glbName sc (sLit [71, 101, 114, 109, 97, 110, 83, 116, 101, 109, 109, 101, 114]) o && a == catS k)
  | .amgOf v f, x => onAttribute x (fun o a p => locName sc v o && a == amgS f)
  | .bin op a b, x => onBinOp x (fun l o r p => bopIs op o && (rep sc a l && rep sc b r))
  | .cmp op a b, x => onCompare x (fun l os rs p => on1 os (fun o => on1 rs (fun r => copIs op o && (rep sc a l && rep sc b r))))
  | .bop t a b, x => onBoolOp x (fun o vs p => bopOk t o && (on2 vs (fun l r => rep sc a l && rep sc b r)))
  | .not a, x => onUnaryOp x (fun o y p => isNot o && (rep sc a y))
  | .ite t a b, x => onIfExp x (fun y l r p => rep sc t y && (rep sc a l && rep sc b r))
  | .idx a i, x => onSubscript x (fun y j p => rep sc a y && rep sc i j)
  | .slice a lo hi, x => onSubscript x (fun y z p => onSlice z (fun l u st q => oJ l (fun l1 => oJ u (fun u1 => oN st (rep sc a y && (rep sc lo l1 && rep sc hi u1))))))
  | .sliceLo a lo, x => onSubscript x (fun y z p => onSlice z (fun l u st q => oJ l (fun l1 => oN u (oN st (rep sc a y && rep sc lo l1)))))
  | .sliceHi a hi, x => onSubscript x (fun y z p => onSlice z (fun l u st q => oN l (oJ u (fun u1 => oN st (rep sc a y && rep sc hi u1)))))
  | .len a, x => onCall x (fun g as ks ps => on1 as (fun x1 => on0 ks (glbName sc (sLit [108, 101, 110]) g && rep sc a x1)))
  | .ord a, x => onCall x (fun g as ks ps => on1 as (fun x1 => on0 ks (glbName sc (sLit [111, 114, 100]) g && rep sc a x1)))
  | .min a b, x => onCall x (fun g as ks ps => on2 as (fun x1 x2 => on0 ks (glbName sc (sLit [109, 105, 110]) g && (rep sc a x1 && rep sc b x2))))
  | .max a b, x => onCall x (fun g as ks ps => on2 as (fun x1 x2 => on0 ks (glbName sc (sLit [109, 97, 120]) g && (rep sc a x1 && rep sc b x2))))
  | .call0 f, x => onCall x (fun g as ks ps => on0 as (on0 ks (glbName sc (fnS f) g)))
  | .call1 f a, x => onCall x (fun g as ks ps => on1 as (fun x1 => on0 ks (glbName sc (fnS f) g && rep sc a x1)))
  | .call2 f a b, x => onCall x (fun g as ks ps => on2 as (fun x1 x2 => on0 ks (glbName sc (fnS f) g && (rep sc a x1 && rep sc b x2))))
  | .call3 f a b c, x => onCall x (fun g as ks ps => on3 as (fun x1 x2 x3 => on0 ks (glbName sc (fnS f) g && (rep sc a x1 && (rep sc b x2 && rep sc c x3)))))
  | .meth0 f, x => onCall x (fun g as ks ps => onAttribute g (fun o m ap => on0 as (on0 ks (ap.endLine == ps.line && (locName sc 0 o && m == fnS f)))))
  | .meth1 f a, x => onCall x (fun g as ks ps => onAttribute g (fun o m ap => on1 as (fun x1 => on0 ks (ap.endLine == ps.line && (locName sc 0 o && (m == fnS f && rep sc a x1))))))
  | .meth3 f a b c, x => onCall x (fun g as ks ps => onAttribute g (fun o m ap => on3 as (fun x1 x2 x3 => on0 ks (ap.endLine == ps.line && (locName sc 0 o && (m == fnS f && (rep sc a x1 && (rep sc b x2 && rep sc c x3))))))))
  | .ometh1 v f a, x => onCall x (fun g as ks ps => onAttribute g (fun o m ap => on1 as (fun x1 => on0 ks (ap.endLine == ps.line && (locName sc v o && (m == fnS f && rep sc a x1))))))
  | .endsw a b, x => onCall x (fun g as ks ps => onAttribute g (fun o m ap => on1 as (fun x1 => on0 ks (ap.endLine == ps.line && (m == sLit [101, 110, 100, 115, 119, 105, 116, 104] && (notCall o && (rep sc a o && rep sc b x1)))))))
  | .join a, x => onCall x (fun g as ks ps => onAttribute g (fun o m ap => on1 as (fun x1 => on0 ks (ap.endLine == ps.line && (strConst [] o && (m == sLit [106, 111, 105, 110] && rep sc a x1))))))
  | .strs l, x => onList x (fun es p => strConsts l es)
  | .dict l, x => onDict x (fun ks vs p => strConstsO (l.map (·.1)) ks && strConsts (l.map (·.2)) vs)
  | .list2 a b, x => onList x (fun es p => on2 es (fun y z => rep sc a y && rep sc b z))
  | .comp e v src, x => onListComp x (fun y gs cs p => on1 gs (fun g => onG g (fun t it => onName t (fun n q => n == nmS v && (isLoc cs n && (rep cs e y && (rep sc src it && (cs.names.all (fun n => match n.2 with | .local => (match cs.names.lookup n.1 with | some .local => true | _ => false) | .globalImplicit => true | _ => false) && (match cs.kind with | .function => true | _ => false)))))))))
mutual
noncomputable def repS (sc : Scope) : S -> Stmt -> Bool
  | .pass, x => osPass x (fun p => true)
  | .brk, x => osBreak x (fun p => true)
  | .cont, x => osContinue x (fun p => true)
  | .ex e, x => osExpr x (fun y p => rep sc e y)
  | .assert e, x => osAssert x (fun y m p => oN m (rep sc e y))
  | .ret e, x => osReturn x (fun m p => oJ m (fun y => rep sc e y))
  | .asg v e, x => osAssign x (fun ts y p => on1 ts (fun t => locName sc v t && rep sc e y))
  | .asgF f e, x => osAssign x (fun ts y p => on1 ts (fun t => onAttribute t (fun o a pp => a == fldS f && (locName sc 0 o && rep sc e y))))
  | .aug v op e, x => osAugAssign x (fun t o y p => onName t (fun n pp => n == nmS v && (isLoc sc n && (bopIs op o && rep sc e y))))
  | .augF f op e, x => osAugAssign x (fun t q y p => onAttribute t (fun o a pp => a == fldS f && (locName sc 0 o && (bopIs op q && rep sc e y))))
  | .ite t a b, x => osIf x (fun y l r p => rep sc t y && (repL sc a l && repL sc b r))
  | .wh t a, x => osWhile x (fun y l r p => on0 r (rep sc t y && repL sc a l))
  | .forR v lo hi a, x => osFor x (fun t it l r p => onCall it (fun f as ks q => on2 as (fun y z => on0 ks (on0 r (locName sc v t && (glbName sc (sLit [114, 97, 110, 103, 101]) f && (rep sc lo y && (rep sc hi z && repL sc a l))))))))
  | .forR1 v hi a, x => osFor x (fun t it l r p => onCall it (fun f as ks q => on1 as (fun z => on0 ks (on0 r (locName sc v t && (glbName sc (sLit [114, 97, 110, 103, 101]) f && (rep sc hi z && repL sc a l)))))))
  | .forD v hi a, x => osFor x (fun t it l r p => onCall it (fun f as ks q => on3 as (fun z m1 m2 => on0 ks (on0 r (locName sc v t && (glbName sc (sLit [114, 97, 110, 103, 101]) f && (rep sc hi z && (rep sc .neg1 m1 && (rep sc .neg1 m2 && repL sc a l)))))))))
  | .forL v e a, x => osFor x (fun t y l r p => on0 r (locName sc v t && (rep sc e y && repL sc a l)))
  | .tryE a j, x => osTry x (fun l hs oe fb p => on1 hs (fun hd => onH hd (fun n bd hp => on1 bd (fun b0 => osPass b0 (fun pp => on0 oe (on0 fb (repL sc a l && (glbName sc (labS j) n && Nat.blt j 3))))))))
  | .raise j, x => osRaise x (fun y z p => oJ y (fun y1 => onCall y1 (fun n as ks q => on0 as (on0 ks (oN z (glbName sc (labS j) n && Nat.blt j 3))))))
noncomputable def repL (sc : Scope) : List S -> List Stmt -> Bool
  | [], [] => true
  | a :: r, x :: q => repS sc a x && repL sc r q
  | _, _ => false
end
noncomputable def b0 : List S := [.ret (.cmp .isin (.var 1) (.strs [[97], [101], [105], [111], [117], [121], [228], [246], [252]]))]
noncomputable def b1 : List S := [.ret (.strs [[98], [100], [102], [103], [104], [107], [108], [109], [110], [114], [116]])]
noncomputable def b2 : List S := [.ret (.strs [[98], [100], [102], [103], [104], [107], [108], [109], [110], [116]])]
noncomputable def b3 : List S := [.ret (.strs [[100], [102], [103], [107], [108], [109], [110], [114], [115], [116], [85], [122], [228]])]
noncomputable def b4 : List S := [.ret (.dict [([97], [228]), ([111], [246]), ([117], [252])])]
noncomputable def b5 : List S := [.ret (.dict [([85], [117]), ([89], [121]), ([228], [97]), ([246], [111]), ([252], [117])])]
noncomputable def b6 : List S := [.ret (.strs [[97, 101], [111, 101], [117, 101], [113, 117], [101, 109], [101, 110], [101, 114, 105, 110, 110, 101, 110], [101, 114, 105, 110], [108, 110], [101, 114, 110], [101, 114], [101, 115], [108, 110, 115], [101, 116], [115, 116], [101, 115, 116], [101, 110, 100], [105, 103], [117, 110, 103], [108, 105, 99, 104], [105, 115, 99, 104], [105, 107], [104, 101, 105, 116], [107, 101, 105, 116], [39, 115], [39, 115, 99, 104], [115, 121, 115, 116, 101, 109], [110, 105, 115, 115, 101], [116, 105, 99, 107, 101, 116], [112, 108, 97, 110, 101, 116], [103, 101, 111, 114, 100, 110, 101, 116], [105, 110, 116, 101, 114, 110, 101, 116], [116, 114, 101, 116], [105, 103, 117, 110, 103], [101, 105, 103, 117, 110, 103], [105, 103, 101, 110, 100], [101, 114, 108, 105, 99, 104], [101, 110, 104, 101, 105, 116], [108, 105, 99, 104, 107, 101, 105, 116], [105, 103, 107, 101, 105, 116], [101, 105, 115, 99, 104], [104, 97, 117, 115], [116, 114, 101, 117], [97, 114, 98, 101, 105, 116], [97, 98, 101, 110, 100], [119, 105, 115, 115, 101, 110], [102, 114, 101, 117, 110, 100], [110, 97, 116, 117, 114], [252, 98, 101, 114]])]
noncomputable def b7 : List S := [.asg 2 (.str []), .forR1 3 (.len (.var 4)) [.asg 1 (.idx (.var 4) (.var 3)), .ite (.bop true (.cmp .isin (.var 1) (.strs [[117], [121]])) (.call1 0 (.slice (.var 4) (.bin .add (.var 3) (.int 1)) (.bin .add (.var 3) (.int 2))))) [.asg 5 (.var 3), .wh (.bop true (.cmp .gt (.var 5) (.int 0)) (.cmp .isin (.idx (.var 4) (.bin .sub (.var 5) (.int 1))) (.strs [[117], [121]]))) [.aug 5 .sub (.int 1)], .asg 6 (.bin .sub (.var 3) (.var 5)), .ite (.bop true (.cmp .gt (.var 5) (.int 0)) (.call1 0 (.idx (.var 4) (.bin .sub (.var 5) (.int 1))))) [.aug 6 .add (.int 1)] [], .ite (.cmp .eq (.bin .mod (.var 6) (.int 2)) (.int 1)) [.asg 1 (.ite (.cmp .eq (.var 1) (.str [117])) (.str [85]) (.str [89]))] []] [], .asg 2 (.bin .add (.var 2) (.var 1))], .ret (.var 2)]
noncomputable def b8 : List S := [.ite (.bop false (.cmp .lt (.var 3) (.int 0)) (.cmp .ne (.slice (.var 4) (.bin .add (.var 3) (.int 1)) (.bin .add (.var 3) (.int 2))) (.str [101]))) [.ret (.bool false)] [], .ret (.bop false (.cmp .isin (.idx (.var 4) (.var 3)) (.strs [[97], [111]])) (.bop true (.cmp .eq (.idx (.var 4) (.var 3)) (.str [117])) (.bop false (.cmp .eq (.var 3) (.int 0)) (.cmp .ne (.idx (.var 4) (.bin .sub (.var 3) (.int 1))) (.str [113])))))]
noncomputable def b9 : List S := [.asg 2 (.str []), .forR1 3 (.len (.var 4)) [.ite (.call2 8 (.var 4) (.var 3)) [.asg 2 (.bin .add (.var 2) (.idx (.call0 4 ) (.idx (.var 4) (.var 3))))] [.ite (.cmp .eq (.idx (.var 4) (.var 3)) (.str [223])) [.asg 2 (.bin .add (.var 2) (.str [115, 115]))] [.ite (.not (.call2 8 (.var 4) (.bin .sub (.var 3) (.int 1)))) [.asg 2 (.bin .add (.var 2) (.idx (.var 4) (.var 3)))] []]]], .ret (.var 2)]
noncomputable def b10 : List S := [.forR 7 (.var 3) (.bin .sub (.len (.var 4)) (.int 1)) [.ite (.bop true (.call1 0 (.idx (.var 4) (.var 7))) (.not (.call1 0 (.idx (.var 4) (.bin .add (.var 7) (.int 1)))))) [.ret (.bin .add (.var 7) (.int 2))] []], .ret (.len (.var 4))]
noncomputable def b11 : List S := [.asg 8 (.str []), .forL 9 (.var 10) [.ite (.bop true (.cmp .gt (.len (.var 9)) (.len (.var 8))) (.endsw (.var 4) (.var 9))) [.asg 8 (.var 9)] []], .ret (.var 8)]
noncomputable def b12 : List S := [.asg 9 (.call2 11 (.var 4) (.glob 1)), .asg 11 (.sliceHi (.var 4) (.bin .sub (.len (.var 4)) (.len (.var 9)))), .ite (.bop false (.cmp .eq (.var 9) (.str [])) (.cmp .lt (.len (.var 11)) (.var 12))) [.ret (.var 4)] [], .ite (.cmp .isin (.var 9) (.strs [[108, 110], [108, 110, 115]])) [.ret (.bin .add (.var 11) (.str [108]))] [], .ite (.cmp .eq (.var 9) (.str [115])) [.ret (.ite (.cmp .isin (.idx (.var 11) (.bin .sub (.len (.var 11)) (.int 1))) (.call0 1 )) (.var 11) (.var 4))] [], .ite (.cmp .eq (.var 9) (.str [101, 109])) [.ret (.ite (.endsw (.var 11) (.str [115, 121, 115, 116])) (.var 4) (.var 11))] [], .ite (.bop true (.cmp .isin (.var 9) (.strs [[101], [101, 110], [101, 115]])) (.endsw (.var 11) (.str [110, 105, 115, 115]))) [.ret (.sliceHi (.var 11) (.bin .sub (.len (.var 11)) (.int 1)))] [], .ret (.var 11)]
noncomputable def b13 : List S := [.asg 9 (.call2 11 (.var 4) (.glob 2)), .asg 11 (.sliceHi (.var 4) (.bin .sub (.len (.var 4)) (.len (.var 9)))), .ite (.bop false (.cmp .eq (.var 9) (.str [])) (.cmp .lt (.len (.var 11)) (.var 12))) [.ret (.var 4)] [], .asg 13 (.idx (.var 11) (.bin .sub (.len (.var 11)) (.int 1))), .ite (.bop true (.cmp .eq (.var 9) (.str [115, 116])) (.bop false (.cmp .notin (.var 13) (.call0 2 )) (.cmp .lt (.len (.var 11)) (.int 4)))) [.ret (.var 4)] [], .ite (.bop true (.cmp .eq (.var 9) (.str [101, 116])) (.bop false (.cmp .notin (.var 13) (.call0 3 )) (.cmp .ne (.call2 11 (.var 11) (.glob 5)) (.str [])))) [.ret (.var 4)] [], .ret (.var 11)]
noncomputable def b14 : List S := [.asg 9 (.call2 11 (.var 4) (.glob 3)), .asg 11 (.sliceHi (.var 4) (.bin .sub (.len (.var 4)) (.len (.var 9)))), .ite (.bop false (.cmp .eq (.var 9) (.str [])) (.cmp .lt (.len (.var 11)) (.var 14))) [.ret (.var 4)] [], .ite (.cmp .isin (.var 9) (.strs [[105, 103], [105, 107], [105, 115, 99, 104]])) [.ret (.ite (.endsw (.var 11) (.str [101])) (.var 4) (.var 11))] [], .asg 15 (.var 14), .ite (.cmp .isin (.var 9) (.strs [[101, 110, 100], [117, 110, 103]])) [.asg 16 (.ite (.endsw (.var 11) (.str [101, 105, 103])) (.str []) (.call2 11 (.var 11) (.strs [[105, 103]])))] [.ite (.cmp .isin (.var 9) (.strs [[108, 105, 99, 104], [104, 101, 105, 116]])) [.asg 16 (.call2 11 (.var 11) (.strs [[101, 114], [101, 110]])), .asg 15 (.var 12)] [.asg 16 (.call2 11 (.var 11) (.strs [[105, 103], [108, 105, 99, 104]]))]], .ret (.ite (.cmp .ge (.bin .sub (.len (.var 11)) (.len (.var 16))) (.var 15)) (.sliceHi (.var 11) (.bin .sub (.len (.var 11)) (.len (.var 16)))) (.var 11))]
noncomputable def b15 : List S := [.asg 11 (.sliceHi (.var 4) (.bin .sub (.len (.var 4)) (.len (.call2 11 (.var 4) (.glob 4))))), .ret (.ite (.cmp .ge (.len (.var 11)) (.int 2)) (.var 11) (.var 4))]
noncomputable def b16 : List S := [.asg 4 (.call1 9 (.call1 7 (.var 4))), .asg 12 (.call2 10 (.var 4) (.int 0)), .asg 14 (.call2 10 (.var 4) (.var 12)), .asg 12 (.max (.var 12) (.int 3)), .asg 4 (.call2 12 (.var 4) (.var 12)), .asg 4 (.call2 13 (.var 4) (.var 12)), .asg 4 (.call3 14 (.var 4) (.var 12) (.var 14)), .asg 4 (.call1 15 (.var 4)), .ret (.join (.comp (.ite (.cmp .isin (.var 1) (.call0 5 )) (.idx (.call0 5 ) (.var 1)) (.var 1)) 1 (.var 4)))]
noncomputable def b17 : List S := [.asg 4 (.str []), .forL 17 (.var 20) [.asg 7 (.bin .mod (.var 17) (.int 86)), .asg 18 (.ite (.cmp .lt (.var 7) (.int 37)) (.idx (.glob 0) (.var 7)) (.idx (.call0 6 ) (.bin .sub (.var 7) (.int 37)))), .ite (.cmp .gt (.bin .add (.len (.var 4)) (.len (.var 18))) (.var 19)) [.brk] [], .asg 4 (.bin .add (.var 4) (.var 18))], .ret (.var 4)]
noncomputable def b18 : List S := [.asgF 0 (.var 21), .asgF 1 (.int 0), .asgF 2 (.len (.fld 0)), .asgF 3 (.int 0), .asgF 4 (.fld 1), .asgF 5 (.fld 2)]
noncomputable def b19 : List S := [.ret (.fld 0)]
noncomputable def b20 : List S := [.ite (.cmp .ge (.fld 1) (.fld 2)) [.ret (.bool false)] [], .ite (.cmp .notin (.idx (.fld 0) (.fld 1)) (.var 22)) [.ret (.bool false)] [], .augF 1 .add (.int 1), .ret (.bool true)]
noncomputable def b21 : List S := [.wh (.cmp .lt (.fld 1) (.fld 2)) [.ite (.cmp .notin (.idx (.fld 0) (.fld 1)) (.var 22)) [.ret (.bool true)] [], .augF 1 .add (.int 1)], .ret (.bool false)]
noncomputable def b22 : List S := [.ite (.cmp .le (.fld 1) (.fld 3)) [.ret (.bool false)] [], .ite (.cmp .notin (.idx (.fld 0) (.bin .sub (.fld 1) (.int 1))) (.var 22)) [.ret (.bool false)] [], .augF 1 .sub (.int 1), .ret (.bool true)]
noncomputable def b23 : List S := [.wh (.cmp .lt (.fld 1) (.fld 2)) [.ite (.cmp .isin (.idx (.fld 0) (.fld 1)) (.var 22)) [.ret (.bool true)] [], .augF 1 .add (.int 1)], .ret (.bool false)]
noncomputable def b24 : List S := [.ite (.endsw (.slice (.fld 0) (.fld 3) (.fld 1)) (.var 22)) [.augF 1 .sub (.len (.var 22)), .ret (.bool true)] [], .ret (.bool false)]
noncomputable def b25 : List S := [.asg 23 (.int 0), .asg 24 (.len (.var 25)), .asg 26 (.fld 1), .asg 27 (.fld 2), .asg 28 (.int 0), .asg 29 (.int 0), .asg 30 (.bool false), .wh (.bool true) [.asg 7 (.bin .add (.var 23) (.bin .shr (.bin .sub (.var 24) (.var 23)) (.int 1))), .asg 31 (.int 0), .asg 32 (.min (.var 28) (.var 29)), .asg 33 (.idx (.var 25) (.var 7)), .forR 34 (.var 32) (.len (.amgOf 33 0)) [.ite (.cmp .eq (.bin .add (.var 26) (.var 32)) (.var 27)) [.asg 31 .neg1, .brk] [], .asg 31 (.bin .sub (.ord (.idx (.fld 0) (.bin .add (.var 26) (.var 32)))) (.ord (.idx (.amgOf 33 0) (.var 34)))), .ite (.cmp .ne (.var 31) (.int 0)) [.brk] [], .aug 32 .add (.int 1)], .ite (.cmp .lt (.var 31) (.int 0)) [.asg 24 (.var 7), .asg 29 (.var 32)] [.asg 23 (.var 7), .asg 28 (.var 32)], .ite (.cmp .le (.bin .sub (.var 24) (.var 23)) (.int 1)) [.ite (.cmp .gt (.var 23) (.int 0)) [.brk] [], .ite (.cmp .eq (.var 24) (.var 23)) [.brk] [], .ite (.var 30) [.brk] [], .asg 30 (.bool true)] []], .wh (.bool true) [.asg 33 (.idx (.var 25) (.var 23)), .ite (.cmp .ge (.var 28) (.len (.amgOf 33 0))) [.asgF 1 (.bin .add (.var 26) (.len (.amgOf 33 0))), .ret (.amgOf 33 2)] [], .asg 23 (.amgOf 33 1), .ite (.cmp .lt (.var 23) (.int 0)) [.ret (.int 0)] []], .ret .neg1]
noncomputable def b26 : List S := [.asg 23 (.int 0), .asg 24 (.len (.var 25)), .asg 26 (.fld 1), .asg 35 (.fld 3), .asg 28 (.int 0), .asg 29 (.int 0), .asg 30 (.bool false), .wh (.bool true) [.asg 7 (.bin .add (.var 23) (.bin .shr (.bin .sub (.var 24) (.var 23)) (.int 1))), .asg 31 (.int 0), .asg 32 (.min (.var 28) (.var 29)), .asg 33 (.idx (.var 25) (.var 7)), .forD 34 (.bin .sub (.bin .sub (.len (.amgOf 33 0)) (.int 1)) (.var 32)) [.ite (.cmp .eq (.bin .sub (.var 26) (.var 32)) (.var 35)) [.asg 31 .neg1, .brk] [], .asg 31 (.bin .sub (.ord (.idx (.fld 0) (.bin .sub (.bin .sub (.var 26) (.int 1)) (.var 32)))) (.ord (.idx (.amgOf 33 0) (.var 34)))), .ite (.cmp .ne (.var 31) (.int 0)) [.brk] [], .aug 32 .add (.int 1)], .ite (.cmp .lt (.var 31) (.int 0)) [.asg 24 (.var 7), .asg 29 (.var 32)] [.asg 23 (.var 7), .asg 28 (.var 32)], .ite (.cmp .le (.bin .sub (.var 24) (.var 23)) (.int 1)) [.ite (.cmp .gt (.var 23) (.int 0)) [.brk] [], .ite (.cmp .eq (.var 24) (.var 23)) [.brk] [], .ite (.var 30) [.brk] [], .asg 30 (.bool true)] []], .wh (.bool true) [.asg 33 (.idx (.var 25) (.var 23)), .ite (.cmp .ge (.var 28) (.len (.amgOf 33 0))) [.asgF 1 (.bin .sub (.var 26) (.len (.amgOf 33 0))), .ret (.amgOf 33 2)] [], .asg 23 (.amgOf 33 1), .ite (.cmp .lt (.var 23) (.int 0)) [.ret (.int 0)] []], .ret .neg1]
noncomputable def b27 : List S := [.asg 36 (.bin .sub (.len (.var 22)) (.bin .sub (.var 37) (.var 38))), .asgF 0 (.bin .add (.bin .add (.slice (.fld 0) (.int 0) (.var 38)) (.var 22)) (.sliceLo (.fld 0) (.var 37))), .augF 2 .add (.var 36), .ite (.cmp .ge (.fld 1) (.var 37)) [.augF 1 .add (.var 36)] [.ite (.cmp .gt (.fld 1) (.var 38)) [.asgF 1 (.var 38)] []], .ret (.var 36)]
noncomputable def b28 : List S := [.assert (.cmp .ge (.fld 4) (.int 0)), .assert (.cmp .le (.fld 4) (.fld 5)), .assert (.cmp .le (.fld 5) (.fld 2)), .assert (.cmp .le (.fld 2) (.len (.fld 0))), .ex (.meth3 27 (.fld 4) (.fld 5) (.var 22)), .asgF 5 (.bin .add (.fld 4) (.len (.var 22)))]
noncomputable def b29 : List S := [.ret (.meth1 28 (.str []))]
noncomputable def b30 : List S := [.ret (.cmp .le (.fld 6) (.fld 1))]
noncomputable def b31 : List S := [.ret (.cmp .le (.fld 7) (.fld 1))]
noncomputable def b32 : List S := [.asg 39 (.fld 1), .wh (.bool true) [.asg 40 (.fld 1), .tryE [.wh (.bool true) [.asg 41 (.fld 1), .tryE [.ite (.not (.meth1 20 (.cattr 0))) [.raise 1] [], .asgF 4 (.fld 1), .wh (.bool true) [.asg 42 (.fld 1), .tryE [.ite (.bop false (.cmp .eq (.fld 1) (.fld 2)) (.cmp .ne (.idx (.fld 0) (.fld 1)) (.str [117]))) [.raise 2] [], .augF 1 .add (.int 1), .asgF 5 (.fld 1), .ite (.not (.meth1 20 (.cattr 0))) [.raise 2] [], .ex (.meth1 28 (.str [85])), .brk] 2, .asgF 1 (.var 42), .ite (.bop false (.cmp .eq (.fld 1) (.fld 2)) (.cmp .ne (.idx (.fld 0) (.fld 1)) (.str [121]))) [.raise 1] [], .augF 1 .add (.int 1), .asgF 5 (.fld 1), .ite (.not (.meth1 20 (.cattr 0))) [.raise 1] [], .ex (.meth1 28 (.str [89])), .brk], .asgF 1 (.var 41), .brk] 1, .asgF 1 (.var 41), .ite (.cmp .ge (.fld 1) (.fld 2)) [.raise 0] [], .augF 1 .add (.int 1)], .cont] 0, .asgF 1 (.var 40), .brk], .asgF 1 (.var 39), .wh (.bool true) [.asg 43 (.fld 1), .tryE [.asgF 4 (.fld 1), .asg 44 (.meth1 25 (.cattr 4)), .asgF 5 (.fld 1), .ite (.cmp .eq (.var 44) (.int 1)) [.ex (.meth1 28 (.str [115, 115]))] [.ite (.cmp .eq (.var 44) (.int 2)) [.ex (.meth1 28 (.str [228]))] [.ite (.cmp .eq (.var 44) (.int 3)) [.ex (.meth1 28 (.str [246]))] [.ite (.cmp .eq (.var 44) (.int 4)) [.ex (.meth1 28 (.str [252]))] [.ite (.cmp .eq (.var 44) (.int 5)) [.ite (.cmp .ge (.fld 1) (.fld 2)) [.raise 0] [], .augF 1 .add (.int 1)] []]]]], .cont] 0, .asgF 1 (.var 43), .brk], .ret (.bool true)]
noncomputable def b33 : List S := [.asgF 6 (.fld 2), .asgF 7 (.fld 2), .asg 39 (.fld 1), .ite (.cmp .gt (.bin .add (.fld 1) (.int 3)) (.fld 2)) [.ret (.bool false)] [], .augF 1 .add (.int 3), .asg 45 (.fld 1), .asgF 1 (.var 39), .ite (.not (.meth1 23 (.cattr 0))) [.ret (.bool false)] [], .augF 1 .add (.int 1), .ite (.not (.meth1 21 (.cattr 0))) [.ret (.bool false)] [], .augF 1 .add (.int 1), .asgF 6 (.fld 1), .tryE [.ite (.cmp .ge (.fld 6) (.var 45)) [.raise 0] [], .asgF 6 (.var 45)] 0, .ite (.not (.meth1 23 (.cattr 0))) [.ret (.bool false)] [], .augF 1 .add (.int 1), .ite (.not (.meth1 21 (.cattr 0))) [.ret (.bool false)] [], .augF 1 .add (.int 1), .asgF 7 (.fld 1), .ret (.bool true)]
noncomputable def b34 : List S := [.wh (.bool true) [.asg 39 (.fld 1), .tryE [.asgF 4 (.fld 1), .asg 44 (.meth1 25 (.cattr 5)), .asgF 5 (.fld 1), .ite (.cmp .eq (.var 44) (.int 1)) [.ex (.meth1 28 (.str [121]))] [.ite (.cmp .eq (.var 44) (.int 2)) [.ex (.meth1 28 (.str [117]))] [.ite (.cmp .eq (.var 44) (.int 3)) [.ex (.meth1 28 (.str [97]))] [.ite (.cmp .eq (.var 44) (.int 4)) [.ex (.meth1 28 (.str [111]))] [.ite (.cmp .ge (.fld 1) (.fld 2)) [.raise 0] [], .augF 1 .add (.int 1)]]]], .cont] 0, .asgF 1 (.var 39), .brk], .ret (.bool true)]
noncomputable def b35 : List S := [.asg 39 (.bin .sub (.fld 2) (.fld 1)), .tryE [.asgF 5 (.fld 1), .asg 44 (.meth1 26 (.cattr 6)), .ite (.cmp .eq (.var 44) (.int 0)) [.raise 0] [], .asgF 4 (.fld 1), .ite (.not (.meth0 30 )) [.raise 0] [], .ite (.cmp .eq (.var 44) (.int 1)) [.tryE [.ite (.not (.meth1 24 (.str [115, 121, 115, 116]))) [.raise 1] [], .raise 0] 1, .ex (.meth0 29 )] [.ite (.cmp .eq (.var 44) (.int 2)) [.ex (.meth0 29 )] [.ite (.cmp .eq (.var 44) (.int 3)) [.ex (.meth0 29 ), .asg 40 (.bin .sub (.fld 2) (.fld 1)), .tryE [.asgF 5 (.fld 1), .ite (.bop false (.cmp .le (.fld 1) (.fld 3)) (.cmp .ne (.idx (.fld 0) (.bin .sub (.fld 1) (.int 1))) (.str [115]))) [.asgF 1 (.bin .sub (.fld 2) (.var 40)), .raise 1] [], .augF 1 .sub (.int 1), .asgF 4 (.fld 1), .ite (.not (.meth1 24 (.str [110, 105, 115]))) [.asgF 1 (.bin .sub (.fld 2) (.var 40)), .raise 1] [], .ex (.meth0 29 )] 1] [.ite (.cmp .eq (.var 44) (.int 4)) [.ite (.not (.meth1 22 (.cattr 2))) [.raise 0] [], .ex (.meth0 29 )] [.ex (.meth1 28 (.str [108]))]]]]] 0, .asgF 1 (.bin .sub (.fld 2) (.var 39)), .asg 41 (.bin .sub (.fld 2) (.fld 1)), .tryE [.asgF 5 (.fld 1), .asg 44 (.meth1 26 (.cattr 8)), .ite (.cmp .eq (.var 44) (.int 0)) [.raise 0] [], .asgF 4 (.fld 1), .ite (.not (.meth0 30 )) [.raise 0] [], .ite (.cmp .eq (.var 44) (.int 1)) [.ex (.meth0 29 )] [.ite (.cmp .eq (.var 44) (.int 2)) [.ite (.not (.meth1 22 (.cattr 3))) [.raise 0] [], .ite (.cmp .lt (.bin .sub (.fld 1) (.int 3)) (.fld 3)) [.raise 0] [], .augF 1 .sub (.int 3), .ex (.meth0 29 )] [.asg 42 (.bin .sub (.fld 2) (.fld 1)), .ite (.not (.meth1 22 (.cattr 1))) [.raise 0] [], .asgF 1 (.bin .sub (.fld 2) (.var 42)), .asg 43 (.bin .sub (.fld 2) (.fld 1)), .tryE [.ite (.cmp .eq (.meth1 26 (.cattr 7)) (.int 0)) [.raise 1] [], .raise 0] 1, .asgF 1 (.bin .sub (.fld 2) (.var 43)), .ex (.meth0 29 )]]] 0, .asgF 1 (.bin .sub (.fld 2) (.var 41)), .asg 46 (.bin .sub (.fld 2) (.fld 1)), .tryE [.asgF 5 (.fld 1), .asg 44 (.meth1 26 (.cattr 10)), .ite (.cmp .eq (.var 44) (.int 0)) [.raise 0] [], .asgF 4 (.fld 1), .ite (.not (.meth0 31 )) [.raise 0] [], .ite (.cmp .eq (.var 44) (.int 1)) [.ex (.meth0 29 ), .asg 47 (.bin .sub (.fld 2) (.fld 1)), .tryE [.asgF 5 (.fld 1), .ite (.not (.meth1 24 (.str [105, 103]))) [.asgF 1 (.bin .sub (.fld 2) (.var 47)), .raise 1] [], .asgF 4 (.fld 1), .tryE [.ite (.bop false (.cmp .le (.fld 1) (.fld 3)) (.cmp .ne (.idx (.fld 0) (.bin .sub (.fld 1) (.int 1))) (.str [101]))) [.raise 2] [], .augF 1 .sub (.int 1), .asgF 1 (.bin .sub (.fld 2) (.var 47)), .raise 1] 2, .ite (.not (.meth0 31 )) [.asgF 1 (.bin .sub (.fld 2) (.var 47)), .raise 1] [], .ex (.meth0 29 )] 1] [.ite (.cmp .eq (.var 44) (.int 2)) [.tryE [.ite (.bop false (.cmp .le (.fld 1) (.fld 3)) (.cmp .ne (.idx (.fld 0) (.bin .sub (.fld 1) (.int 1))) (.str [101]))) [.raise 1] [], .augF 1 .sub (.int 1), .raise 0] 1, .ex (.meth0 29 )] [.ite (.cmp .eq (.var 44) (.int 3)) [.ex (.meth0 29 ), .asg 48 (.bin .sub (.fld 2) (.fld 1)), .tryE [.asgF 5 (.fld 1), .wh (.bool true) [.tryE [.ite (.not (.meth1 24 (.str [101, 114]))) [.raise 2] [], .brk] 2, .ite (.not (.meth1 24 (.str [101, 110]))) [.asgF 1 (.bin .sub (.fld 2) (.var 48)), .raise 1] [], .brk], .asgF 4 (.fld 1), .ite (.not (.meth0 30 )) [.asgF 1 (.bin .sub (.fld 2) (.var 48)), .raise 1] [], .ex (.meth0 29 )] 1] [.ex (.meth0 29 ), .asg 49 (.bin .sub (.fld 2) (.fld 1)), .tryE [.asgF 5 (.fld 1), .ite (.cmp .eq (.meth1 26 (.cattr 9)) (.int 0)) [.asgF 1 (.bin .sub (.fld 2) (.var 49)), .raise 1] [], .asgF 4 (.fld 1), .ite (.not (.meth0 31 )) [.asgF 1 (.bin .sub (.fld 2) (.var 49)), .raise 1] [], .ex (.meth0 29 )] 1]]]] 0, .asgF 1 (.bin .sub (.fld 2) (.var 46)), .asg 50 (.bin .sub (.fld 2) (.fld 1)), .tryE [.asgF 5 (.fld 1), .ite (.cmp .eq (.meth1 26 (.cattr 11)) (.int 0)) [.raise 0] [], .asgF 4 (.fld 1), .ite (.cmp .le (.fld 1) (.fld 3)) [.raise 0] [], .augF 1 .sub (.int 1), .ite (.cmp .le (.fld 1) (.fld 3)) [.raise 0] [], .ex (.meth0 29 )] 0, .asgF 1 (.bin .sub (.fld 2) (.var 50)), .ret (.bool true)]
noncomputable def b36 : List S := [.asg 39 (.fld 1), .ex (.meth0 32 ), .asgF 1 (.var 39), .asg 40 (.fld 1), .ex (.meth0 33 ), .asgF 1 (.var 40), .asgF 3 (.fld 1), .asgF 1 (.fld 2), .ex (.meth0 35 ), .asgF 1 (.fld 3), .asg 41 (.fld 1), .ex (.meth0 34 ), .asgF 1 (.var 41), .ret (.bool true)]
noncomputable def b37 : List S := [.ex (.meth1 18 (.var 4)), .ex (.meth0 36 ), .ret (.meth0 19 )]
noncomputable def b38 : List S := [.ret (.comp (.meth1 37 (.var 4)) 4 (.var 51))]
noncomputable def b39 : List S := [.ex (.meth1 18 (.str []))]
theorem rep0 : repL (dS (top 23)) b0 (dB (top 23)) = true := by kernel_rfl
theorem rep1 : repL (dS (top 17)) b1 (dB (top 17)) = true := by kernel_rfl
theorem rep2 : repL (dS (top 18)) b2 (dB (top 18)) = true := by kernel_rfl
theorem rep3 : repL (dS (top 19)) b3 (dB (top 19)) = true := by kernel_rfl
theorem rep4 : repL (dS (top 21)) b4 (dB (top 21)) = true := by kernel_rfl
theorem rep5 : repL (dS (top 22)) b5 (dB (top 22)) = true := by kernel_rfl
theorem rep6 : repL (dS (top 12)) b6 (dB (top 12)) = true := by kernel_rfl
theorem rep7 : repL (dS (top 24)) b7 (dB (top 24)) = true := by kernel_rfl
theorem rep8 : repL (dS (top 25)) b8 (dB (top 25)) = true := by kernel_rfl
theorem rep9 : repL (dS (top 26)) b9 (dB (top 26)) = true := by kernel_rfl
theorem rep10 : repL (dS (top 27)) b10 (dB (top 27)) = true := by kernel_rfl
theorem rep11 : repL (dS (top 28)) b11 (dB (top 28)) = true := by kernel_rfl
theorem rep12 : repL (dS (top 29)) b12 (dB (top 29)) = true := by kernel_rfl
theorem rep13 : repL (dS (top 30)) b13 (dB (top 30)) = true := by kernel_rfl
theorem rep14 : repL (dS (top 31)) b14 (dB (top 31)) = true := by kernel_rfl
theorem rep15 : repL (dS (top 32)) b15 (dB (top 32)) = true := by kernel_rfl
theorem rep16 : repL (dS (top 33)) b16 (dB (top 33)) = true := by kernel_rfl
theorem rep17 : repL (dS (top 34)) b17 (dB (top 34)) = true := by kernel_rfl
theorem rep18 : repL (dS (sub 2 1)) b18 (dB (sub 2 1)) = true := by kernel_rfl
theorem rep19 : repL (dS (sub 2 2)) b19 (dB (sub 2 2)) = true := by kernel_rfl
theorem rep20 : repL (dS (sub 2 4)) b20 (dB (sub 2 4)) = true := by kernel_rfl
theorem rep21 : repL (dS (sub 2 5)) b21 (dB (sub 2 5)) = true := by kernel_rfl
theorem rep22 : repL (dS (sub 2 6)) b22 (dB (sub 2 6)) = true := by kernel_rfl
theorem rep23 : repL (dS (sub 2 9)) b23 (dB (sub 2 9)) = true := by kernel_rfl
theorem rep24 : repL (dS (sub 2 13)) b24 (dB (sub 2 13)) = true := by kernel_rfl
theorem rep25 : repL (dS (sub 2 14)) b25 (dB (sub 2 14)) = true := by kernel_rfl
theorem rep26 : repL (dS (sub 2 15)) b26 (dB (sub 2 15)) = true := by kernel_rfl
theorem rep27 : repL (dS (sub 2 16)) b27 (dB (sub 2 16)) = true := by kernel_rfl
theorem rep28 : repL (dS (sub 2 17)) b28 (dB (sub 2 17)) = true := by kernel_rfl
theorem rep29 : repL (dS (sub 2 18)) b29 (dB (sub 2 18)) = true := by kernel_rfl
theorem rep30 : repL (dS (sub 6 9)) b30 (dB (sub 6 9)) = true := by kernel_rfl
theorem rep31 : repL (dS (sub 6 10)) b31 (dB (sub 6 10)) = true := by kernel_rfl
theorem rep32 : repL (dS (sub 6 6)) b32 (dB (sub 6 6)) = true := by kernel_rfl
theorem rep33 : repL (dS (sub 6 7)) b33 (dB (sub 6 7)) = true := by kernel_rfl
theorem rep34 : repL (dS (sub 6 8)) b34 (dB (sub 6 8)) = true := by kernel_rfl
theorem rep35 : repL (dS (sub 6 11)) b35 (dB (sub 6 11)) = true := by kernel_rfl
theorem rep36 : repL (dS (sub 6 12)) b36 (dB (sub 6 12)) = true := by kernel_rfl
theorem rep37 : repL (dS (sub 2 22)) b37 (dB (sub 2 22)) = true := by kernel_rfl
theorem rep39 : repL (dS (sub 2 0)) b39 (dB (sub 2 0)) = true := by kernel_rfl
noncomputable def E.kd : E -> Nat := fun e => match e with
  | .none .. | .bool .. | .int .. | .str .. => 19
  | .neg1 .. | .not .. => 3
  | .var .. | .glob .. => 23
  | .fld .. | .cattr .. | .amgOf .. => 20
  | .bin .. => 2
  | .cmp .. => 15
  | .bop .. => 0
  | .ite .. => 5
  | .idx .. | .slice .. | .sliceLo .. | .sliceHi .. => 21
  | .strs .. | .list2 .. => 24
  | .dict .. => 6
  | .comp .. => 8
  | _ => 16
theorem rep_kd {sc : Scope} {e : E} {x : Expr} : rep sc e x = true -> x.ctorIdx = e.kd := by
  cases e with
  | «none» | bool | «int» | «str» => exact fun h => onConstant_inv h fun _ _ _ _ => rfl
  | neg1 | «not» => exact fun h => onUnaryOp_inv h fun _ _ _ _ => rfl
  | var | glob => exact fun h => onName_inv h fun _ _ _ => rfl
  | fld | cattr | amgOf => exact fun h => onAttribute_inv h fun _ _ _ _ => rfl
  | «bin» => exact fun h => onBinOp_inv h fun _ _ _ _ _ => rfl
  | cmp => exact fun h => onCompare_inv h fun _ _ _ _ _ => rfl
  | bop => exact fun h => onBoolOp_inv h fun _ _ _ _ => rfl
  | ite => exact fun h => onIfExp_inv h fun _ _ _ _ _ => rfl
  | idx | slice | sliceLo | sliceHi => exact fun h => onSubscript_inv h fun _ _ _ _ => rfl
  | len | ord | min | max | call0 | call1 | call2 | call3 | meth0 | meth1 | meth3 | ometh1 | endsw | join => exact fun h => onCall_inv h fun _ _ _ _ _ => rfl
  | «strs» | list2 => exact fun h => onList_inv h fun _ _ _ => rfl
  | «dict» => exact fun h => onDict_inv h fun _ _ _ _ => rfl
  | «comp» => exact fun h => onListComp_inv h fun _ _ _ _ _ => rfl
noncomputable def okK (n : Nat) : Bool := [0, 2, 3, 5, 6, 8, 15, 16, 19, 20, 21, 23, 24].contains n
theorem kd_ok (e : E) : okK e.kd = true := by cases e <;> rfl
theorem rep_ok {sc : Scope} {e : E} {x : Expr} (h : rep sc e x = true) : okK x.ctorIdx = true := (rep_kd h).symm ▸ kd_ok e
theorem kd_comp {e : E} (h : Nat.beq e.kd 8 = true) : e.noComp = false := by cases e with | «comp» => rfl | _ => exact Bool.noConfusion h
end
section
open PySem PySem.W PyProof.Rows
set_option genInjectivity false in
set_option genSizeOf false in
structure Cx where
  w : World
  A : Around
  env : Env
  L : Addr
  fl : List Env
  g : Option (Addr × Addr)
  av : List Addr
noncomputable abbrev Cx.fr (c : Cx) : List Addr := c.fl.filterMap (·.frame)
noncomputable abbrev Cx.P (c : Cx) : Params := c.w.params
noncomputable abbrev Cx.M (c : Cx) : Model := model prg c.w
set_option genInjectivity false in
set_option genSizeOf false in
structure Cx.Ok (lv : Nat) (c : Cx) : Prop where
  frames : c.A.frames = some c.fl
  depth : c.A.depth <= 310 + (41 - lv) * 8
  units : c.A.units <= 40 + (41 - lv) * 100
  le : lv <= 40
  hand : c.A.handled = none
  glo : c.env.globals = mainGlobals
  loc : c.env.locals = c.L
  blt : c.env.builtins = builtinsNs
  kind : c.env.scope.kind = .function
  hiF : ∀ a ∈ c.fr, 607 <= a
  hiL : 607 <= c.L
  gx : ∀ p, c.g = some p -> 607 <= p.1 /\ 607 <= p.2 /\ p.1 ≠ p.2 /\ c.L ≠ p.1 /\ c.L ≠ p.2 /\ p.1 ∉ c.fr /\ p.2 ∉ c.fr
  hiA : ∀ a ∈ c.av, 607 <= a
noncomputable def Up (o o' : Obj) : Prop := ∃ sl, o' = { o with slots := sl }
theorem Up.refl (o : Obj) : Up o o := ⟨o.slots, rfl⟩
theorem Up.trans {a b c : Obj} (x : Up a b) (y : Up b c) : Up a c := by
  obtain ⟨s, rfl⟩ := x; obtain ⟨t, rfl⟩ := y; exact ⟨t, rfl⟩
structure StpX (fr : List Addr) (g : Option (Addr × Addr)) (ex : Addr -> Prop) (s s' : Shared) : Prop where
  heap : ∀ b o, s.heap.get? b = some o -> ∃ o', s'.heap.get? b = some o' /\ (¬ ex b -> (∀ p, g = some p -> b ≠ p.2) -> (b ∉ fr -> o' = o) /\ (b ∈ fr -> Up o o'))
  gens : s'.gens = s.gens
  os : s'.os = s.os
noncomputable abbrev Stp (c : Cx) (s s' : Shared) : Prop := StpX c.fr c.g (· = c.L) s s'
section
variable {fr : List Addr} {g : Option (Addr × Addr)} {ex : Addr -> Prop} {s s' s'' : Shared}
theorem StpX.refl (s : Shared) : StpX fr g ex s s := ⟨fun b o h => ⟨o, h, fun _ _ => ⟨fun _ => rfl, fun _ => Up.refl o⟩⟩, rfl, rfl⟩
theorem StpX.trans (x : StpX fr g ex s s') (y : StpX fr g ex s' s'') : StpX fr g ex s s'' := by
  refine ⟨fun b o h => ?_, y.gens.trans x.gens, y.os.trans x.os⟩
  obtain ⟨o', h', k'⟩ := x.heap b o h
  obtain ⟨o'', h'', k''⟩ := y.heap b o' h'
  refine ⟨o'', h'', fun e1 e2 => ?_⟩
  obtain ⟨a1, a2⟩ := k' e1 e2
  obtain ⟨b1, b2⟩ := k'' e1 e2
  exact ⟨fun hb => (b1 hb).trans (a1 hb), fun hb => (a2 hb).trans (b2 hb)⟩
theorem StpX.of_keeps (k : ∀ b o, s.heap.get? b = some o -> s'.heap.get? b = some o) (hg : s'.gens = s.gens) (ho : s'.os = s.os) : StpX fr g ex s s' :=
  ⟨fun b o h => ⟨o, k b o h, fun _ _ => ⟨fun _ => rfl, fun _ => Up.refl o⟩⟩, hg, ho⟩
theorem StpX.same {b : Addr} {o : Obj} (x : StpX fr g ex s s') (h : s.heap.get? b = some o) (e1 : ¬ ex b) (e2 : ∀ p, g = some p -> b ≠ p.2) (e3 : b ∉ fr) : s'.heap.get? b = some o := by
  obtain ⟨o', h', k⟩ := x.heap b o h
  rw [(k e1 e2).1 e3] at h'; exact h'
theorem StpX.sameBut {a : Addr} {h' : Heap} {t : Nat} (hs : Heap.SameBut a s.heap h') (al : (h'.get? a).isSome = true) (e : ex a) : StpX fr g ex s { s with heap := h', toks := t } := by
  refine ⟨fun b o hb => ?_, rfl, rfl⟩
  by_cases q : b = a
  · subst q
    obtain ⟨o', h1⟩ := Option.isSome_iff_exists.mp al
    exact ⟨o', h1, fun n => absurd e n⟩
  · exact ⟨o, (hs.2 b q).trans hb, fun _ _ => ⟨fun _ => rfl, fun _ => Up.refl o⟩⟩
end
noncomputable def Cx.safe (c : Cx) (a : Addr) : Prop := a ≠ c.L /\ a ∉ c.fr /\ (∀ p, c.g = some p -> a ≠ p.2) /\ a ∉ c.av
theorem Cx.Ok.safe_low {lv : Nat} {c : Cx} (k : c.Ok lv) {a : Addr} (h : a < 607) : c.safe a := by
  refine ⟨fun e => ?_, fun m => ?_, fun p hp e => ?_, fun m => absurd h (Nat.not_lt.mpr (k.hiA a m))⟩
  · exact absurd h (Nat.not_lt.mpr (e ▸ k.hiL))
  · exact absurd h (Nat.not_lt.mpr (k.hiF a m))
  · exact absurd h (Nat.not_lt.mpr (e ▸ (k.gx p hp).2.1))
theorem Stp.safe {c : Cx} {s s' : Shared} {a : Addr} {o : Obj} (x : Stp c s s') (h : c.safe a) (e : s.heap.get? a = some o) : s'.heap.get? a = some o :=
  x.same e h.1 h.2.2.1 h.2.1
theorem Left.stp {lv : Nat} {c : Cx} (k : c.Ok lv) {s s' : Shared} (x : Stp c s s') (h : Left c.P s.heap) : Left c.P s'.heap :=
  fun a ha o ho hl => x.safe (k.safe_low ha) (h a ha o ho hl)
noncomputable def intsAre : List Int -> List Value -> Prop
  | [], [] => True
  | i :: r, v :: q => (∃ t, v = .int i t) /\ intsAre r q
  | _, _ => False
noncomputable def strsAre : List (List Nat) -> List Value -> Prop
  | [], [] => True
  | l :: r, v :: q => (∃ t, v = .str (sLit l) t) /\ strsAre r q
  | _, _ => False
noncomputable def atTop (P : Params) (a : Addr) (o : Obj) : Prop := a < 607 /\ (TB36 P).get a = some o /\ alive o = some o
noncomputable def amgAt (P : Params) (x : Amg) (v : Value) : Prop := ∃ a d oa od t1 t2 t3, v = .ref a /\ atTop P a oa /\ oa.cls = .ref 218 /\ notCls oa = true /\ oa.dict = some d /\ atTop P d od ∧
  lookIn (amgS 0) od = some (some (.str (sLit x.s) t1)) /\ lookIn (amgS 1) od = some (some (.int x.sub t2)) /\ lookIn (amgS 2) od = some (some (.int x.res t3))
noncomputable def amgsAre (P : Params) : List Amg -> List Value -> Prop
  | [], [] => True
  | l :: r, v :: q => amgAt P l v /\ amgsAre P r q
  | _, _ => False
noncomputable def kvsAre : List (List Nat × List Nat) -> List (Str × Value) -> Prop
  | [], [] => True
  | l :: r, v :: q => (∃ t, v = (sLit l.1, .str (sLit l.2) t)) /\ kvsAre r q
  | _, _ => False
noncomputable def VR (c : Cx) (h : Heap) : MV -> Value -> Prop
  | .none, v => v = .none
  | .bool b, v => v = .bool b
  | .int i, v => ∃ t, v = .int i t
  | .str l, v => ∃ t, v = .str (sLit l) t
  | .obj, v => ∃ p, c.g = some p /\ v = .ref p.1
  | .strs l, v => ∃ a vs, v = .ref a /\ c.safe a /\ h.IsList a ⟨vs⟩ /\ strsAre l vs
  | .ints l, v => ∃ a vs, v = .ref a /\ c.safe a /\ h.IsList a ⟨vs⟩ /\ intsAre l vs
  | .tab l, v => ∃ a vs, v = .ref a /\ atTop c.P a ⟨.type "list", none, .seq ⟨vs⟩ 0, #[]⟩ /\ amgsAre c.P l vs
  | .amg x, v => amgAt c.P x v
  | .set l, v => ∃ a d, v = .ref a /\ atTop c.P a (setObj d) /\ ∃ vs, SetOk c.P d vs /\ vs.map (·.1) = l.map fun x => sLit [x]
  | .dict l, v => ∃ a kvs, v = .ref a /\ c.safe a /\ a ≠ sysModules /\ h.DictOf (strKind prg c.w) a kvs /\ kvsAre l kvs
theorem VR.map {c : Cx} {A : Around} {en : Env} {L : Addr} {fl : List Env} {g : Option (Addr × Addr)} {av : List Addr} {h h' : Heap} (hg : ∀ p, c.g = some p -> g = some p)
    (hs : ∀ {a o}, c.safe a -> h.get? a = some o -> (∀ vs, o.data ≠ .fields vs) -> Cx.safe ⟨c.w, A, en, L, fl, g, av⟩ a /\ h'.get? a = some o) {m : MV} {v : Value} (r : VR c h m v) : VR ⟨c.w, A, en, L, fl, g, av⟩ h' m v := by
  have hl : ∀ {a vs}, c.safe a -> h.IsList a vs -> Cx.safe ⟨c.w, A, en, L, fl, g, av⟩ a /\ h'.IsList a vs := by
    intro a vs sf b
    obtain ⟨o, ho, hc, n, hd⟩ := b
    have k := hs sf ho fun _ q => Data.noConfusion (hd.symm.trans q)
    exact ⟨k.1, o, k.2, hc, n, hd⟩
  cases m with
  | «obj» => obtain ⟨p, hp, e⟩ := r; exact ⟨p, hg p hp, e⟩
  | «strs» l => obtain ⟨a, vs, e, sf, b, q⟩ := r; exact ⟨a, vs, e, (hl sf b).1, (hl sf b).2, q⟩
  | «ints» l => obtain ⟨a, vs, e, sf, b, q⟩ := r; exact ⟨a, vs, e, (hl sf b).1, (hl sf b).2, q⟩
  | «dict» l =>
    obtain ⟨a, kvs, e, sf, ns, ⟨o, es, ep, ho, hc, hd, r⟩, q⟩ := r
    have k := hs sf ho fun _ q => Data.noConfusion (hd.symm.trans q)
    exact ⟨a, kvs, e, k.1, ns, ⟨o, es, ep, k.2, hc, hd, r⟩, q⟩
  | _ => exact r
theorem VR.stp {c : Cx} {s s' : Shared} (x : Stp c s s') {m : MV} {v : Value} (r : VR c s.heap m v) : VR c s'.heap m v := VR.map (fun _ e => e) (fun sf ho _ => ⟨sf, x.safe sf ho⟩) r
noncomputable abbrev instO (dx : Addr) : Obj := { cls := .ref 431, dict := some dx }
structure ObR (c : Cx) (h : Heap) (x dx : Addr) (o : Ob) : Prop where
  inst : h.get? x = some (instO dx)
  ns : ∃ m, h.Ns1 dx m /\ (∀ f v, f < 6 -> o.get f = some v -> ∃ y, m (fldS f) = some y /\ VR c h v y) ∧
    (∀ f, f = 6 \/ f = 7 -> (m (fldS f) = none /\ o.get f = some (.int 0)) \/ ∃ i t, o.get f = some (.int i) /\ m (fldS f) = some (.int i t)) ∧
    (∀ n v, m n = some v -> ∃ f, f < 8 /\ n = fldS f)
noncomputable def ObI (c : Cx) (h : Heap) (ob : Option Ob) : Prop := match c.g, ob with
  | none, none => True
  | some p, some o => ObR c h p.1 p.2 o
  | _, _ => False
noncomputable def FrI (c : Cx) (h : Heap) : Prop := ∀ e ∈ c.fl, e.scope.kind ≠ .module /\ ∃ a o, e.frame = some a /\ h.get? a = some o /\ ∃ es n, o.data = .dict es n
structure Inv0 (c : Cx) (ob : Option Ob) (s : Shared) : Prop where
  left : Left c.P s.heap
  ob : ObI c s.heap ob
  frs : FrI c s.heap
  avs : ∀ a ∈ c.av, s.heap.get? a ≠ none
structure Inv (c : Cx) (st : St) (s : Shared) : Prop extends Inv0 c st.ob s where
  ns : ∃ m, s.heap.Ns c.L m /\ ∀ v x, st.loc.lookup v = some x -> ∃ y, m (nmS v) = some y /\ VR c s.heap x y
structure Ext (s s' : Shared) : Prop where
  heap : ∀ b o, s.heap.get? b = some o -> s'.heap.get? b = some o
  gens : s'.gens = s.gens
  os : s'.os = s.os
theorem Ext.refl (s : Shared) : Ext s s := ⟨fun _ _ h => h, rfl, rfl⟩
theorem Ext.trans {a b c : Shared} (x : Ext a b) (y : Ext b c) : Ext a c := ⟨fun p o h => y.heap p o (x.heap p o h), y.gens.trans x.gens, y.os.trans x.os⟩
theorem Ext.toks (s : Shared) (t : Nat) : Ext s { s with toks := t } := ⟨fun _ _ h => h, rfl, rfl⟩
theorem Ext.push (s : Shared) (o : Obj) (t : Nat) : Ext s { s with heap := s.heap.push o, toks := t } := ⟨fun _ _ h => Heap.get?_push_of_some _ h, rfl, rfl⟩
theorem Ext.stp {fr g ex} {s s' : Shared} (x : Ext s s') : StpX fr g ex s s' := StpX.of_keeps x.heap x.gens x.os
theorem Ext.ns {s s' : Shared} {a : Addr} {m} (x : Ext s s') (h : s.heap.Ns a m) : s'.heap.Ns a m := by
  obtain ⟨o, es, ep, ho, r⟩ := h
  exact ⟨o, es, ep, x.heap _ _ ho, r⟩
theorem VR.ext {c : Cx} {s s' : Shared} (x : Ext s s') {m : MV} {v : Value} (h : VR c s.heap m v) : VR c s'.heap m v := VR.stp (x.stp) h
theorem ObR.ext {c : Cx} {s s' : Shared} {x dx : Addr} {o : Ob} (e : Ext s s') (h : ObR c s.heap x dx o) : ObR c s'.heap x dx o := by
  obtain ⟨h1, m, hn, a, b, d⟩ := h
  exact ⟨e.heap _ _ h1, m, hn.keeps e.heap, fun f v hf hv => let ⟨y, p, q⟩ := a f v hf hv; ⟨y, p, q.ext e⟩, b, d⟩
theorem ObI.ext {c : Cx} {s s' : Shared} {ob : Option Ob} (e : Ext s s') (h : ObI c s.heap ob) : ObI c s'.heap ob := by
  unfold ObI at *
  cases hg : c.g with
  | none => rw [hg] at h; cases ob with
    | none => trivial
    | some o => exact h
  | some p => rw [hg] at h; cases ob with
    | none => exact h
    | some o => exact ObR.ext e h
theorem Inv0.ext {c : Cx} {ob : Option Ob} {s s' : Shared} (e : Ext s s') (h : Inv0 c ob s) : Inv0 c ob s' :=
  ⟨fun a ha o ho hl => e.heap _ _ (h.left a ha o ho hl), h.ob.ext e, fun x hx => let ⟨a, b, o, p, q, r⟩ := h.frs x hx; ⟨a, b, o, p, e.heap _ _ q, r⟩, fun a ha q => by
    obtain ⟨o, ho⟩ := Option.ne_none_iff_exists'.mp (h.avs a ha)
    rw [e.heap _ _ ho] at q; cases q⟩
theorem Inv.ext {c : Cx} {st : St} {s s' : Shared} (e : Ext s s') (h : Inv c st s) : Inv c st s' :=
  ⟨h.toInv0.ext e, let ⟨m, a, b⟩ := h.ns; ⟨m, e.ns a, fun v x hv => let ⟨y, p, q⟩ := b v x hv; ⟨y, p, q.ext e⟩⟩⟩
noncomputable abbrev PostE (c : Cx) (s : Shared) (k : MV -> St -> Prop) : Value -> Shared -> Prop := fun v s' => ∃ a st', VR c s'.heap a v /\ Inv c st' s' /\ Stp c s s' /\ k a st'
theorem PostE.ext {c : Cx} {s s' : Shared} {k : MV -> St -> Prop} {v : Value} {a : MV} {st : St} (e : Ext s s') (I : Inv c st s) (hv : VR c s'.heap a v) (hk : k a st) : PostE c s k v s' := ⟨a, st, hv, I.ext e, e.stp, hk⟩
theorem PostE.later {c : Cx} {s s₁ s' : Shared} {k : MV -> St -> Prop} {v : Value} (x : Stp c s s₁) (h : PostE c s₁ k v s') : PostE c s k v s' :=
  let ⟨a, st, p, q, r, t⟩ := h; ⟨a, st, p, q, x.trans r, t⟩
noncomputable abbrev No : Value -> Shared -> Prop := fun _ _ => False
noncomputable def SndE (G : Stat) (O : Orc) (e : E) : Prop := ∀ c, c.Ok O.lv -> ∀ x, rep c.env.scope e x = true -> ∀ st s (k : MV -> St -> Prop), Inv c st s -> VE G O e st k -> wpAny c.M c.A (eval x c.env) (PostE c s k) No s
theorem SndE.then {G : Stat} {O : Orc} {e : E} (h : SndE G O e) {c : Cx} (ok : c.Ok O.lv) {x : Expr} (r : rep c.env.scope e x = true) {st : St} {s : Shared} {k : MV -> St -> Prop} (I : Inv c st s) (v : VE G O e st k)
    {Q : Value -> Shared -> Prop} (next : ∀ y s₁ a st₁, VR c s₁.heap a y -> Inv c st₁ s₁ -> Stp c s s₁ -> k a st₁ -> Q y s₁) : wpAny c.M c.A (eval x c.env) Q No s :=
  wpAny_mono (h c ok x r st s k I v) (fun y s₁ ⟨a, st₁, h1, h2, h3, h4⟩ => next y s₁ a st₁ h1 h2 h3 h4) fun _ _ z => z
theorem dbg_ne {x : Str} (h : (!(x == dbg)) = true) : (x == ("__debug__" : Str)) = false := by
  have e : dbg = ("__debug__" : Str) := by decide +kernel
  rw [e] at h
  exact Bool.not_eq_true' _ ▸ h
theorem isLoc_spec {sc : Scope} {x : Str} (h : isLoc sc x = true) : sc.names.lookup x = some .local /\ (x == ("__debug__" : Str)) = false := by
  unfold isLoc at h
  obtain ⟨a, b⟩ := Bool.and_eq_true_iff.mp h
  exact ⟨of_decide_eq_true a, dbg_ne b⟩
theorem isGlb_spec {sc : Scope} {x : Str} (h : isGlb sc x = true) : sc.names.lookup x = some .globalImplicit /\ (x == ("__debug__" : Str)) = false := by
  unfold isGlb at h
  obtain ⟨a, b⟩ := Bool.and_eq_true_iff.mp h
  exact ⟨of_decide_eq_true a, dbg_ne b⟩
theorem locName_spec {sc : Scope} {v : Nat} {x : Expr} (h : locName sc v x = true) : ∃ pos, x = .Name (nmS v) pos /\ sc.names.lookup (nmS v) = some .local /\ (nmS v == ("__debug__" : Str)) = false := by
  refine onName_inv h fun y pos h => an2c h fun a b => ?_
  cases eq_of_beq a
  exact ⟨pos, rfl, isLoc_spec b⟩
theorem glbName_spec {sc : Scope} {n : Str} {x : Expr} (h : glbName sc n x = true) : ∃ pos, x = .Name n pos /\ sc.names.lookup n = some .globalImplicit /\ (n == ("__debug__" : Str)) = false := by
  refine onName_inv h fun y pos h => an2c h fun a b => ?_
  cases eq_of_beq a
  exact ⟨pos, rfl, isGlb_spec b⟩
theorem ld_loc {c : Cx} {lv : Nat} (ok : c.Ok lv) {v : Nat} {x : Expr} (h : locName c.env.scope v x = true) {st : St} {s : Shared} (I : Inv c st s) {a : MV} (ha : st.loc.lookup v = some a) {Q : Value -> Shared -> Prop} {E : Value -> Shared -> Prop}
    (q : ∀ y, VR c s.heap a y -> Q y s) : wpAny c.M c.A (eval x c.env) Q E s := by
  obtain ⟨pos, rfl, h1, h2⟩ := locName_spec h
  obtain ⟨m, hm, hb⟩ := I.ns
  obtain ⟨y, hy, hv⟩ := hb v a ha
  exact wpAny_Name (wpAny_loadName_local ok.kind h1 (by rw [ok.loc]; exact hm) hy (q y hv)) h2
noncomputable def objAt (P : Params) (a : Nat) : Obj := ((TB36 P).get a).getD default
noncomputable def dictAt (P : Params) (a : Nat) : Array DictEntry := match (objAt P a).data with | .dict es _ => es | _ => #[]
noncomputable def epAt (P : Params) (a : Nat) : Nat := match (objAt P a).data with | .dict _ n => n | _ => 0
noncomputable def strKeysB (es : Array DictEntry) : Bool := es.toList.all fun e => isExactStrKey e.key
theorem strKeys_of {es : Array DictEntry} (h : strKeysB es = true) : StrKeys es := fun e he => by
  have := List.all_eq_true.mp h e (Array.mem_toList_iff.mpr he)
  cases q : e.key with
  | str n t => exact ⟨n, t, rfl⟩
  | _ => rw [q] at this; cases this
theorem ns_top {P : Params} {h : Heap} (L : Left P h) {a : Nat} (ha : a < 607) (hg : (TB36 P).get a = some (objAt P a)) (hl : alive (objAt P a) = some (objAt P a)) (hd : (objAt P a).data = .dict (dictAt P a) (epAt P a)) (hk : strKeysB (dictAt P a) = true) :
    h.Ns a (nsFind (dictAt P a)) := ⟨_, _, _, L a ha _ hg hl, hd, strKeys_of hk, fun _ => rfl⟩
theorem ns_main {P : Params} {h : Heap} (L : Left P h) : h.Ns mainGlobals (nsFind (dictAt P 3)) := ns_top L (by decide) (by kernel_rfl) (by kernel_rfl) (by kernel_rfl) (by kernel_rfl)
theorem ns_blt {P : Params} {h : Heap} (L : Left P h) : h.Ns builtinsNs (nsFind (dictAt P 0)) := ns_top L (by decide) (by kernel_rfl) (by kernel_rfl) (by kernel_rfl) (by kernel_rfl)
theorem ld_glb {c : Cx} {lv : Nat} (ok : c.Ok lv) {n : Str} {x : Expr} (h : glbName c.env.scope n x = true) {s : Shared} (L : Left c.P s.heap) {v : Value} (hv : nsFind (dictAt c.P 3) n = some v) {Q : Value -> Shared -> Prop} {E : Value -> Shared -> Prop}
    (q : Q v s) : wpAny c.M c.A (eval x c.env) Q E s := by
  obtain ⟨pos, rfl, h1, h2⟩ := glbName_spec h
  exact Calls.Name_function_global ok.kind h1 (Calls.loadGlobal_global (by rw [ok.glo]; exact ns_main L) hv q) h2
theorem ld_blt {c : Cx} {lv : Nat} (ok : c.Ok lv) {n : Str} {x : Expr} (h : glbName c.env.scope n x = true) {s : Shared} (L : Left c.P s.heap) {v : Value} (hm : nsFind (dictAt c.P 3) n = none) (hv : nsFind (dictAt c.P 0) n = some v) {Q : Value -> Shared -> Prop} {E : Value -> Shared -> Prop}
    (q : Q v s) : wpAny c.M c.A (eval x c.env) Q E s := by
  obtain ⟨pos, rfl, h1, h2⟩ := glbName_spec h
  exact Calls.Name_function_global ok.kind h1 (Calls.loadGlobal_builtin (by rw [ok.glo]; exact ns_main L) hm (by rw [ok.blt]; exact ns_blt L) hv q) h2
theorem glb_German (P : Params) : nsFind (dictAt P 3) (sLit [71, 101, 114, 109, 97, 110, 83, 116, 101, 109, 109, 101, 114]) = some (.ref 431) := by kernel_rfl
theorem blt_len (P : Params) : nsFind (dictAt P 3) (sLit [108, 101, 110]) = none /\ nsFind (dictAt P 0) (sLit [108, 101, 110]) = some (.builtin "len") := ⟨by kernel_rfl, by kernel_rfl⟩
theorem blt_ord (P : Params) : nsFind (dictAt P 3) (sLit [111, 114, 100]) = none /\ nsFind (dictAt P 0) (sLit [111, 114, 100]) = some (.builtin "ord") := ⟨by kernel_rfl, by kernel_rfl⟩
theorem blt_min (P : Params) : nsFind (dictAt P 3) (sLit [109, 105, 110]) = none /\ nsFind (dictAt P 0) (sLit [109, 105, 110]) = some (.builtin "min") := ⟨by kernel_rfl, by kernel_rfl⟩
theorem blt_max (P : Params) : nsFind (dictAt P 3) (sLit [109, 97, 120]) = none /\ nsFind (dictAt P 0) (sLit [109, 97, 120]) = some (.builtin "max") := ⟨by kernel_rfl, by kernel_rfl⟩
theorem blt_range (P : Params) : nsFind (dictAt P 3) (sLit [114, 97, 110, 103, 101]) = none /\ nsFind (dictAt P 0) (sLit [114, 97, 110, 103, 101]) = some (.type "range") := ⟨by kernel_rfl, by kernel_rfl⟩
theorem sLit_app (a b : List Nat) : sLit a ++ sLit b = sLit (a ++ b) := by
  show (⟨⟨a⟩ ++ ⟨b⟩⟩ : Str) = ⟨⟨a ++ b⟩⟩
  simp
theorem sLit_len (a : List Nat) : (sLit a).length = a.length := rfl
theorem sLit_inj {a b : List Nat} (h : sLit a = sLit b) : a = b := by
  unfold sLit at h; injection h with h; injection h
theorem sLit_beq (a b : List Nat) : (sLit a == sLit b) = (a == b) := by
  rw [Bool.eq_iff_iff, beq_iff_eq, beq_iff_eq]
  exact ⟨sLit_inj, fun h => by rw [h]⟩
theorem int_beq (a b : Int) : (a == b) = decide (a = b) := by rw [Bool.eq_iff_iff]; simp
theorem vInt {c : Cx} {h : Heap} {i : Int} {t : Tok} : VR c h (.int i) (.int i t) := ⟨t, rfl⟩
theorem vStr {c : Cx} {h : Heap} {l : List Nat} {t : Tok} : VR c h (.str l) (.str (sLit l) t) := ⟨t, rfl⟩
theorem vBool {c : Cx} {h : Heap} {b : Bool} : VR c h (.bool b) (.bool b) := rfl
theorem line_lt {n m : Nat} (h : n <= limS) (k : m <= limS) : n + m <= sizeLine := by
  have a : limS = 4096 := rfl
  have b : sizeLine = 16777216 := rfl
  lia
noncomputable def bopOf : Bop -> Operator | .add => .Add | .sub => .Sub | .mod => .Mod | .shr => .RShift
theorem bopIs_of {op : Bop} {o : Operator} (h : bopIs op o = true) : o = bopOf op := by
  cases op <;> cases o <;> first | rfl | exact Bool.noConfusion h
noncomputable def copOf : Cop -> CmpOp | .eq => .Eq | .ne => .NotEq | .lt => .Lt | .le => .LtE | .gt => .Gt | .ge => .GtE | .isin => .In | .notin => .NotIn
theorem copIs_of {op : Cop} {o : CmpOp} (h : copIs op o = true) : o = copOf op := by
  cases op <;> cases o <;> first | rfl | exact Bool.noConfusion h
section
variable {c : Cx} {E : Value -> Shared -> Prop} {s : Shared} {Q : Value -> Shared -> Prop}
theorem bin_run {op : Bop} {o : Operator} (ho : bopIs op o = true) {x y : MV} {a b : Value} (ha : VR c s.heap x a) (hb : VR c s.heap y b) {k : MV -> Prop} (hm : binM op x y k)
    (q : ∀ r v s', Ext s s' -> VR c s'.heap r v -> k r -> Q v s') : wpAny c.M c.A (binaryOp o a b) Q E s := by
  cases bopIs_of ho
  unfold binM at hm
  split at hm
  · split at hm
    · obtain ⟨t, rfl⟩ := ha; obtain ⟨u, rfl⟩ := hb
      cases op
      · exact PyProof.Rows.add_int (q _ _ _ (Ext.toks _ _) vInt hm)
      · exact PyProof.Rows.sub_int (q _ _ _ (Ext.toks _ _) vInt hm)
      · obtain ⟨rfl | rfl, hk⟩ := hm
        · exact PyProof.Rows.mod_int (by decide) (q _ _ _ (Ext.toks _ _) vInt hk)
        · exact PyProof.Rows.mod_int (by decide) (q _ _ _ (Ext.toks _ _) vInt hk)
      · obtain ⟨rfl, hk⟩ := hm
        exact PyProof.Rows.rshift_int (by decide) (q _ _ _ (Ext.toks _ _) vInt hk)
    · exact hm.elim
  · split at hm
    · obtain ⟨t, rfl⟩ := ha; obtain ⟨u, rfl⟩ := hb
      obtain ⟨rfl, h1, h2, hk⟩ := hm
      exact PyProof.Rows.add_str (fun t' tk => by rw [sLit_app]; exact q _ _ _ (Ext.toks _ _) vStr hk) (by rw [sLit_len, sLit_len]; exact line_lt h1 h2)
    · exact hm.elim
  · exact hm.elim
theorem ibin_run {op : Bop} {o : Operator} (ho : bopIs op o = true) {x y : MV} {a b : Value} (ha : VR c s.heap x a) (hb : VR c s.heap y b) {k : MV -> Prop} (hm : binM op x y k)
    (q : ∀ r v s', Ext s s' -> VR c s'.heap r v -> k r -> Q v s') : wpAny c.M c.A (inplaceOp o a b) Q E s := by
  cases bopIs_of ho
  unfold binM at hm
  split at hm
  · split at hm
    · obtain ⟨t, rfl⟩ := ha; obtain ⟨u, rfl⟩ := hb
      cases op
      · exact PyProof.Rows.iadd_int (q _ _ _ (Ext.toks _ _) vInt hm)
      · exact PyProof.Rows.isub_int (q _ _ _ (Ext.toks _ _) vInt hm)
      · obtain ⟨rfl | rfl, hk⟩ := hm
        · exact PyProof.Rows.imod_int (by decide) (q _ _ _ (Ext.toks _ _) vInt hk)
        · exact PyProof.Rows.imod_int (by decide) (q _ _ _ (Ext.toks _ _) vInt hk)
      · obtain ⟨rfl, hk⟩ := hm
        exact PyProof.Rows.irshift_int (by decide) (q _ _ _ (Ext.toks _ _) vInt hk)
    · exact hm.elim
  · split at hm
    · obtain ⟨t, rfl⟩ := ha; obtain ⟨u, rfl⟩ := hb
      obtain ⟨rfl, h1, h2, hk⟩ := hm
      exact PyProof.Rows.iadd_str (fun t' tk => by rw [sLit_app]; exact q _ _ _ (Ext.toks _ _) vStr hk) (by rw [sLit_len, sLit_len]; exact line_lt h1 h2)
    · exact hm.elim
  · exact hm.elim
noncomputable def eqStr (l : List Nat) : Value -> Bool
  | .str x _ => x == sLit l
  | _ => false
theorem strs_any {l : List Nat} : ∀ {ls : List (List Nat)} {vs : List Value}, strsAre ls vs -> vs.any (eqStr l) = ls.contains l
  | [], [], _ => rfl
  | x :: r, v :: q, ⟨⟨t, e⟩, h⟩ => by
    subst e
    rw [List.any_cons, List.contains_cons, strs_any h]
    show ((sLit x == sLit l) || _) = _
    rw [sLit_beq, Bool.beq_comm]
theorem strs_mem {ls : List (List Nat)} {vs : List Value} (h : strsAre ls vs) : ∀ v ∈ vs, ∃ x t, v = .str (sLit x) t := by
  induction ls generalizing vs with
  | nil => cases vs with
    | nil => intro v hv; cases hv
    | cons _ _ => exact h.elim
  | cons x r ih => cases vs with
    | nil => exact h.elim
    | cons a q =>
      obtain ⟨⟨t, rfl⟩, h⟩ := h
      intro v hv
      rcases List.mem_cons.mp hv with rfl | hv
      · exact ⟨x, t, rfl⟩
      · exact ih h v hv
theorem strs_eqAt {A : Around} {l : List Nat} {t : Tok} {ls : List (List Nat)} {vs : List Value} (h : strsAre ls vs) : ∀ y, y ∈ (⟨vs⟩ : Array Value) -> SeqAt.EqAt A s y (.str (sLit l) t) (eqStr l y) := fun y hy => by
  obtain ⟨x, u, rfl⟩ := strs_mem h y (Array.mem_toList_iff.mpr hy)
  exact SeqAt.EqAt.str_str _ _ _ _
theorem set_of {P : Params} {prog : Program} {w : World} (hw : w.params = P) {h : Heap} (L : Left P h) {a : Addr} {d : D3} (ha : atTop P a (setObj d)) {vs : List (Str × Tok)} {l : List Nat} (ok : SetOk P d vs) (hv : vs.map (·.1) = l.map fun x => sLit [x]) (hn : vs.length < 100) :
    h.SetOf (strKind prog w) a (fun k => (l.map fun x => sLit [x]).contains k) d.es.size := by
  have mem : ∀ e, e ∈ d.es.toList ↔ ∃ y ∈ vs, e = (hashOf P y.1, Value.str y.1 y.2) := fun e => by
    rw [ok.vals.mem_iff, List.mem_map]
    exact ⟨fun ⟨y, a, b⟩ => ⟨y, a, b.symm⟩, fun ⟨y, a, b⟩ => ⟨y, a, b.symm⟩⟩
  refine ⟨setObj d, d.es, d.ep, d.t, L a ha.1 _ ha.2.1 ha.2.2, ⟨rfl, rfl, rfl⟩, rfl, fun e he => ?_, fun k => ?_, ?_, ok.fits, rfl⟩
  · obtain ⟨y, _, rfl⟩ := (mem e).mp he
    subst hw
    exact ⟨⟨y.1, strKind_is prog w y.1 y.2, rfl⟩, rfl⟩
  · rw [List.contains_iff_mem, <- hv, List.mem_map]
    constructor
    · rintro ⟨y, hy, rfl⟩
      exact ⟨_, (mem _).mpr ⟨y, hy, rfl⟩, strKind_is prog w y.1 y.2⟩
    · rintro ⟨e, he, hk⟩
      obtain ⟨y, hy, rfl⟩ := (mem e).mp he
      exact ⟨y, hy, (strKind prog w).inj _ _ _ (strKind_is prog w y.1 y.2) hk⟩
  · have := ok.vals.length_eq
    simp only [List.length_map, Array.length_toList] at this
    have e : scanBound = 4096 := rfl
    lia
theorem contains_map (l : List Nat) (x : Nat) : (l.map fun x => sLit [x]).contains (sLit [x]) = l.contains x := by
  rw [Bool.eq_iff_iff, List.contains_iff_mem, List.contains_iff_mem, List.mem_map]
  constructor
  · rintro ⟨y, hy, e⟩; cases sLit_inj e; exact hy
  · intro h; exact ⟨x, h, rfl⟩
theorem dict_look {l : List Nat} : ∀ {ds : List (List Nat × List Nat)} {kvs : List (Str × Value)}, kvsAre ds kvs →
    (valueAt kvs (sLit l) = none /\ ds.lookup l = none) \/ ∃ y t, valueAt kvs (sLit l) = some (.str (sLit y) t) /\ ds.lookup l = some y
  | [], [], _ => .inl ⟨rfl, rfl⟩
  | (a, b) :: r, v :: q, ⟨⟨t, e⟩, h⟩ => by
    subst e
    have ih := dict_look (l := l) h
    unfold valueAt at *
    rw [List.find?_cons, List.lookup_cons]
    by_cases hq : l = a
    · subst hq
      rw [beq_self_eq_true, decide_eq_true rfl]
      exact .inr ⟨b, t, rfl, rfl⟩
    · have e1 : (l == a) = false := beq_eq_false_iff_ne.mpr hq
      have e2 : decide (sLit a = sLit l) = false := decide_eq_false fun e => hq (sLit_inj e).symm
      rw [e1, e2]
      exact ih
end
theorem range_pick {α : Type} : ∀ (l : List α) (m : Nat), (List.range m).filterMap (fun k => l[k]?) = l.take m
  | [], m => by simp
  | x :: l, 0 => by simp
  | x :: l, m + 1 => by
    rw [List.range_succ_eq_map, List.filterMap_cons]
    simp only [List.getElem?_cons_zero, List.filterMap_map, Function.comp_def, List.getElem?_cons_succ, List.take_succ_cons]
    rw [range_pick l m]
theorem ar_first {a b n : Nat} (h : min b n - min a n = n) (hn : ¬ n = 0) : a = 0 := by
  refine Nat.eq_zero_of_not_pos fun ha => ?_
  have h1 : 0 < min a n := Nat.lt_min.mpr ⟨ha, Nat.pos_of_ne_zero hn⟩
  have h2 : 0 < min b n := Nat.pos_of_ne_zero fun q => hn (by rw [q, Nat.zero_sub] at h; exact h.symm)
  have h3 := Nat.lt_of_lt_of_le (Nat.sub_lt h2 h1) (Nat.min_le_right b n)
  rw [h] at h3
  exact Nat.lt_irrefl _ h3
theorem ar_clip {n : Nat} {i : Int} (h : 0 <= i) : max 0 (min i (n : Int)) = ((min i.toNat n : Nat) : Int) := by
  obtain ⟨k, rfl⟩ := Int.eq_ofNat_of_zero_le h
  rw [Int.max_eq_right (Int.le_min.mpr ⟨h, Int.natCast_nonneg _⟩), Int.toNat_natCast]
  rcases Nat.le_total k n with q | q
  · rw [Nat.min_eq_left q, Int.min_eq_left (Int.ofNat_le.mpr q)]
  · rw [Nat.min_eq_right q, Int.min_eq_right (Int.ofNat_le.mpr q)]
noncomputable def toN (v : Option Int) (d : Nat) : Nat := (v.map Int.toNat).getD d
theorem clip_eq (v : Option Int) (d : Int) (n : Nat) (h1 : ∀ i, v = some i -> 0 <= i) (h2 : 0 <= d) (h3 : d <= n) {m : Int} (hm : m = (match v with | none => d | some i => max 0 (min (if i < 0 then i + (n : Int) else i) (n : Int)))) :
    m = ((min (toN v d.toNat) n : Nat) : Int) := by
  subst hm
  cases v with
  | none => simp only [toN, Option.map_none, Option.getD_none]; lia
  | some i => have := h1 i rfl; simp only [toN, Option.map_some, Option.getD_some]; rw [if_neg (Int.not_lt.mpr this)]; exact ar_clip this
theorem range_eq (a b n : Nat) (s t : Int) (hs : s = (a : Int)) (ht : t = (b : Int)) : sliceRange s t 1 = (List.range (b - a)).map fun k => a + k := by
  subst hs ht
  unfold sliceRange
  simp only [show (1 : Int) > 0 by decide, if_true]
  by_cases hab : (a : Int) < b
  · rw [if_pos hab, show ((b : Int) - a + 1 - 1) / 1 = b - a by lia, show ((b : Int) - a).toNat = b - a by lia]
    refine List.map_congr_left fun k _ => ?_
    lia
  · rw [if_neg hab, show b - a = 0 by lia]; rfl
theorem strIdx (lo hi : Option Int) (n : Nat) (hlo : ∀ i, lo = some i -> 0 <= i) (hhi : ∀ i, hi = some i -> 0 <= i) :
    Builtin.Str.strSliceIndices lo hi 1 n = (List.range (min (toN hi n) n - min (toN lo 0) n)).map fun k => min (toN lo 0) n + k := by
  unfold Builtin.Str.strSliceIndices
  refine range_eq _ _ n _ _ ?_ ?_
  · exact clip_eq lo 0 n hlo (by lia) (by lia) (by cases lo <;> rfl)
  · have := clip_eq hi n n hhi (by lia) (by lia) (m := _) rfl
    rw [Int.toNat_natCast] at this
    rw [<- this]
    cases hi <;> rfl
set_option tactic.hygienic true in
theorem slice_list (l : List Nat) (lo hi : Option Int) (hlo : ∀ i, lo = some i -> 0 <= i) (hhi : ∀ i, hi = some i -> 0 <= i) :
    Txt.slice (sLit l) lo hi = sLit ((l.drop (toN lo 0)).take (toN hi l.length - toN lo 0)) := by
  unfold Txt.slice
  rw [strIdx lo hi (sLit l).length hlo hhi, sLit_len]
  generalize toN lo 0 = a
  generalize toN hi l.length = b
  split
  · rename_i h
    simp only [beq_self_eq_true, Bool.true_and, List.length_map, List.length_range, beq_iff_eq] at h
    have : (l.drop a).take (b - a) = l := by
      by_cases hl : l.length = 0
      · rw [List.length_eq_zero_iff.mp hl]; simp
      · rw [ar_first h hl, List.drop_zero, List.take_of_length_le (by lia)]
    rw [this]
  · show (⟨List.toArray _⟩ : Str) = ⟨⟨_⟩⟩
    congr 1
    show (⟨_⟩ : Array Nat) = ⟨_⟩
    congr 1
    rw [List.filterMap_map]
    have e : ((fun x => (sLit l).cps[x]?) ∘ fun k => min a l.length + k) = fun k => (l.drop (min a l.length))[k]? := by
      funext k
      show (⟨l⟩ : Array Nat)[min a l.length + k]? = _
      simp
    rw [e, range_pick]
    by_cases h : a <= l.length
    · rw [Nat.min_eq_left h]
      by_cases h2 : b <= l.length
      · rw [Nat.min_eq_left h2]
      · rw [Nat.min_eq_right (Nat.le_of_not_le h2), List.take_of_length_le (by simp), List.take_of_length_le (by simp; lia)]
    · rw [Nat.min_eq_right (Nat.le_of_not_le h), List.drop_eq_nil_of_le (Nat.le_refl _), List.drop_eq_nil_of_le (Nat.le_of_not_le h)]
      simp
theorem limS_line : limS <= sizeLine := by decide
noncomputable def notSlice : Expr -> Bool
  | .Slice .. => false
  | _ => true
theorem subscripted_idx {x : Expr} (h : notSlice x = true) (o i : Value) : subscripted x false o i = operate [o, i] (getItem o i) := by
  cases x <;> first | rfl | cases h
theorem rep_notSlice {sc : Scope} : ∀ {e : E} {x : Expr}, rep sc e x = true -> notSlice x = true := by
  intro e x h
  have k := rep_ok h
  clear h
  cases x <;> first | rfl | exact Bool.noConfusion k
theorem seqIdx {i : Int} {n : Nat} (h0 : 0 <= i) (h1 : i.toNat < n) : seqIndex? i n = some i.toNat := by
  unfold seqIndex?
  have a : ¬ i < 0 := by lia
  have b : (decide (0 <= i) && decide (i < (n : Int))) = true := by
    rw [Bool.and_eq_true_iff]; exact ⟨decide_eq_true h0, decide_eq_true (by lia)⟩
  simp only [a, if_false, b, if_true]
theorem strs_len : ∀ {ls : List (List Nat)} {vs : List Value}, strsAre ls vs -> vs.length = ls.length
  | [], [], _ => rfl
  | _ :: r, _ :: q, ⟨_, h⟩ => by rw [List.length_cons, List.length_cons, strs_len h]
theorem ints_len : ∀ {ls : List Int} {vs : List Value}, intsAre ls vs -> vs.length = ls.length
  | [], [], _ => rfl
  | _ :: r, _ :: q, ⟨_, h⟩ => by rw [List.length_cons, List.length_cons, ints_len h]
theorem amgs_len {P : Params} : ∀ {ls : List Amg} {vs : List Value}, amgsAre P ls vs -> vs.length = ls.length
  | [], [], _ => rfl
  | _ :: r, _ :: q, ⟨_, h⟩ => by rw [List.length_cons, List.length_cons, amgs_len h]
theorem strs_get : ∀ {ls : List (List Nat)} {vs : List Value} {i : Nat} {x : List Nat}, strsAre ls vs -> ls[i]? = some x -> ∃ t, vs[i]? = some (.str (sLit x) t)
  | a :: r, b :: q, 0, x, ⟨⟨t, e⟩, _⟩, hx => by
    rw [List.getElem?_cons_zero] at hx; cases hx; subst e; exact ⟨t, rfl⟩
  | a :: r, b :: q, i + 1, x, ⟨_, h⟩, hx => by
    rw [List.getElem?_cons_succ] at hx; rw [List.getElem?_cons_succ]; exact strs_get h hx
theorem amgs_get {P : Params} : ∀ {ls : List Amg} {vs : List Value} {i : Nat} {x : Amg}, amgsAre P ls vs -> ls[i]? = some x -> ∃ v, vs[i]? = some v /\ amgAt P x v
  | a :: r, b :: q, 0, x, ⟨e, _⟩, hx => by
    rw [List.getElem?_cons_zero] at hx; cases hx; exact ⟨b, rfl, e⟩
  | a :: r, b :: q, i + 1, x, ⟨_, h⟩, hx => by
    rw [List.getElem?_cons_succ] at hx; rw [List.getElem?_cons_succ]; exact amgs_get h hx
theorem ints_cut : ∀ {ls : List Int} {vs : List Value} (a b : Nat), intsAre ls vs -> intsAre ((ls.drop a).take b) ((vs.drop a).take b)
  | [], [], _, _, _ => by rw [List.drop_nil, List.take_nil, List.drop_nil, List.take_nil]; exact trivial
  | _ :: r, _ :: q, a + 1, b, ⟨_, h⟩ => ints_cut a b h
  | _ :: r, _ :: q, 0, 0, _ => trivial
  | _ :: r, _ :: q, 0, b + 1, ⟨e, h⟩ => ⟨e, ints_cut 0 b h⟩
theorem Inv.fresh {c : Cx} {st : St} {s : Shared} (I : Inv c st s) {a : Addr} (h : s.heap.get? a = none) : c.safe a /\ a ≠ sysModules := by
  refine ⟨⟨?_, ?_, ?_, fun ha => I.avs a ha h⟩, ?_⟩
  · rintro rfl
    obtain ⟨m, ⟨o, es, ep, ho, _⟩, _⟩ := I.ns
    rw [h] at ho; cases ho
  · intro hm
    obtain ⟨e, he, hf⟩ := List.mem_filterMap.mp hm
    obtain ⟨_, b, o, hb, ho, _⟩ := I.frs e he
    rw [hf] at hb; cases hb
    rw [h] at ho; cases ho
  · rintro p hp rfl
    have ho := I.ob
    unfold ObI at ho
    rw [hp] at ho
    cases hq : st.ob with
    | none => rw [hq] at ho; exact ho
    | some o =>
      rw [hq] at ho
      obtain ⟨_, m, ⟨o, es, ep, ho, _⟩, _⟩ := ho
      rw [h] at ho; cases ho
  · rintro rfl
    have e1 := I.left 1 (by decide) (objAt c.P 1) (by kernel_rfl) (by kernel_rfl)
    have e2 : s.heap.get? 1 = none := h
    rw [e2] at e1; cases e1
theorem size_none (h : Heap) (k : Addr) (hk : h.objs.size <= k) : h.get? k = none := Heap.get?_none_of_le hk
section
variable {c : Cx} {E : Value -> Shared -> Prop} {s : Shared} {Q : Value -> Shared -> Prop} {lv : Nat}
theorem units_lt (ok : c.Ok lv) : c.A.units < cLine := by
  have := ok.units; have := ok.le
  have e : cLine = 9900 := rfl
  lia
set_option tactic.hygienic true in
theorem cmp_run (ok : c.Ok lv) (L : Left c.P s.heap) {op : Cop} {o : CmpOp} (ho : copIs op o = true) {x y : MV} {a b : Value} (ha : VR c s.heap x a) (hb : VR c s.heap y b) {k : Bool -> Prop} (hm : cmpM op x y k)
    (q : ∀ r s', Ext s s' -> k r -> Q (.bool r) s') : wpAny c.M c.A (compareOp o a b) Q E s := by
  cases copIs_of ho
  unfold cmpM at hm
  split at hm
  · split at hm
    · obtain ⟨t, rfl⟩ := ha; obtain ⟨u, rfl⟩ := hb
      cases op
      · exact PyProof.Rows.eq_int (by rw [int_beq]; exact q _ _ (Ext.refl _) hm)
      · exact PyProof.Rows.ne_int (by rw [bne, int_beq]; exact q _ _ (Ext.refl _) hm)
      · exact PyProof.Rows.lt_int (q _ _ (Ext.refl _) hm)
      · exact PyProof.Rows.le_int (q _ _ (Ext.refl _) hm)
      · exact PyProof.Rows.gt_int (q _ _ (Ext.refl _) hm)
      · exact PyProof.Rows.ge_int (q _ _ (Ext.refl _) hm)
      · exact hm.elim
      · exact hm.elim
    · exact hm.elim
  · obtain ⟨t, rfl⟩ := ha
    split at hm
    · obtain ⟨u, rfl⟩ := hb
      unfold cmpS at hm
      split at hm
      · exact PyProof.Rows.eq_str (by rw [sLit_beq]; exact q _ _ (Ext.refl _) hm)
      · exact PyProof.Rows.ne_str (by rw [bne, sLit_beq]; exact q _ _ (Ext.refl _) hm)
      · exact hm.elim
    · obtain ⟨l, vs, rfl, sf, hl, hv⟩ := hb
      unfold cmpN at hm
      split at hm
      · refine SeqAt.in_listAt _ hl (strs_eqAt hv) ?_
        rw [List.any_toArray, strs_any hv]
        exact q _ _ (Ext.refl _) hm
      · refine SeqAt.notIn_listAt _ hl (strs_eqAt hv) ?_
        rw [List.any_toArray, strs_any hv]
        exact q _ _ (Ext.refl _) hm
      · exact hm.elim
    · obtain ⟨l, d, rfl, hat, vs, hok, hv⟩ := hb
      obtain ⟨z, rfl, h1, hm⟩ := hm
      unfold cmpN at hm
      split at hm
      · refine wpAny_inSet_of (strKind_is _ _ _ _) rfl (set_of rfl L hat hok hv (by
          have := congrArg List.length hv
          simp only [List.length_map] at this
          rw [this]; exact h1)) ?_
        rw [contains_map]
        exact q _ _ (Ext.toks _ _) hm
      · refine wpAny_notInSet_of (strKind_is _ _ _ _) rfl (set_of rfl L hat hok hv (by
          have := congrArg List.length hv
          simp only [List.length_map] at this
          rw [this]; exact h1)) ?_
        rw [contains_map]
        exact q _ _ (Ext.toks _ _) hm
      · exact hm.elim
    · rename_i l _ ds
      obtain ⟨d, kvs, rfl, sf, ns, hd, hv⟩ := hb
      obtain ⟨rfl, hm⟩ := hm
      have hlow : (d == sysModules) = false := beq_eq_false_iff_ne.mpr ns
      refine wpAny_in_of (strKind_is _ _ _ _) hlow hd.mapOf ?_
      rcases dict_look (l := l) hv with ⟨h1, h2⟩ | ⟨y, t, h1, h2⟩
      · rw [h1]; rw [h2] at hm; exact q _ _ (Ext.toks _ _) hm
      · rw [h1]; rw [h2] at hm; exact q _ _ (Ext.toks _ _) hm
    · exact hm.elim
  · split at hm
    · obtain ⟨l, vs, rfl, sf, hl, hv⟩ := ha; obtain ⟨l2, vs2, rfl, sf2, hl2, hv2⟩ := hb
      rename_i ls _ ls2
      obtain ⟨rfl, _, _, hm⟩ := hm
      by_cases hsz : vs.length = vs2.length
      · refine SeqAt.eq_listAt (e := fun j => ls[j]? == ls2[j]?) hl hl2 hsz (units_lt ok) (fun j h1 h2 => ?_) ?_
        · have g1 : j < ls.length := by rw [<- strs_len hv]; exact h1
          have g2 : j < ls2.length := by rw [<- strs_len hv2]; exact h2
          obtain ⟨t, e1⟩ := strs_get hv (List.getElem?_eq_getElem g1)
          obtain ⟨t2, e2⟩ := strs_get hv2 (List.getElem?_eq_getElem g2)
          have k1 : (⟨vs⟩ : Array Value)[j] = _ := (List.getElem?_eq_some_iff.mp e1).2
          have k2 : (⟨vs2⟩ : Array Value)[j] = _ := (List.getElem?_eq_some_iff.mp e2).2
          rw [k1, k2]
          simp only [List.getElem?_eq_getElem g1, List.getElem?_eq_getElem g2]
          have : (some ls[j] == some ls2[j]) = (sLit ls[j] == sLit ls2[j]) := by rw [sLit_beq]; rfl
          rw [this]
          exact SeqAt.EqAt.str_str _ _ _ _
        · have e : ((List.range (⟨vs⟩ : Array Value).size).all fun j => ls[j]? == ls2[j]?) = (ls == ls2) := by
            rw [Bool.eq_iff_iff, List.all_eq_true, beq_iff_eq]
            have z : (⟨vs⟩ : Array Value).size = ls.length := strs_len hv
            rw [z]
            constructor
            · intro h
              refine List.ext_getElem? fun j => ?_
              by_cases q : j < ls.length
              · exact beq_iff_eq.mp (h j (List.mem_range.mpr q))
              · rw [List.getElem?_eq_none (by lia), List.getElem?_eq_none (by rw [<- strs_len hv2, <- hsz, strs_len hv]; lia)]
            · intro h j _; rw [h]; exact beq_iff_eq.mpr rfl
          rw [e]
          exact q _ _ (Ext.refl _) hm
      · refine SeqAt.eq_list_lengthsAt hl hl2 (bne_iff_ne.mpr hsz) (units_lt ok) ?_
        have : (ls == ls2) = false := beq_eq_false_iff_ne.mpr fun e => hsz (by rw [strs_len hv, strs_len hv2, e])
        rw [this] at hm
        exact q _ _ (Ext.refl _) hm
    · exact hm.elim
  · exact hm.elim
theorem big_ok {n : Nat} (h : n <= limS) {i : Int} (h0 : 0 <= i) (h1 : i.toNat < n) : i < 2 ^ 63 /\ (decide (i < -(2 ^ 63 : Int)) || decide (i ≥ 2 ^ 63)) = false := by
  have e : limS = 4096 := rfl
  have a : i < 2 ^ 63 := by lia
  exact ⟨a, by rw [Bool.or_eq_false_iff]; exact ⟨decide_eq_false (by lia), decide_eq_false (by lia)⟩⟩
set_option tactic.hygienic true in
theorem idx_run (L : Left c.P s.heap) {value slice : Expr} (hs : notSlice slice = true) {x y : MV} {a b : Value} (ha : VR c s.heap x a) (hb : VR c s.heap y b) {k : MV -> Prop} (hm : idxM x y k)
    (q : ∀ r v s', Ext s s' -> VR c s'.heap r v -> k r -> Q v s') : wpAny c.M c.A (subscriptTail value slice a b) Q E s := by
  unfold idxM at hm
  split at hm
  · split at hm
    · rename_i n _ l
      obtain ⟨t, rfl⟩ := ha; obtain ⟨u, rfl⟩ := hb
      obtain ⟨h0, h1, z, hz, hk⟩ := hm
      have hlt := (List.getElem?_eq_some_iff.mp hz).1
      refine tail_any (typeIs_str s _ t) F.slot_str_getitem.lookup (PySem.P.getItem_str (c := z) (big_ok h1 h0 hlt).2 ?_ (q _ _ _ (Ext.toks _ _) (vStr (l := [z])) hk)) (subscripted_idx hs _ _)
      rw [sLit_len, seqIdx h0 hlt]
      show (⟨l⟩ : Array Nat)[n.toNat]? = _
      rw [List.getElem?_toArray]; exact hz
    · obtain ⟨l, vs, rfl, sf, hl, hv⟩ := ha; obtain ⟨u, rfl⟩ := hb
      obtain ⟨h0, h1, z, hz, hk⟩ := hm
      have hlt := (List.getElem?_eq_some_iff.mp hz).1
      obtain ⟨t, e⟩ := strs_get hv hz
      exact tail_any hl.typeIs F.slot_list_getitem.lookup (wpAny_getItem_list hl h0 (big_ok h1 h0 hlt).1 (by rw [List.getElem?_toArray]; exact e) (q _ _ _ (Ext.refl _) vStr hk)) (subscripted_idx hs _ _)
    · obtain ⟨l, vs, rfl, sf, hv⟩ := ha; obtain ⟨u, rfl⟩ := hb
      obtain ⟨h0, h1, z, hz, hk⟩ := hm
      have hlt := (List.getElem?_eq_some_iff.mp hz).1
      obtain ⟨v, e, hz⟩ := amgs_get hv hz
      have hl : s.heap.IsList l ⟨vs⟩ := ⟨_, L l sf.1 _ sf.2.1 sf.2.2, rfl, 0, rfl⟩
      exact tail_any hl.typeIs F.slot_list_getitem.lookup (wpAny_getItem_list hl h0 (big_ok h1 h0 hlt).1 (by rw [List.getElem?_toArray]; exact e) (q (.amg z) _ _ (Ext.refl _) hz hk)) (subscripted_idx hs _ _)
    · exact hm.elim
  · split at hm
    · rename_i l _ ds
      obtain ⟨d, kvs, rfl, sf, ns, hd, hv⟩ := ha; obtain ⟨u, rfl⟩ := hb
      obtain ⟨z, hz, hk⟩ := hm
      rcases dict_look (l := l) hv with ⟨h1, h2⟩ | ⟨y, t, h1, h2⟩
      · rw [hz] at h2; cases h2
      · rw [hz] at h2; cases h2
        have hmap := hd.mapOf
        exact tail_any hmap.typeIs F.slot_dict_getitem.lookup (wpAny_getItem_of (strKind_is _ _ _ _) hmap h1 (q _ _ _ (Ext.toks _ _) vStr hk)) (subscripted_idx hs _ _)
    · exact hm.elim
  · exact hm.elim
theorem len_run (L : Left c.P s.heap) {x : MV} {a : Value} (ha : VR c s.heap x a) {k : MV -> Prop} (hm : lenM x k)
    (q : ∀ r v s', Ext s s' -> VR c s'.heap r v -> k r -> Q v s') : wpAny c.M c.A (call (.builtin "len") [a]) Q E s := by
  have e : limS = 4096 := rfl
  unfold lenM at hm
  split at hm
  · obtain ⟨t, rfl⟩ := ha
    refine PySem.P.len_str ?_ (q _ _ _ (Ext.toks _ _) vInt hm.2)
    rw [sLit_len]; lia
  · obtain ⟨l, vs, rfl, sf, hv⟩ := ha
    have hl : s.heap.IsList l ⟨vs⟩ := ⟨_, L l sf.1 _ sf.2.1 sf.2.2, rfl, 0, rfl⟩
    have z : (⟨vs⟩ : Array Value).size = _ := amgs_len hv
    refine PyProof.Rows.len_list hl (by rw [z]; lia) ?_
    rw [z]
    exact q _ _ _ (Ext.toks _ _) vInt hm.2
  · exact hm.elim
end
noncomputable def partR (c : Cx) (h : Heap) : Option MV -> Value -> Prop
  | some x, v => VR c h x v
  | none, v => v = .none
theorem cut_min {α : Type} (l : List α) (a b : Nat) : (l.drop (min a l.length)).take (min b l.length - min a l.length) = (l.drop a).take (b - a) := by
  by_cases h : a <= l.length
  · rw [Nat.min_eq_left h]
    by_cases h2 : b <= l.length
    · rw [Nat.min_eq_left h2]
    · rw [Nat.min_eq_right (Nat.le_of_not_le h2), List.take_of_length_le (by simp), List.take_of_length_le (by simp; lia)]
  · rw [Nat.min_eq_right (Nat.le_of_not_le h), List.drop_eq_nil_of_le (Nat.le_refl _), List.drop_eq_nil_of_le (Nat.le_of_not_le h)]
    simp
noncomputable def cutP {α : Type} (l : List α) (lo hi : Option Int) : List α := (l.drop (toN lo 0)).take (toN hi l.length - toN lo 0)
theorem clip_nat (n : Nat) (i : Int) (h : 0 <= i) : clipAt n i = min i.toNat n := by
  have := clipAt_nat n i.toNat
  rwa [Int.toNat_of_nonneg h] at this
theorem pick_list {l : List Value} {lo hi : Option Int} (hlo : ∀ i, lo = some i -> 0 <= i) (hhi : ∀ i, hi = some i -> 0 <= i) : slicePick ⟨l⟩ lo hi none = ⟨cutP l lo hi⟩ := by
  rw [slicePick_plain]
  show (⟨_⟩ : Array Value) = ⟨_⟩
  congr 1
  have e1 : (lo.elim 0 (clipAt (⟨l⟩ : Array Value).size)) = min (toN lo 0) l.length := by
    cases lo with
    | none => simp [toN]
    | some i => exact clip_nat _ i (hlo i rfl)
  have e2 : (hi.elim (⟨l⟩ : Array Value).size (clipAt (⟨l⟩ : Array Value).size)) = min (toN hi l.length) l.length := by
    cases hi with
    | none => simp [toN]
    | some i => exact clip_nat _ i (hhi i rfl)
  rw [e1, e2]
  exact cut_min l _ _
noncomputable abbrev sliceO (vl vu : Value) : Obj := { cls := .type "slice", data := .fields #[vl, vu, .none] }
theorem keptExt (h₀ : Heap) : KeptH fun h => ∀ b o, h₀.get? b = some o -> h.get? b = some o := fun h ob k b o e => Heap.get?_push_of_some ob (k b o e)
section
variable {c : Cx} {E : Value -> Shared -> Prop} {s : Shared} {Q : Value -> Shared -> Prop} {lv : Nat}
noncomputable def intPart : Option MV -> Option (Option Int)
  | none => some none
  | some (.int i) => some (some i)
  | _ => none
theorem intPart_spec {lo : Option MV} {i : Option Int} (h : intPart lo = some i) : (lo = none /\ i = none) \/ ∃ n, lo = some (.int n) /\ i = some n := by
  unfold intPart at h
  split at h
  · cases h; exact .inl ⟨rfl, rfl⟩
  · cases h; exact .inr ⟨_, rfl, rfl⟩
  · cases h
theorem str_slice {value : Expr} {l : List Nat} {t : Tok} {lo hi : Option MV} {vl vu : Value} {i j : Option Int} (hi1 : intPart lo = some i) (hi2 : intPart hi = some j) (hl : partR c s.heap lo vl) (hu : partR c s.heap hi vu)
    (p1 : ∀ x, i = some x -> 0 <= x) (p2 : ∀ x, j = some x -> 0 <= x) (hz : l.length <= limS) {el eu : Option Expr} {ps : Pos}
    (q : ∀ t' s', Ext s s' -> Q (.str (sLit (cutP l i j)) t') s') :
    wpAny c.M c.A (subscriptTail value (.Slice el eu none ps) (.str (sLit l) t) (.ref s.heap.objs.size)) Q E { s with heap := s.heap.push (sliceO vl vu) } := by
  have sz : (sLit l).length <= sizeLine := by rw [sLit_len]; exact Nat.le_trans hz limS_line
  have fin : ∀ {lo hi : Option Int}, lo = i -> hi = j -> ∀ (h' : Heap) (t' : Tok) (k : Nat), (∀ b o, s.heap.get? b = some o -> h'.get? b = some o) -> Q (.str (Txt.slice (sLit l) lo hi) t') { s with heap := h', toks := k } := by
    rintro lo hi rfl rfl h' t' k hk
    rw [slice_list l lo hi p1 p2]
    exact q t' _ ⟨hk, rfl, rfl⟩
  have tl : ItemOn c.M c.A E (.str (sLit l) t) (.ref s.heap.objs.size) Q { s with heap := s.heap.push (sliceO vl vu) } := by
    rcases intPart_spec hi1 with ⟨rfl, rfl⟩ | ⟨n, rfl, rfl⟩ <;> rcases intPart_spec hi2 with ⟨rfl, rfl⟩ | ⟨m, rfl, rfl⟩
    · cases hl; cases hu
      exact SBH.sliceItem_nn (keptExt s.heap) (fun _ _ h => h) (fin rfl rfl) sz
    · obtain ⟨u, rfl⟩ := hu; cases hl
      exact SBH.sliceItem_ns (keptExt s.heap) (fun _ _ h => h) (fin rfl rfl) sz
    · obtain ⟨u, rfl⟩ := hl; cases hu
      exact SBH.sliceItem_sn (keptExt s.heap) (fun _ _ h => h) (fin rfl rfl) sz
    · obtain ⟨u, rfl⟩ := hl; obtain ⟨u2, rfl⟩ := hu
      exact SBH.sliceItem_ss (keptExt s.heap) (fun _ _ h => h) (fin rfl rfl) sz
  obtain ⟨T, id, h1, h2, h3⟩ := tl
  exact tail_any h2 h1 h3 rfl
theorem part_of {lo : Option MV} {i : Option Int} {vl : Value} {h : Heap} (e : intPart lo = some i) (hl : partR c h lo vl) : IsPart vl i := by
  unfold intPart at e
  split at e
  · cases e; cases hl; exact .none
  · cases e; obtain ⟨t, rfl⟩ := hl; exact .int _ _
  · cases e
theorem ints_slice {st : St} (I : Inv c st s) {value : Expr} {l : List Int} {a : Value} {lo hi : Option MV} {vl vu : Value} {i j : Option Int} (ha : VR c s.heap (.ints l) a) (hi1 : intPart lo = some i) (hi2 : intPart hi = some j) (hl : partR c s.heap lo vl) (hu : partR c s.heap hi vu)
    (p1 : ∀ x, i = some x -> 0 <= x) (p2 : ∀ x, j = some x -> 0 <= x) (hz : l.length <= limS) {el eu : Option Expr} {ps : Pos}
    (q : ∀ v s', Ext s s' -> VR c s'.heap (.ints (cutP l i j)) v -> Q v s') :
    wpAny c.M c.A (subscriptTail value (.Slice el eu none ps) a (.ref s.heap.objs.size)) Q E { s with heap := s.heap.push (sliceO vl vu) } := by
  obtain ⟨d, vs, rfl, sf, ⟨o, ho, hr⟩, hv⟩ := ha
  have hl' : (s.heap.push (sliceO vl vu)).IsList d ⟨vs⟩ := ⟨o, Heap.get?_push_of_some _ ho, hr⟩
  have hsl : (s.heap.push (sliceO vl vu)).IsSliceOf s.heap.objs.size vl vu .none := ⟨_, Heap.get?_push_size _ rfl, rfl, rfl⟩
  have z : (⟨vs⟩ : Array Value).size = l.length := ints_len hv
  have szs : (s.heap.push (sliceO vl vu)).objs.size = s.heap.objs.size + 1 := by
    show (s.heap.objs.push _).size = _
    rw [Array.size_push]
  refine tail_any (T := "list") hl'.typeIs F.slot_list_getitem.lookup ?_ rfl
  refine wpAny_getItem_list_slice hl' hsl (part_of hi1 hl) (part_of hi2 hu) .none (by intro h; cases h) ?_ (by rw [z]; exact Nat.le_trans hz limS_line)
  rw [pick_list p1 p2]
  have x1 : Ext s { s with heap := (s.heap.push (sliceO vl vu)).push { cls := .type "list", data := .seq ⟨cutP vs i j⟩ } } := (Ext.push s (sliceO vl vu) s.toks).trans (Ext.push _ _ _)
  refine q _ _ x1 ?_
  refine ⟨_, _, rfl, (I.fresh (size_none s.heap _ (by rw [szs]; lia))).1, ⟨_, Heap.get?_push_size _ rfl, rfl, 0, rfl⟩, ?_⟩
  unfold cutP
  rw [show vs.length = l.length from z]
  exact ints_cut _ _ hv
@[elab_as_elim] theorem partI_inv {motive : Option MV -> Prop} {o : Option MV} {k : Option Int -> Prop} (h : partI o k) (K : ∀ i, (∀ x, i = some x -> 0 <= x) -> k i -> motive (i.map .int)) : motive o := by
  unfold partI at h
  split at h
  · exact K none (fun _ e => by cases e) h
  · exact K (some _) (fun _ e => by cases e; exact h.1) h.2.2
  · exact h.elim
set_option tactic.hygienic true in
theorem slice_run {st : St} (I : Inv c st s) {value : Expr} {x : MV} {a : Value} {lo hi : Option MV} {vl vu : Value} (ha : VR c s.heap x a) (hl : partR c s.heap lo vl) (hu : partR c s.heap hi vu) {k : MV -> Prop} (hm : sliceM x lo hi k) {el eu : Option Expr} {ps : Pos}
    (q : ∀ r v s', Ext s s' -> VR c s'.heap r v -> k r -> Q v s') :
    wpAny c.M c.A (subscriptTail value (.Slice el eu none ps) a (.ref s.heap.objs.size)) Q E { s with heap := s.heap.push (sliceO vl vu) } := by
  unfold sliceM at hm
  split at hm
  · rename_i l
    obtain ⟨t, rfl⟩ := ha
    obtain ⟨h5, hm⟩ := hm
    revert hl hu
    refine partI_inv hm fun i h1 hm => partI_inv hm fun j h2 hm hl hu => ?_
    refine str_slice (i := i) (j := j) (by cases i <;> rfl) (by cases j <;> rfl) hl hu h1 h2 h5 fun t' s' e => ?_
    cases i with
    | some x => cases j with
      | some y => exact q _ _ _ e vStr hm
      | none =>
        have : cutP l (some x) none = l.drop x.toNat := by
          unfold cutP
          exact List.take_of_length_le (by rw [List.length_drop]; exact Nat.le_refl _)
        rw [this]
        exact q _ _ _ e vStr hm
    | none => cases j with
      | some y => exact q _ _ _ e vStr hm
      | none => exact hm.elim
  · rename_i l
    obtain ⟨h5, hm⟩ := hm
    revert hl hu
    refine partI_inv hm fun i h1 hm => partI_inv hm fun j h2 hm hl hu => ?_
    refine ints_slice I (i := i) (j := j) ha (by cases i <;> rfl) (by cases j <;> rfl) hl hu h1 h2 h5 fun v s' e h => ?_
    cases j with
    | some y => cases i with
      | some x => exact q _ _ _ e h hm
      | none => exact q _ _ _ e h hm
    | none => cases i <;> exact hm.elim
  · exact hm.elim
end
noncomputable def fnAL : List Nat := [526, 490, 497, 504, 512, 519, 479, 533, 540, 547, 554, 561, 568, 575, 582, 589, 594, 601, 42, 49, 63, 70, 77, 98, 126, 133, 140, 147, 154, 161, 261, 268, 240, 247, 254, 275, 282, 189, 194, 35]
noncomputable def fnA (f : Nat) : Addr := (fnAL[f]?).getD 0
noncomputable def KL : List Nat := [431, 430, 197, 196, 218, 217, 2, 230, 231, 232, 233, 301, 320, 354, 370, 386, 393, 418, 428] ++ fnAL
noncomputable def KF (P : Params) : Frag := KL.map fun a => (a, objAt P a)
noncomputable def okAt (P : Params) (a : Nat) : Bool := Nat.blt a 607 && (((TB36 P).get a).isSome && !(Nat.beq (objAt P a).data.ctorIdx 10))
theorem alive_of {o : Obj} (h : Nat.beq o.data.ctorIdx 10 = false) : alive o = some o := by
  obtain ⟨c, d, dt, s⟩ := o
  cases dt <;> first | rfl | exact Bool.noConfusion h
theorem okAt_of {P : Params} {a : Nat} (h : okAt P a = true) : a < 607 /\ (TB36 P).get a = some (objAt P a) /\ alive (objAt P a) = some (objAt P a) := by
  refine an2c h fun h1 h => an2c h fun h2 h3 => ?_
  have e : (TB36 P).get a = some (objAt P a) := by
    unfold objAt
    cases e : (TB36 P).get a with
    | none => rw [e] at h2; exact nomatch h2
    | some o => rfl
  exact ⟨Nat.blt_eq.mp h1, e, alive_of (Bool.not_eq_true' _ ▸ h3)⟩
set_option tactic.hygienic true in
theorem look_map {f : Nat -> Obj} {l : List Nat} {a : Nat} {o : Obj} (h : (l.map fun a => (a, f a)).lookup a = some o) : a ∈ l /\ o = f a := by
  induction l with
  | nil => cases h
  | cons x r ih =>
    rw [List.map_cons, List.lookup_cons] at h
    split at h
    · rename_i q
      cases h
      rw [beq_iff_eq] at q
      subst q
      exact ⟨List.mem_cons_self .., rfl⟩
    · exact ⟨List.mem_cons_of_mem _ (ih h).1, (ih h).2⟩
theorem KF_ok (P : Params) : (KL.all fun a => okAt P a) = true := by kernel_rfl
theorem Left.frag {P : Params} {h : Heap} (L : Left P h) : (KF P).In h := by
  intro a o e
  obtain ⟨h1, rfl⟩ := look_map e
  obtain ⟨k1, k2, k3⟩ := okAt_of (List.all_eq_true.mp (KF_ok P) a h1)
  exact L a k1 _ k2 k3
theorem own_ns {h : Heap} {a : Addr} {m : Str -> Option Value} (H : h.Ns a m) : ∃ o, h.get? a = some o /\ ∀ n, lookIn n o = some (m n) := by
  obtain ⟨o, es, ep, ho, hd, hk, hm⟩ := H
  refine ⟨o, ho, fun n => ?_⟩
  unfold lookIn
  rw [hd]
  dsimp only
  have hr : (es.toList.any fun x => x.refKey) = false := by
    rw [List.any_eq_false]
    intro e he
    obtain ⟨x, t, hx⟩ := hk e (Array.mem_toList_iff.mp he)
    unfold DictEntry.refKey
    rw [hx]
    intro h; cases h
  rw [hr, <- hm n]
  unfold nsFind findBy
  rw [<- Array.find?_toList]
  cases es.toList.find? fun x => x.key.isStr n <;> rfl
theorem ga_431 (P : Params) : findIn (KF P) (.ref 431) "__getattribute__" = some (some (.builtin "object.__getattribute__")) := by kernel_rfl
theorem gh_431 (P : Params) : findIn (KF P) (.ref 431) "__getattr__" = some none := by kernel_rfl
theorem rd_431 (P : Params) : readsIn (KF P) 431 (.type "type") = true := by kernel_rfl
theorem fl_431 (P : Params) : ∀ f, f < 6 -> findIn (KF P) (.ref 431) (fldS f) = some none
  | 0, _ => by kernel_rfl
  | 1, _ => by kernel_rfl
  | 2, _ => by kernel_rfl
  | 3, _ => by kernel_rfl
  | 4, _ => by kernel_rfl
  | 5, _ => by kernel_rfl
  | n + 6, h => absurd h (by lia)
theorem p1_431 (P : Params) : findIn (KF P) (.ref 431) (fldS 6) = some (some (.int 0 577)) := by kernel_rfl
theorem p2_431 (P : Params) : findIn (KF P) (.ref 431) (fldS 7) = some (some (.int 0 575)) := by kernel_rfl
theorem int_get (P : Params) (t : Tok) : specialIn (KF P) (.int 0 t) "__get__" = some none := by kernel_rfl
noncomputable def clsD (P : Params) : ClassData := match (objAt P 431).data with | .cls cd => cd | _ => default
theorem cls_431 (P : Params) : clsIn (KF P) 431 = some (clsD P) := by kernel_rfl
theorem hasDict_431 (P : Params) : (clsD P).hasDict = true := by kernel_rfl
section
variable {K : Frag} {C : Addr} {cd : ClassData} {n : Str} {o : Obj}
theorem bind_to {α β : Type} {x : Option α} {a : α} {f : α -> Option β} {r : Option β} (h : x = some a) (k : f a = r) : x.bind f = r := h ▸ k
theorem find_own {attr : Option Value} {v : Value} (h1 : clsIn K C = some cd) (h2 : cd.hasDict = true) (h3 : findIn K (.ref C) n = some attr) (h4 : ∀ a, attr = some a -> specialIn K a "__get__" = some none) (h5 : lookIn n o = some (some v)) :
    findObj K C (some o) n = some (.value v) := by
  have ho : PySem.W.ownOf cd (some o) n = some (some v) := by unfold PySem.W.ownOf; rw [h2, if_pos rfl]; exact h5
  refine bind_to h1 (bind_to h3 ?_)
  cases attr with
  | none => exact bind_to rfl (bind_to rfl (bind_to ho rfl))
  | some a => exact bind_to (h4 a rfl) (bind_to rfl (bind_to ho rfl))
theorem find_cls {v : Value} (h1 : clsIn K C = some cd) (h2 : cd.hasDict = true) (h3 : findIn K (.ref C) n = some (some v)) (h4 : specialIn K v "__get__" = some none) (h5 : lookIn n o = some none) (h6 : copiedNames.contains n = false) (h7 : handedIn v = true) :
    findObj K C (some o) n = some (.value v) := by
  have ho : PySem.W.ownOf cd (some o) n = some none := by unfold PySem.W.ownOf; rw [h2, if_pos rfl]; exact h5
  refine bind_to h1 (bind_to h3 (bind_to h4 (bind_to rfl (bind_to ho ?_))))
  refine (if_neg (by rw [h6]; exact Bool.noConfusion)).trans ?_
  exact if_pos h7
end
theorem Inv0.inst {c : Cx} {ob : Option Ob} {s : Shared} (I : Inv0 c ob s) {o : Ob} (ho : ob = some o) : ∃ p, c.g = some p /\ ObR c s.heap p.1 p.2 o := by
  have h := I.ob
  unfold ObI at h
  subst ho
  cases hg : c.g with
  | none => rw [hg] at h; exact h.elim
  | some p => rw [hg] at h; exact ⟨p, rfl, h⟩
theorem ObR.at {c : Cx} {h : Heap} {x dx : Addr} {o : Ob} (R : ObR c h x dx o) : ∃ od m, InstAt h x (instO dx) 431 (some od) /\ (∀ n, lookIn n od = some (m n)) /\ h.Ns1 dx m /\ (∀ f v, f < 6 -> o.get f = some v -> ∃ y, m (fldS f) = some y /\ VR c h v y) ∧
    (∀ f, f = 6 \/ f = 7 -> (m (fldS f) = none /\ o.get f = some (.int 0)) \/ ∃ i t, o.get f = some (.int i) /\ m (fldS f) = some (.int i t)) ∧
    (∀ n v, m n = some v -> ∃ f, f < 8 /\ n = fldS f) := by
  obtain ⟨h1, m, hn, a, b, d⟩ := R
  obtain ⟨od, ho, hl⟩ := own_ns hn.ns
  exact ⟨od, m, ⟨h1, rfl, rfl, ho⟩, hl, hn, a, b, d⟩
theorem map_int {y : Option Int} {x : MV} (h : y.map .int = some x) : (∃ i, x = .int i) \/ ∃ l, x = .str l := by
  obtain ⟨z, _, rfl⟩ := Option.map_eq_some_iff.mp h; exact .inl ⟨_, rfl⟩
theorem Ob.get_plain {o : Ob} {x : MV} : ∀ {f : Nat}, o.get f = some x -> (∃ i, x = .int i) \/ ∃ l, x = .str l
  | 0, h => by obtain ⟨z, _, rfl⟩ := Option.map_eq_some_iff.mp (show o.cur.map MV.str = some x from h); exact .inr ⟨_, rfl⟩
  | 1, h => map_int (y := o.c) h
  | 2, h => map_int (y := o.l) h
  | 3, h => map_int (y := o.lb) h
  | 4, h => map_int (y := o.bra) h
  | 5, h => map_int (y := o.ket) h
  | 6, h => map_int (y := some o.p1) h
  | 7, h => map_int (y := some o.p2) h
  | _ + 8, h => nomatch (show Option.none = some x from h)
theorem handed_plain {c : Cx} {h : Heap} {x : MV} {v : Value} (p : (∃ i, x = .int i) \/ ∃ l, x = .str l) (r : VR c h x v) : handedIn v = true := by
  rcases p with ⟨i, rfl⟩ | ⟨l, rfl⟩
  · obtain ⟨t, rfl⟩ := r; rfl
  · obtain ⟨t, rfl⟩ := r; rfl
theorem Ob.get_lt {o : Ob} {f : Nat} {x : MV} (h : o.get f = some x) : f < 6 \/ f = 6 \/ f = 7 := by
  by_cases e : f < 8
  · lia
  · unfold Ob.get at h
    rw [List.getElem?_eq_none (by show 8 <= f; lia)] at h; cases h
theorem fld_run {c : Cx} {ob : Option Ob} {s : Shared} (I : Inv0 c ob s) {o : Ob} (ho : ob = some o) {f : Nat} {x : MV} (hx : o.get f = some x) {p : Addr × Addr} (hp : c.g = some p) {E Q : Value -> Shared -> Prop}
    (q : ∀ v s', Ext s s' -> VR c s'.heap x v -> Q v s') : wpAny c.M c.A (getAttr (.ref p.1) (fldS f) true) Q E s := by
  obtain ⟨p', hp', R⟩ := I.inst ho
  rw [hp] at hp'; cases hp'
  obtain ⟨od, m, IA, hl, hn, a, b, d⟩ := R.at
  have X := I.left.frag
  have pl := Ob.get_plain hx
  have fin : ∀ v, VR c s.heap x v -> findObj (KF c.P) 431 (some od) (fldS f) = some (.value v) -> wpAny c.M c.A (getAttr (.ref p.1) (fldS f) true) Q E s := fun v hv hf =>
    get_value X IA (ga_431 _) hf (handed_plain pl hv) (q _ _ (Ext.toks _ _) (hv.ext (Ext.toks _ _)))
  have two : ∀ {t : Tok}, findIn (KF c.P) (.ref 431) (fldS f) = some (some (.int 0 t)) -> copiedNames.contains (fldS f) = false -> (f = 6 \/ f = 7) -> wpAny c.M c.A (getAttr (.ref p.1) (fldS f) true) Q E s := by
    intro t h1 h2 h3
    rcases b f h3 with ⟨h4, h5⟩ | ⟨i, t', h4, h5⟩
    · rw [hx] at h5; cases h5
      refine fin (.int 0 t) vInt (find_cls (cls_431 _) (hasDict_431 _) h1 (int_get _ _) (by rw [hl, h4]) h2 rfl)
    · rw [hx] at h4; cases h4
      refine fin (.int i t') vInt (find_own (cls_431 _) (hasDict_431 _) h1 (fun a e => by cases e; exact int_get _ _) (by rw [hl, h5]))
  rcases Ob.get_lt hx with h6 | rfl | rfl
  · obtain ⟨v, hv, hr⟩ := a f x h6 hx
    exact fin v hr (find_own (cls_431 _) (hasDict_431 _) (fl_431 _ f h6) (fun a e => by cases e) (by rw [hl, hv]))
  · exact two (p1_431 _) (by decide +kernel) (.inl rfl)
  · exact two (p2_431 _) (by decide +kernel) (.inr rfl)
noncomputable def tb0 : List Amg := [⟨[], -1, 5⟩, ⟨[97, 101], 0, 2⟩, ⟨[111, 101], 0, 3⟩, ⟨[113, 117], 0, -1⟩, ⟨[117, 101], 0, 4⟩, ⟨[223], 0, 1⟩]
noncomputable def tb1 : List Amg := [⟨[], -1, 5⟩, ⟨[85], 0, 2⟩, ⟨[89], 0, 1⟩, ⟨[228], 0, 3⟩, ⟨[246], 0, 4⟩, ⟨[252], 0, 2⟩]
noncomputable def tb2 : List Amg := [⟨[101], -1, 3⟩, ⟨[101, 109], -1, 1⟩, ⟨[101, 110], -1, 3⟩, ⟨[101, 114, 105, 110, 110, 101, 110], 2, 2⟩, ⟨[101, 114, 105, 110], -1, 2⟩, ⟨[108, 110], -1, 5⟩, ⟨[101, 114, 110], -1, 2⟩, ⟨[101, 114], -1, 2⟩, ⟨[115], -1, 4⟩, ⟨[101, 115], 8, 3⟩, ⟨[108, 110, 115], 8, 5⟩]
noncomputable def tb3 : List Amg := [⟨[116, 105, 99, 107], -1, -1⟩, ⟨[112, 108, 97, 110], -1, -1⟩, ⟨[103, 101, 111, 114, 100, 110], -1, -1⟩, ⟨[105, 110, 116, 101, 114, 110], -1, -1⟩, ⟨[116, 114], -1, -1⟩]
noncomputable def tb4 : List Amg := [⟨[101, 110], -1, 1⟩, ⟨[101, 114], -1, 1⟩, ⟨[101, 116], -1, 3⟩, ⟨[115, 116], -1, 2⟩, ⟨[101, 115, 116], 3, 1⟩]
noncomputable def tb5 : List Amg := [⟨[105, 103], -1, 1⟩, ⟨[108, 105, 99, 104], -1, 1⟩]
noncomputable def tb6 : List Amg := [⟨[101, 110, 100], -1, 1⟩, ⟨[105, 103], -1, 2⟩, ⟨[117, 110, 103], -1, 1⟩, ⟨[108, 105, 99, 104], -1, 3⟩, ⟨[105, 115, 99, 104], -1, 2⟩, ⟨[105, 107], -1, 2⟩, ⟨[104, 101, 105, 116], -1, 3⟩, ⟨[107, 101, 105, 116], -1, 4⟩]
noncomputable def tb7 : List Amg := [⟨[39], -1, 1⟩, ⟨[39, 115, 99, 104], -1, 1⟩, ⟨[39, 115], -1, 1⟩]
noncomputable def gr0 : List Nat := [97, 101, 105, 111, 117, 121, 228, 246, 252]
noncomputable def gr1 : List Nat := [85, 100, 102, 103, 107, 108, 109, 110, 114, 115, 116, 122, 228]
noncomputable def gr2 : List Nat := [98, 100, 102, 103, 104, 107, 108, 109, 110, 114, 116]
noncomputable def gr3 : List Nat := [98, 100, 102, 103, 104, 107, 108, 109, 110, 116]
noncomputable def letters : List Nat := [97, 98, 99, 100, 101, 102, 103, 104, 105, 106, 107, 108, 109, 110, 111, 112, 113, 114, 115, 116, 117, 118, 119, 120, 121, 122, 228, 246, 252, 223, 85, 89, 39, 65, 196, 233, 45]
noncomputable def en0 : List (List Nat) := [[101, 109], [101, 114, 110], [101, 114], [101, 114, 105, 110], [101, 114, 105, 110, 110, 101, 110], [101], [101, 110], [101, 115], [115], [108, 110], [108, 110, 115]]
noncomputable def en1 : List (List Nat) := [[101, 110], [101, 114], [101, 115, 116], [115, 116], [101, 116]]
noncomputable def en2 : List (List Nat) := [[101, 110, 100], [117, 110, 103], [105, 103], [105, 107], [105, 115, 99, 104], [108, 105, 99, 104], [104, 101, 105, 116], [107, 101, 105, 116]]
noncomputable def en3 : List (List Nat) := [[39], [39, 115], [39, 115, 99, 104]]
noncomputable def en4 : List (List Nat) := [[103, 101, 111, 114, 100, 110], [105, 110, 116, 101, 114, 110], [112, 108, 97, 110], [116, 105, 99, 107], [116, 114]]
noncomputable def Gst : Stat where
  cattr k := match k with
    | 0 => some (.set gr0.reverse)
    | 1 => some (.set gr1.reverse)
    | 2 => some (.set gr2.reverse)
    | 3 => some (.set gr3.reverse)
    | 4 => some (.tab tb0)
    | 5 => some (.tab tb1)
    | 6 => some (.tab tb2)
    | 7 => some (.tab tb3)
    | 8 => some (.tab tb4)
    | 9 => some (.tab tb5)
    | 10 => some (.tab tb6)
    | 11 => some (.tab tb7)
    | _ => none
  glob k := match k with
    | 0 => some (.str letters)
    | 1 => some (.strs en0)
    | 2 => some (.strs en1)
    | 3 => some (.strs en2)
    | 4 => some (.strs en3)
    | 5 => some (.strs en4)
    | _ => none
noncomputable def tokV (v : Value) : Nat := match v with | .str _ t => t | .int _ t => t | .ref a => a | _ => 0
noncomputable def tokO (v : Option (Option Value)) : Nat := match v with | some (some v) => tokV v | _ => 0
noncomputable def isE {α : Type} [DecidableEq α] (a b : α) (q : Bool) : Bool := decide (a = b) && q
theorem isE_inv {α : Type} [DecidableEq α] {a b : α} {q : Bool} (h : isE a b q = true) {C : Prop} (K : a = b -> q = true -> C) : C :=
  K (of_decide_eq_true (Bool.and_eq_true_iff.mp h).1) (Bool.and_eq_true_iff.mp h).2
theorem and_inv {p q : Bool} (h : (p && q) = true) {C : Prop} (K : p = true -> q = true -> C) : C := K (Bool.and_eq_true_iff.mp h).1 (Bool.and_eq_true_iff.mp h).2
noncomputable def amgB' (P : Params) (x : Amg) (v : Value) (a d : Nat) (o od : Obj) : Bool :=
  isE v (.ref a) (okAt P a && isE o.cls (.ref 218) (notCls o && isE o.dict (some d) (okAt P d &&
    isE (lookIn (amgS 0) od) (some (some (.str (sLit x.s) (tokO (lookIn (amgS 0) od))))) (isE (lookIn (amgS 1) od) (some (some (.int x.sub (tokO (lookIn (amgS 1) od))))) (isE (lookIn (amgS 2) od) (some (some (.int x.res (tokO (lookIn (amgS 2) od))))) true)))))
noncomputable def amgB (P : Params) (x : Amg) (v : Value) : Bool := amgB' P x v (tokV v) ((objAt P (tokV v)).dict.getD 0) (objAt P (tokV v)) (objAt P ((objAt P (tokV v)).dict.getD 0))
theorem atTop_of {P : Params} {a : Nat} (h : okAt P a = true) : atTop P a (objAt P a) := okAt_of h
theorem amgB_of {P : Params} {x : Amg} {v : Value} (h : amgB P x v = true) : amgAt P x v :=
  isE_inv h fun e0 h => and_inv h fun h1 h => isE_inv h fun e1 h => and_inv h fun h2 h => isE_inv h fun e2 h => and_inv h fun h3 h => isE_inv h fun e3 h => isE_inv h fun e4 h => isE_inv h fun e5 _ =>
    ⟨_, _, _, _, _, _, _, e0, atTop_of h1, e1, h2, e2, atTop_of h3, e3, e4, e5⟩
noncomputable def amgsB (P : Params) : List Amg -> List Value -> Bool
  | [] => List.isEmpty
  | x :: r => fun w => match w with | v :: q => amgB P x v && amgsB P r q | [] => false
theorem amgsB_of {P : Params} {l : List Amg} : ∀ {vs : List Value}, amgsB P l vs = true -> amgsAre P l vs := by
  induction l with
  | nil => intro vs h; cases vs with
    | nil => trivial
    | cons v q => exact nomatch h
  | cons x r ih => intro vs h; cases vs with
    | nil => exact nomatch h
    | cons v q => exact and_inv h fun a b => ⟨amgB_of a, ih b⟩
noncomputable def strsB : List (List Nat) -> List Value -> Bool
  | [] => List.isEmpty
  | x :: r => fun w => match w with | v :: q => isE v (.str (sLit x) (tokV v)) (strsB r q) | [] => false
theorem strsB_of {l : List (List Nat)} : ∀ {vs : List Value}, strsB l vs = true -> strsAre l vs := by
  induction l with
  | nil => intro vs h; cases vs with
    | nil => trivial
    | cons v q => exact nomatch h
  | cons x r ih => intro vs h; cases vs with
    | nil => exact nomatch h
    | cons v q => exact isE_inv h fun a b => ⟨⟨_, a⟩, ih b⟩
noncomputable def seqAt (P : Params) (a : Nat) : List Value := match (objAt P a).data with | .seq xs _ => xs.toList | _ => []
theorem tab_of {c : Cx} {h : Heap} {a : Nat} {l : List Amg} (k1 : okAt c.P a = true) (k2 : objAt c.P a = ⟨.type "list", none, .seq ⟨seqAt c.P a⟩ 0, #[]⟩) (k3 : amgsB c.P l (seqAt c.P a) = true) : VR c h (.tab l) (.ref a) :=
  ⟨a, seqAt c.P a, rfl, k2 ▸ atTop_of k1, amgsB_of k3⟩
theorem strs_of {c : Cx} {lv : Nat} (ok : c.Ok lv) {h : Heap} (L : Left c.P h) {a : Nat} {l : List (List Nat)} (k1 : okAt c.P a = true) (k2 : objAt c.P a = ⟨.type "list", none, .seq ⟨seqAt c.P a⟩ 0, #[]⟩) (k3 : strsB l (seqAt c.P a) = true) : VR c h (.strs l) (.ref a) := by
  obtain ⟨h1, h2, h3⟩ := okAt_of k1
  refine ⟨a, seqAt c.P a, rfl, ok.safe_low h1, ⟨_, L a h1 _ h2 h3, ?_⟩, strsB_of k3⟩
  rw [k2]
  exact ⟨rfl, 0, rfl⟩
theorem set_of' {c : Cx} {h : Heap} {a : Nat} {xs : List (Str × Tok)} {l : List Nat} (k1 : okAt c.P a = true) (k2 : objAt c.P a = setObj (setR c.P xs)) (k3 : xs.map (·.1) = l.map fun x => sLit [x]) : VR c h (.set l.reverse) (.ref a) :=
  ⟨a, setR c.P xs, rfl, k2 ▸ atTop_of k1, xs.reverse, setR_ok c.P xs, by rw [List.map_reverse, k3, List.map_reverse]⟩
theorem cattr_ok {c : Cx} {h : Heap} : ∀ {k : Nat} {x : MV}, Gst.cattr k = some x -> ∃ a, findCls (KF c.P) (.ref 431) (.type "type") (catS k) = some (.val (.ref a)) /\ VR c h x (.ref a)
  | 0, _, e => by cases e; exact ⟨230, by kernel_rfl, set_of' (xs := xs230) (by kernel_rfl) (by kernel_rfl) (by kernel_rfl)⟩
  | 1, _, e => by cases e; exact ⟨231, by kernel_rfl, set_of' (xs := xs231) (by kernel_rfl) (by kernel_rfl) (by kernel_rfl)⟩
  | 2, _, e => by cases e; exact ⟨232, by kernel_rfl, set_of' (xs := xs232) (by kernel_rfl) (by kernel_rfl) (by kernel_rfl)⟩
  | 3, _, e => by cases e; exact ⟨233, by kernel_rfl, set_of' (xs := xs233) (by kernel_rfl) (by kernel_rfl) (by kernel_rfl)⟩
  | 4, _, e => by cases e; exact ⟨301, by kernel_rfl, tab_of (by kernel_rfl) (by kernel_rfl) (by kernel_rfl)⟩
  | 5, _, e => by cases e; exact ⟨320, by kernel_rfl, tab_of (by kernel_rfl) (by kernel_rfl) (by kernel_rfl)⟩
  | 6, _, e => by cases e; exact ⟨354, by kernel_rfl, tab_of (by kernel_rfl) (by kernel_rfl) (by kernel_rfl)⟩
  | 7, _, e => by cases e; exact ⟨370, by kernel_rfl, tab_of (by kernel_rfl) (by kernel_rfl) (by kernel_rfl)⟩
  | 8, _, e => by cases e; exact ⟨386, by kernel_rfl, tab_of (by kernel_rfl) (by kernel_rfl) (by kernel_rfl)⟩
  | 9, _, e => by cases e; exact ⟨393, by kernel_rfl, tab_of (by kernel_rfl) (by kernel_rfl) (by kernel_rfl)⟩
  | 10, _, e => by cases e; exact ⟨418, by kernel_rfl, tab_of (by kernel_rfl) (by kernel_rfl) (by kernel_rfl)⟩
  | 11, _, e => by cases e; exact ⟨428, by kernel_rfl, tab_of (by kernel_rfl) (by kernel_rfl) (by kernel_rfl)⟩
  | n + 12, _, e => by cases e
theorem glob_ok {c : Cx} {lv : Nat} (ok : c.Ok lv) {h : Heap} (L : Left c.P h) : ∀ {k : Nat} {x : MV}, Gst.glob k = some x -> ∃ v, nsFind (dictAt c.P 3) (glbS k) = some v /\ VR c h x v
  | 0, _, e => by cases e; exact ⟨.str (sLit letters) 1368, by kernel_rfl, vStr⟩
  | 1, _, e => by cases e; exact ⟨.ref 480, by kernel_rfl, strs_of ok L (by kernel_rfl) (by kernel_rfl) (by kernel_rfl)⟩
  | 2, _, e => by cases e; exact ⟨.ref 481, by kernel_rfl, strs_of ok L (by kernel_rfl) (by kernel_rfl) (by kernel_rfl)⟩
  | 3, _, e => by cases e; exact ⟨.ref 482, by kernel_rfl, strs_of ok L (by kernel_rfl) (by kernel_rfl) (by kernel_rfl)⟩
  | 4, _, e => by cases e; exact ⟨.ref 483, by kernel_rfl, strs_of ok L (by kernel_rfl) (by kernel_rfl) (by kernel_rfl)⟩
  | 5, _, e => by cases e; exact ⟨.ref 505, by kernel_rfl, strs_of ok L (by kernel_rfl) (by kernel_rfl) (by kernel_rfl)⟩
  | n + 6, _, e => by cases e
theorem rep_bin {sc : Scope} {op : Bop} {a b : E} {x : Expr} (h : rep sc (.bin op a b) x = true) : ∃ l o r p, x = .BinOp l o r p /\ (bopIs op o) = true /\ (rep sc a l) = true /\ (rep sc b r) = true := by
  refine onBinOp_inv h fun l o r p h => ?_
  refine an2c h fun h1 h => ?_
  refine an2c h fun h2 h => ?_
  exact ⟨_, _, _, _, rfl, h1, h2, h⟩
theorem rep_fld {sc : Scope} {f : Nat} {x : Expr} (h : rep sc (.fld f) x = true) : ∃ o a p, x = .Attribute o a p /\ (locName sc 0 o) = true /\ a = fldS f := by
  refine onAttribute_inv h fun o a p h => ?_
  refine an2c h fun h1 h => ?_
  exact ⟨_, _, _, rfl, h1, eq_of_beq h⟩
theorem rep_cattr {sc : Scope} {k : Nat} {x : Expr} (h : rep sc (.cattr k) x = true) : ∃ o a p, x = .Attribute o a p /\ (glbName sc (sLit [71, 101, 114, 109, 97, 110, 83, 116, 101, 109, 109, 101, 114]) o) = true /\ a = catS k := by
  refine onAttribute_inv h fun o a p h => ?_
  refine an2c h fun h1 h => ?_
  exact ⟨_, _, _, rfl, h1, eq_of_beq h⟩
theorem rep_amgOf {sc : Scope} {v f : Nat} {x : Expr} (h : rep sc (.amgOf v f) x = true) : ∃ o a p, x = .Attribute o a p /\ (locName sc v o) = true /\ a = amgS f := by
  refine onAttribute_inv h fun o a p h => ?_
  refine an2c h fun h1 h => ?_
  exact ⟨_, _, _, rfl, h1, eq_of_beq h⟩
theorem rep_ite {sc : Scope} {t a b : E} {x : Expr} (h : rep sc (.ite t a b) x = true) : ∃ y l r p, x = .IfExp y l r p /\ (rep sc t y) = true /\ (rep sc a l) = true /\ (rep sc b r) = true := by
  refine onIfExp_inv h fun y l r p h => ?_
  refine an2c h fun h1 h => ?_
  refine an2c h fun h2 h => ?_
  exact ⟨_, _, _, _, rfl, h1, h2, h⟩
theorem rep_idx {sc : Scope} {a i : E} {x : Expr} (h : rep sc (.idx a i) x = true) : ∃ y j p, x = .Subscript y j p /\ (rep sc a y) = true /\ (rep sc i j) = true := by
  refine onSubscript_inv h fun y j p h => ?_
  refine an2c h fun h1 h => ?_
  exact ⟨_, _, _, rfl, h1, h⟩
theorem rep_cmp {sc : Scope} {op : Cop} {a b : E} {x : Expr} (h : rep sc (.cmp op a b) x = true) : ∃ l o r p, x = .Compare l [o] [r] p /\ copIs op o = true /\ rep sc a l = true /\ rep sc b r = true := by
  refine onCompare_inv h fun l os rs p h => ?_
  refine on1_inv h fun o h => ?_
  refine on1_inv h fun r h => ?_
  refine an2c h fun h1 h => ?_
  refine an2c h fun h2 h => ?_
  exact ⟨_, _, _, _, rfl, h1, h2, h⟩
theorem rep_bop {sc : Scope} {t : Bool} {a b : E} {x : Expr} (h : rep sc (.bop t a b) x = true) : ∃ l r p, x = .BoolOp (match t with | true => .And | false => .Or) [l, r] p /\ rep sc a l = true /\ rep sc b r = true := by
  refine onBoolOp_inv h fun o vs p h => ?_
  obtain ⟨h0, h⟩ := an2 h; have e := bopOk_inv h0; clear h0
  refine on2_inv h fun l r h => ?_
  refine an2c h fun h1 h => ?_
  have hz := h
  cases e
  cases t <;> exact ⟨_, _, _, rfl, h1, hz⟩
theorem rep_not {sc : Scope} {a : E} {x : Expr} (h : rep sc (.not a) x = true) : ∃ y p, x = .UnaryOp .Not y p /\ rep sc a y = true := by
  refine onUnaryOp_inv h fun o y p h => ?_
  refine an2c h fun h0 h => isNot_inv h0 ?_
  exact ⟨_, _, rfl, h⟩
theorem rep_neg1 {sc : Scope} {x : Expr} (h : rep sc .neg1 x = true) : ∃ k q p, x = .UnaryOp .USub (.Constant (.int 1) k q) p := by
  refine onUnaryOp_inv h fun o y p h => ?_
  refine an2c h fun h0 h => isUSub_inv h0 ?_
  refine onConstant_inv h fun c k q h => ?_
  refine ocint_inv h fun j h => ?_
  cases eq_of_beq h
  exact ⟨_, _, _, rfl⟩
theorem rep_none {sc : Scope} {x : Expr} (h : rep sc .none x = true) : ∃ k p, x = .Constant .none k p := by
  refine onConstant_inv h fun c k p h => ?_
  refine ocnone_inv h fun h => ?_
  exact ⟨_, _, rfl⟩
theorem rep_bool {sc : Scope} {b : Bool} {x : Expr} (h : rep sc (.bool b) x = true) : ∃ k p, x = .Constant (.bool b) k p := by
  refine onConstant_inv h fun c k p h => ?_
  refine ocbool_inv h fun d h => ?_
  cases eq_of_beq h
  exact ⟨_, _, rfl⟩
theorem rep_int {sc : Scope} {i : Int} {x : Expr} (h : rep sc (.int i) x = true) : ∃ k p, x = .Constant (.int i) k p := by
  refine onConstant_inv h fun c k p h => ?_
  refine ocint_inv h fun j h => ?_
  cases eq_of_beq h
  exact ⟨_, _, rfl⟩
theorem strConst_of {l : List Nat} {x : Expr} (h : strConst l x = true) : ∃ k p, x = .Constant (.str (sLit l)) k p := by
  refine onConstant_inv h fun c k p h => ocstr_inv h fun s h => ?_
  cases eq_of_beq h
  exact ⟨_, _, rfl⟩
theorem rep_slice {sc : Scope} {a lo hi : E} {x : Expr} (h : rep sc (.slice a lo hi) x = true) : ∃ y l u q p, x = .Subscript y (.Slice (some l) (some u) none q) p /\ (rep sc a y) = true /\ (rep sc lo l) = true /\ (rep sc hi u) = true := by
  refine onSubscript_inv h fun y z p h => ?_
  refine onSlice_inv h fun l u st q h => ?_
  refine oJ_inv h fun l1 h => ?_
  refine oJ_inv h fun u1 h => ?_
  refine oN_inv h fun h => ?_
  refine an2c h fun h1 h => ?_
  refine an2c h fun h2 h => ?_
  exact ⟨_, _, _, _, _, rfl, h1, h2, h⟩
theorem rep_sliceLo {sc : Scope} {a lo : E} {x : Expr} (h : rep sc (.sliceLo a lo) x = true) : ∃ y l q p, x = .Subscript y (.Slice (some l) none none q) p /\ (rep sc a y) = true /\ (rep sc lo l) = true := by
  refine onSubscript_inv h fun y z p h => ?_
  refine onSlice_inv h fun l u st q h => ?_
  refine oJ_inv h fun l1 h => ?_
  refine oN_inv h fun h => ?_
  refine oN_inv h fun h => ?_
  refine an2c h fun h1 h => ?_
  exact ⟨_, _, _, _, rfl, h1, h⟩
theorem rep_sliceHi {sc : Scope} {a hi : E} {x : Expr} (h : rep sc (.sliceHi a hi) x = true) : ∃ y u q p, x = .Subscript y (.Slice none (some u) none q) p /\ (rep sc a y) = true /\ (rep sc hi u) = true := by
  refine onSubscript_inv h fun y z p h => ?_
  refine onSlice_inv h fun l u st q h => ?_
  refine oN_inv h fun h => ?_
  refine oJ_inv h fun u1 h => ?_
  refine oN_inv h fun h => ?_
  refine an2c h fun h1 h => ?_
  exact ⟨_, _, _, _, rfl, h1, h⟩
theorem rep_len {sc : Scope} {a : E} {x : Expr} (h : rep sc (.len a) x = true) : ∃ g x1 ps, x = .Call g [x1] [] ps /\ (glbName sc (sLit [108, 101, 110]) g) = true /\ (rep sc a x1) = true := by
  refine onCall_inv h fun g as ks ps h => ?_
  refine on1_inv h fun x1 h => ?_
  refine on0_inv h fun h => ?_
  refine an2c h fun h1 h => ?_
  exact ⟨_, _, _, rfl, h1, h⟩
theorem rep_ord {sc : Scope} {a : E} {x : Expr} (h : rep sc (.ord a) x = true) : ∃ g x1 ps, x = .Call g [x1] [] ps /\ (glbName sc (sLit [111, 114, 100]) g) = true /\ (rep sc a x1) = true := by
  refine onCall_inv h fun g as ks ps h => ?_
  refine on1_inv h fun x1 h => ?_
  refine on0_inv h fun h => ?_
  refine an2c h fun h1 h => ?_
  exact ⟨_, _, _, rfl, h1, h⟩
theorem rep_min {sc : Scope} {a b : E} {x : Expr} (h : rep sc (.min a b) x = true) : ∃ g x1 x2 ps, x = .Call g [x1, x2] [] ps /\ (glbName sc (sLit [109, 105, 110]) g) = true /\ (rep sc a x1) = true /\ (rep sc b x2) = true := by
  refine onCall_inv h fun g as ks ps h => ?_
  refine on2_inv h fun x1 x2 h => ?_
  refine on0_inv h fun h => ?_
  refine an2c h fun h1 h => ?_
  refine an2c h fun h2 h => ?_
  exact ⟨_, _, _, _, rfl, h1, h2, h⟩
theorem rep_max {sc : Scope} {a b : E} {x : Expr} (h : rep sc (.max a b) x = true) : ∃ g x1 x2 ps, x = .Call g [x1, x2] [] ps /\ (glbName sc (sLit [109, 97, 120]) g) = true /\ (rep sc a x1) = true /\ (rep sc b x2) = true := by
  refine onCall_inv h fun g as ks ps h => ?_
  refine on2_inv h fun x1 x2 h => ?_
  refine on0_inv h fun h => ?_
  refine an2c h fun h1 h => ?_
  refine an2c h fun h2 h => ?_
  exact ⟨_, _, _, _, rfl, h1, h2, h⟩
theorem rep_call0 {sc : Scope} {f : Nat} {x : Expr} (h : rep sc (.call0 f ) x = true) : ∃ g  ps, x = .Call g [] [] ps /\ (glbName sc (fnS f) g) = true := by
  refine onCall_inv h fun g as ks ps h => ?_
  refine on0_inv h fun h => ?_
  refine on0_inv h fun h => ?_
  exact ⟨_, _, rfl, h⟩
theorem rep_call1 {sc : Scope} {f : Nat} {a : E} {x : Expr} (h : rep sc (.call1 f a) x = true) : ∃ g x1 ps, x = .Call g [x1] [] ps /\ (glbName sc (fnS f) g) = true /\ (rep sc a x1) = true := by
  refine onCall_inv h fun g as ks ps h => ?_
  refine on1_inv h fun x1 h => ?_
  refine on0_inv h fun h => ?_
  refine an2c h fun h1 h => ?_
  exact ⟨_, _, _, rfl, h1, h⟩
theorem rep_call2 {sc : Scope} {f : Nat} {a b : E} {x : Expr} (h : rep sc (.call2 f a b) x = true) : ∃ g x1 x2 ps, x = .Call g [x1, x2] [] ps /\ (glbName sc (fnS f) g) = true /\ (rep sc a x1) = true /\ (rep sc b x2) = true := by
  refine onCall_inv h fun g as ks ps h => ?_
  refine on2_inv h fun x1 x2 h => ?_
  refine on0_inv h fun h => ?_
  refine an2c h fun h1 h => ?_
  refine an2c h fun h2 h => ?_
  exact ⟨_, _, _, _, rfl, h1, h2, h⟩
theorem rep_call3 {sc : Scope} {f : Nat} {a b c : E} {x : Expr} (h : rep sc (.call3 f a b c) x = true) : ∃ g x1 x2 x3 ps, x = .Call g [x1, x2, x3] [] ps /\ (glbName sc (fnS f) g) = true /\ (rep sc a x1) = true /\ (rep sc b x2) = true /\ (rep sc c x3) = true := by
  refine onCall_inv h fun g as ks ps h => ?_
  refine on3_inv h fun x1 x2 x3 h => ?_
  refine on0_inv h fun h => ?_
  refine an2c h fun h1 h => ?_
  refine an2c h fun h2 h => ?_
  refine an2c h fun h3 h => ?_
  exact ⟨_, _, _, _, _, rfl, h1, h2, h3, h⟩
theorem rep_meth0 {sc : Scope} {f : Nat} {x : Expr} (h : rep sc (.meth0 f ) x = true) : ∃ o m ap  ps, x = .Call (.Attribute o m ap) [] [] ps /\ ap.endLine = ps.line /\ (locName sc 0 o) = true /\ m = fnS f := by
  refine onCall_inv h fun g as ks ps h => ?_
  refine onAttribute_inv h fun o m ap h => ?_
  refine on0_inv h fun h => ?_
  refine on0_inv h fun h => ?_
  refine an2c h fun h1 h => ?_
  refine an2c h fun h2 h => ?_
  exact ⟨_, _, _, _, rfl, eq_of_beq h1, h2, eq_of_beq h⟩
theorem rep_meth1 {sc : Scope} {f : Nat} {a : E} {x : Expr} (h : rep sc (.meth1 f a) x = true) : ∃ o m ap x1 ps, x = .Call (.Attribute o m ap) [x1] [] ps /\ ap.endLine = ps.line /\ (locName sc 0 o) = true /\ m = fnS f /\ (rep sc a x1) = true := by
  refine onCall_inv h fun g as ks ps h => ?_
  refine onAttribute_inv h fun o m ap h => ?_
  refine on1_inv h fun x1 h => ?_
  refine on0_inv h fun h => ?_
  refine an2c h fun h1 h => ?_
  refine an2c h fun h2 h => ?_
  refine an2c h fun h3 h => ?_
  exact ⟨_, _, _, _, _, rfl, eq_of_beq h1, h2, eq_of_beq h3, h⟩
theorem rep_meth3 {sc : Scope} {f : Nat} {a b c : E} {x : Expr} (h : rep sc (.meth3 f a b c) x = true) : ∃ o m ap x1 x2 x3 ps, x = .Call (.Attribute o m ap) [x1, x2, x3] [] ps /\ ap.endLine = ps.line /\ (locName sc 0 o) = true /\ m = fnS f /\ (rep sc a x1) = true /\ (rep sc b x2) = true /\ (rep sc c x3) = true := by
  refine onCall_inv h fun g as ks ps h => ?_
  refine onAttribute_inv h fun o m ap h => ?_
  refine on3_inv h fun x1 x2 x3 h => ?_
  refine on0_inv h fun h => ?_
  refine an2c h fun h1 h => ?_
  refine an2c h fun h2 h => ?_
  refine an2c h fun h3 h => ?_
  refine an2c h fun h4 h => ?_
  refine an2c h fun h5 h => ?_
  exact ⟨_, _, _, _, _, _, _, rfl, eq_of_beq h1, h2, eq_of_beq h3, h4, h5, h⟩
theorem rep_ometh1 {sc : Scope} {v f : Nat} {a : E} {x : Expr} (h : rep sc (.ometh1 v f a) x = true) : ∃ o m ap x1 ps, x = .Call (.Attribute o m ap) [x1] [] ps /\ ap.endLine = ps.line /\ (locName sc v o) = true /\ m = fnS f /\ (rep sc a x1) = true := by
  refine onCall_inv h fun g as ks ps h => ?_
  refine onAttribute_inv h fun o m ap h => ?_
  refine on1_inv h fun x1 h => ?_
  refine on0_inv h fun h => ?_
  refine an2c h fun h1 h => ?_
  refine an2c h fun h2 h => ?_
  refine an2c h fun h3 h => ?_
  exact ⟨_, _, _, _, _, rfl, eq_of_beq h1, h2, eq_of_beq h3, h⟩
theorem rep_endsw {sc : Scope} {a b : E} {x : Expr} (h : rep sc (.endsw a b) x = true) : ∃ o m ap x1 ps, x = .Call (.Attribute o m ap) [x1] [] ps /\ ap.endLine = ps.line /\ m = (sLit [101, 110, 100, 115, 119, 105, 116, 104]) /\ (notCall o) = true /\ (rep sc a o) = true /\ (rep sc b x1) = true := by
  refine onCall_inv h fun g as ks ps h => ?_
  refine onAttribute_inv h fun o m ap h => ?_
  refine on1_inv h fun x1 h => ?_
  refine on0_inv h fun h => ?_
  refine an2c h fun h1 h => ?_
  refine an2c h fun h2 h => ?_
  refine an2c h fun h3 h => ?_
  refine an2c h fun h4 h => ?_
  exact ⟨_, _, _, _, _, rfl, eq_of_beq h1, eq_of_beq h2, h3, h4, h⟩
theorem rep_join {sc : Scope} {a : E} {x : Expr} (h : rep sc (.join a) x = true) : ∃ o m ap x1 ps, x = .Call (.Attribute o m ap) [x1] [] ps /\ ap.endLine = ps.line /\ (strConst [] o) = true /\ m = (sLit [106, 111, 105, 110]) /\ (rep sc a x1) = true := by
  refine onCall_inv h fun g as ks ps h => ?_
  refine onAttribute_inv h fun o m ap h => ?_
  refine on1_inv h fun x1 h => ?_
  refine on0_inv h fun h => ?_
  refine an2c h fun h1 h => ?_
  refine an2c h fun h2 h => ?_
  refine an2c h fun h3 h => ?_
  exact ⟨_, _, _, _, _, rfl, eq_of_beq h1, h2, eq_of_beq h3, h⟩
theorem rep_strs {sc : Scope} {l : List (List Nat)} {x : Expr} (h : rep sc (.strs l) x = true) : ∃ es p, x = .List es p /\ strConsts l es = true := by
  refine onList_inv h fun es p h => ?_
  exact ⟨_, _, rfl, h⟩
theorem rep_dict {sc : Scope} {l : List (List Nat × List Nat)} {x : Expr} (h : rep sc (.dict l) x = true) : ∃ ks vs p, x = .Dict ks vs p /\ strConstsO (l.map (·.1)) ks = true /\ strConsts (l.map (·.2)) vs = true := by
  refine onDict_inv h fun ks vs p h => ?_
  refine an2c h fun h1 h => ?_
  exact ⟨_, _, _, rfl, h1, h⟩
theorem rep_list2 {sc : Scope} {a b : E} {x : Expr} (h : rep sc (.list2 a b) x = true) : ∃ y z p, x = .List [y, z] p /\ rep sc a y = true /\ rep sc b z = true := by
  refine onList_inv h fun es p h => ?_
  refine on2_inv h fun y z h => ?_
  refine an2c h fun h1 h => ?_
  exact ⟨_, _, _, rfl, h1, h⟩
theorem boolM_spec {a : MV} {k : Bool -> Prop} (h : boolM a k) : ∃ b, a = .bool b /\ k b := by
  cases a <;> first | exact ⟨_, rfl, h⟩ | exact h.elim
theorem rep_notSet {sc : Scope} {e : E} {x : Expr} {o : CmpOp} (h : rep sc e x = true) : behindInMarks o x = false := by
  have k := rep_ok h
  clear h
  cases x <;> first | rfl | exact Bool.noConfusion k
theorem star_cons {sc : Scope} {e : E} {x : Expr} {r : List Expr} {env : Env} (h : rep sc e x = true) : starEach (x :: r) env = (false, eval x env) :: starEach r env := by
  have k := rep_ok h
  clear h
  cases x <;> first | rfl | exact Bool.noConfusion k
theorem rep_base {x : Expr} {n : Str} {env : Env} {t : Sem Value} (h : notCall x = true) : attributeBase x n env t = t := by
  cases x <;> first | rfl | exact Bool.noConfusion h
theorem name_base {sc : Scope} {v : Nat} {x : Expr} {n : Str} {env : Env} {t : Sem Value} (h : locName sc v x = true) : attributeBase x n env t = t := onName_inv h fun _ _ _ => rfl
theorem gname_base {sc : Scope} {v : Str} {x : Expr} {n : Str} {env : Env} {t : Sem Value} (h : glbName sc v x = true) : attributeBase x n env t = t := onName_inv h fun _ _ _ => rfl
theorem at_run {prog : Program} {w : World} {A : Around} {E : Value -> Shared -> Prop} {s : Shared} {env : Env} {value : Expr} {attr : Str} {pos : Pos} {Q : Value -> Shared -> Prop} (hb : attributeBase value attr env (eval value env) = eval value env)
    (h : wpAny (model prog w) A (eval value env) (fun o s₁ => wpAny (model prog w) A (getAttr o attr true) Q E s₁) E s) : wpAny (model prog w) A (eval (.Attribute value attr pos) env) Q E s := by
  rw [arm_eval_Attribute, hb]
  exact wpAny_bind (wpAny_mono h (fun o s₁ h₁ => wpAny_bind (wpAny_standAt (wpAny_bind (wpAny_holding (wpAny_mono h₁ (fun r s₂ h₂ => wpAny_bind (wpAny_letTemporaryGo (wpAny_pure h₂))) fun _ _ x => x))))) fun _ _ x => x)
theorem meth_run {M : Model} {A : Around} {E : Value -> Shared -> Prop} {s : Shared} {env : Env} {o : Expr} {name : Str} {apos pos : Pos} {args : List Expr} {Q : Value -> Shared -> Prop} (hb : attributeBase o name env (eval o env) = eval o env)
    (hl : apos.endLine = pos.line) (hf : methodCallForm args.length (backTo pos (starEach args env)) [] = true)
    (h : wpAny M A (eval o env) (fun ov s₁ => ∀ pl, wpAny M A (getMethod ov name pl) (fun fx s₂ => wpAny M A (callWith pos fx.1 fx.2 (backTo pos (starEach args env)) []) Q E s₂) E s₁) E s) :
    wpAny M A (eval (.Call (.Attribute o name apos) args [] pos) env) Q E s := by
  rw [arm_eval_Call, hb]
  refine wpAny_bind (wpAny_mono h (fun ov s₁ h₁ => wpAny_bind (wpAny_standAt ?_)) fun _ _ x => x)
  have hform : methodCallForm (args.length + ([] : List Keyword).length) (backTo pos (starEach args env)) (backToKw pos (keywordEach [] env)) = true := hf
  have hpos : methodCallPos true o env apos pos = pure pos := by unfold methodCallPos; simp [hl]
  unfold methodCall
  rw [hform]
  refine wpAny_bind (wpAny_holding (wpAny_mono (h₁ _) (fun fx s₂ h₂ => ?_) fun _ _ x => x))
  exact wpAny_bind (wpAny_of_eq hpos h₂)
section
variable {G : Stat} {O : Orc}
noncomputable def SndT (G : Stat) (O : Orc) (e : E) : Prop := ∀ c, c.Ok O.lv -> ∀ x, rep c.env.scope e x = true -> ∀ st s (k : Bool -> St -> Prop), Inv c st s -> VE G O e st (fun y st => boolM y fun t => k t st) -> ∀ wh, wh = eval x c.env -> wpAny c.M c.A (isTrue x c.env wh) (fun b s' => ∃ st', Inv c st' s' /\ Stp c s s' /\ k b st') No s
theorem SndE.test {e : E} (h : SndE G O e) (hn : ∀ sc x env wh, rep sc e x = true -> isTrue x env wh = (do let v ← wh; standAt x.pos; holding [v] (truthy v))) : SndT G O e := by
  intro c ok x r st s k I v wh hwh
  subst hwh
  refine wpAny_isTrue_value (h.then ok r I v fun y s₁ a st₁ hv I₁ S₁ v₁ => ?_) (hn _ _ _ _ r)
  obtain ⟨b, rfl, hk⟩ := boolM_spec v₁
  cases hv
  exact wpAny_truthy_bool ⟨st₁, I₁, S₁, hk⟩
theorem SndT.then {e : E} (h : SndT G O e) {c : Cx} (ok : c.Ok O.lv) {x : Expr} (r : rep c.env.scope e x = true) {st : St} {s : Shared} {k : Bool -> St -> Prop} (I : Inv c st s) (v : VE G O e st (fun y st => boolM y fun t => k t st))
    {Q : Bool -> Shared -> Prop} (next : ∀ b s₁ st₁, Inv c st₁ s₁ -> Stp c s s₁ -> k b st₁ -> Q b s₁) : wpAny c.M c.A (isTrue x c.env (eval x c.env)) Q No s :=
  wpAny_mono (h c ok x r st s k I v _ rfl) (fun b s₁ ⟨st₁, h1, h2, h3⟩ => next b s₁ st₁ h1 h2 h3) fun _ _ z => z
theorem se_none : SndE G O .none := by
  intro c ok x h st s k I v
  obtain ⟨_, _, rfl⟩ := rep_none h
  exact wpAny_Constant_none (PostE.ext (a := .none) (Ext.refl _) I rfl v)
theorem se_bool {b} : SndE G O (.bool b) := by
  intro c ok x h st s k I v
  obtain ⟨_, _, rfl⟩ := rep_bool h
  exact wpAny_Constant_bool (PostE.ext (Ext.refl _) I vBool v)
theorem se_int {b} : SndE G O (.int b) := by
  intro c ok x h st s k I v
  obtain ⟨_, _, rfl⟩ := rep_int h
  exact wpAny_Constant_int (PostE.ext (Ext.toks _ _) I vInt v)
theorem se_neg1 : SndE G O .neg1 := by
  intro c ok x h st s k I v
  obtain ⟨_, _, _, rfl⟩ := rep_neg1 h
  exact wpAny_UnaryOp (wpAny_Constant_int (PyProof.Rows.neg_int (PostE.ext ((Ext.toks s _).trans (Ext.toks _ _)) I vInt v)))
theorem str_run {c : Cx} {l : List Nat} {x : Expr} (h : strConst l x = true) {s : Shared} {Q : Value -> Shared -> Prop} (q : Q (.str (sLit l) s.toks) { s with toks := s.toks + 1 }) : wpAny c.M c.A (eval x c.env) Q No s := by
  obtain ⟨_, _, rfl⟩ := strConst_of h
  exact wpAny_Constant_str q
theorem se_str {l} : SndE G O (.str l) := by
  intro c ok x h st s k I v
  have h : strConst l x = true := h
  exact str_run h (PostE.ext (Ext.toks s _) I vStr v)
theorem se_var {n} : SndE G O (.var n) := by
  intro c ok x h st s k I v
  have h : locName c.env.scope n x = true := h
  obtain ⟨y, hy, hk⟩ := v
  exact ld_loc ok h I hy fun z hz => PostE.ext (Ext.refl _) I hz hk
theorem se_bin {op a b} (ha : SndE G O a) (hb : SndE G O b) : SndE G O (.bin op a b) := by
  intro c ok x h st s k I v
  obtain ⟨l, o, r, p, rfl, ho, h1, h2⟩ := rep_bin h
  refine wpAny_BinOp (ha.then ok h1 I v fun y s₁ a st₁ hv I₁ S₁ v₁ => hb.then ok h2 I₁ v₁ fun z s₂ b st₂ hw I₂ S₂ v₂ => ?_)
  exact bin_run (by rw [<- Bool.and_true (bopIs op o), Bool.and_true]; exact ho) (hv.stp S₂) hw v₂ fun r v s' e hr hk => PostE.later (S₁.trans S₂) (PostE.ext e I₂ hr hk)
theorem se_cmp {op a b} (ha : SndE G O a) (hb : SndE G O b) : SndE G O (.cmp op a b) := by
  intro c ok x h st s k I v
  obtain ⟨l, o, r, p, rfl, ho, h1, h2⟩ := rep_cmp h
  refine wpAny_Compare1 (ha.then ok h1 I v fun y s₁ a st₁ hv I₁ S₁ v₁ => hb.then ok h2 I₁ v₁ fun z s₂ b st₂ hw I₂ S₂ v₂ => ?_) (rep_notSet h2)
  exact cmp_run ok I₂.left ho (hv.stp S₂) hw v₂ fun r s' e hk => PostE.later (S₁.trans S₂) (PostE.ext e I₂ vBool hk)
theorem st_cmp {op a b} (ha : SndE G O a) (hb : SndE G O b) : SndT G O (.cmp op a b) := by
  intro c ok x h st s k I v wh hwh
  obtain ⟨l, o, r, p, rfl, ho, h1, h2⟩ := rep_cmp h
  refine wpAny_isTrue_Compare1 (ha.then ok h1 I v fun y s₁ a st₁ hv I₁ S₁ v₁ => hb.then ok h2 I₁ v₁ fun z s₂ b st₂ hw I₂ S₂ v₂ => ?_) (rep_notSet h2)
  exact cmp_run ok I₂.left ho (hv.stp S₂) hw v₂ fun r s' e hk => wpAny_truthy_bool ⟨st₂, I₂.ext e, (S₁.trans S₂).trans e.stp, hk⟩
theorem pick_t {p q : Prop} (h : pick true p q) : p := h.1 rfl
theorem pick_f {p q : Prop} (h : pick false p q) : q := h.2 rfl
theorem se_bop {t a b} (ha : SndE G O a) (hb : SndE G O b) : SndE G O (.bop t a b) := by
  intro c ok x h st s k I v
  obtain ⟨l, r, p, rfl, h1, h2⟩ := rep_bop h
  have go : ∀ {s₁ st₁}, Inv c st₁ s₁ -> Stp c s s₁ -> VE G O b st₁ (fun y st => boolM y fun u => k (.bool u) st) -> wpAny c.M c.A (eval r c.env) (PostE c s k) No s₁ := fun I₁ S₁ v₁ =>
    hb.then ok h2 I₁ v₁ fun z s₂ b st₂ hw I₂ S₂ v₂ => by
      obtain ⟨u, rfl, hk⟩ := boolM_spec v₂
      exact PostE.later (S₁.trans S₂) (PostE.ext (Ext.refl _) I₂ hw hk)
  cases t with
  | true =>
    refine wpAny_And2 (ha.then ok h1 I v fun y s₁ a st₁ hv I₁ S₁ v₁ => ?_)
    obtain ⟨u, rfl, hk⟩ := boolM_spec v₁
    cases hv
    refine wpAny_truthy_bool ?_
    cases u with
    | true => exact go I₁ S₁ (pick_t hk)
    | false => exact PostE.later S₁ (PostE.ext (Ext.refl _) I₁ vBool (pick_f hk))
  | false =>
    refine wpAny_Or2 (ha.then ok h1 I v fun y s₁ a st₁ hv I₁ S₁ v₁ => ?_)
    obtain ⟨u, rfl, hk⟩ := boolM_spec v₁
    cases hv
    refine wpAny_truthy_bool ?_
    cases u with
    | true => exact PostE.later S₁ (PostE.ext (Ext.refl _) I₁ vBool (pick_t hk))
    | false => exact go I₁ S₁ (pick_f hk)
end
section
variable {G : Stat} {O : Orc}
theorem st_bop {t a b} (ha : SndT G O a) (hb : SndT G O b) : SndT G O (.bop t a b) := by
  intro c ok x h st s k I v wh hwh
  obtain ⟨l, r, p, rfl, h1, h2⟩ := rep_bop h
  have fa : ∀ {P : Prop -> Prop}, True := fun {P} => trivial
  cases t with
  | true =>
    refine isTrue_and (ha.then (k := fun u st => pick u (VE G O b st fun y st => boolM y fun u => k u st) (k false st)) ok h1 I v fun u s₁ st₁ I₁ S₁ v₁ => ?_)
    cases u with
    | false => exact ⟨st₁, I₁, S₁, pick_f v₁⟩
    | true =>
      refine isTrue_and (hb.then ok h2 I₁ (pick_t v₁) fun u s₂ st₂ I₂ S₂ v₂ => ?_)
      cases u with
      | true => exact isTrue_and_nil ⟨st₂, I₂, S₁.trans S₂, v₂⟩
      | false => exact ⟨st₂, I₂, S₁.trans S₂, v₂⟩
  | false =>
    refine isTrue_or (ha.then (k := fun u st => pick u (k true st) (VE G O b st fun y st => boolM y fun u => k u st)) ok h1 I v fun u s₁ st₁ I₁ S₁ v₁ => ?_)
    cases u with
    | true => exact ⟨st₁, I₁, S₁, pick_t v₁⟩
    | false =>
      refine isTrue_or (hb.then ok h2 I₁ (pick_f v₁) fun u s₂ st₂ I₂ S₂ v₂ => ?_)
      cases u with
      | false => exact isTrue_or_nil ⟨st₂, I₂, S₁.trans S₂, v₂⟩
      | true => exact ⟨st₂, I₂, S₁.trans S₂, v₂⟩
theorem se_not {a} (ha : SndE G O a) : SndE G O (.not a) := by
  intro c ok x h st s k I v
  obtain ⟨y, p, rfl, h1⟩ := rep_not h
  refine wpAny_UnaryOp (ha.then ok h1 I v fun y s₁ a st₁ hv I₁ S₁ v₁ => ?_)
  obtain ⟨u, rfl, hk⟩ := boolM_spec v₁
  cases hv
  exact not_of (wpAny_truthy_bool (PostE.later S₁ (PostE.ext (Ext.refl _) I₁ vBool hk)))
theorem st_not {a} (ha : SndT G O a) : SndT G O (.not a) := by
  intro c ok x h st s k I v wh hwh
  obtain ⟨y, p, rfl, h1⟩ := rep_not h
  exact isTrue_not (ha.then (k := fun u st => k (!u) st) ok h1 I v fun u s₁ st₁ I₁ S₁ v₁ => ⟨st₁, I₁, S₁, v₁⟩)
theorem se_ite {t a b} (ht : SndT G O t) (ha : SndE G O a) (hb : SndE G O b) : SndE G O (.ite t a b) := by
  intro c ok x h st s k I v
  obtain ⟨y, l, r, p, rfl, h0, h1, h2⟩ := rep_ite h
  refine wpAny_IfExp (ht.then (k := fun u st => pick u (VE G O a st k) (VE G O b st k)) ok h0 I v fun u s₁ st₁ I₁ S₁ v₁ => ?_)
  cases u with
  | true => exact ha.then ok h1 I₁ (pick_t v₁) fun z s₂ b st₂ hw I₂ S₂ v₂ => PostE.later (S₁.trans S₂) (PostE.ext (Ext.refl _) I₂ hw v₂)
  | false => exact hb.then ok h2 I₁ (pick_f v₁) fun z s₂ b st₂ hw I₂ S₂ v₂ => PostE.later (S₁.trans S₂) (PostE.ext (Ext.refl _) I₂ hw v₂)
theorem st_ite {t a b} (ht : SndT G O t) (ha : SndT G O a) (hb : SndT G O b) : SndT G O (.ite t a b) := by
  intro c ok x h st s k I v wh hwh
  obtain ⟨y, l, r, p, rfl, h0, h1, h2⟩ := rep_ite h
  refine isTrue_IfExp (ht.then (k := fun u st => pick u (VE G O a st fun y st => boolM y fun t => k t st) (VE G O b st fun y st => boolM y fun t => k t st)) ok h0 I v fun u s₁ st₁ I₁ S₁ v₁ => ?_)
  cases u with
  | true => exact ha.then ok h1 I₁ (pick_t v₁) fun u s₂ st₂ I₂ S₂ v₂ => ⟨st₂, I₂, S₁.trans S₂, v₂⟩
  | false => exact hb.then ok h2 I₁ (pick_f v₁) fun u s₂ st₂ I₂ S₂ v₂ => ⟨st₂, I₂, S₁.trans S₂, v₂⟩
theorem se_idx {a i} (ha : SndE G O a) (hi : SndE G O i) : SndE G O (.idx a i) := by
  intro c ok x h st s k I v
  obtain ⟨y, j, p, rfl, h1, h2⟩ := rep_idx h
  refine Subscript_ (ha.then ok h1 I v fun y s₁ a st₁ hv I₁ S₁ v₁ => hi.then ok h2 I₁ v₁ fun z s₂ b st₂ hw I₂ S₂ v₂ => ?_)
  exact idx_run I₂.left (rep_notSlice h2) (hv.stp S₂) hw v₂ fun r v s' e hr hk => PostE.later (S₁.trans S₂) (PostE.ext e I₂ hr hk)
theorem se_slice {a lo hi} (ha : SndE G O a) (hl : SndE G O lo) (hh : SndE G O hi) : SndE G O (.slice a lo hi) := by
  intro c ok x h st s k I v
  obtain ⟨y, l, u, q, p, rfl, h1, h2, h3⟩ := rep_slice h
  refine Subscript_ (ha.then ok h1 I v fun y s₁ a st₁ hv I₁ S₁ v₁ => wpAny_Slice (hl.then ok h2 I₁ v₁ fun z s₂ b st₂ hw I₂ S₂ v₂ => hh.then ok h3 I₂ v₂ fun z3 s₃ b3 st₃ hx I₃ S₃ v₃ => wpAny_pure ?_))
  exact slice_run I₃ (lo := some b) (hi := some b3) ((hv.stp S₂).stp S₃) (show partR c _ (some b) z from hw.stp S₃) (show partR c _ (some b3) z3 from hx) v₃ fun r v s' e hr hk => PostE.later ((S₁.trans S₂).trans S₃) (PostE.ext e I₃ hr hk)
theorem se_sliceLo {a lo} (ha : SndE G O a) (hl : SndE G O lo) : SndE G O (.sliceLo a lo) := by
  intro c ok x h st s k I v
  obtain ⟨y, l, q, p, rfl, h1, h2⟩ := rep_sliceLo h
  refine Subscript_ (ha.then ok h1 I v fun y s₁ a st₁ hv I₁ S₁ v₁ => wpAny_Slice (hl.then ok h2 I₁ v₁ fun z s₂ b st₂ hw I₂ S₂ v₂ => wpAny_pure (wpAny_pure ?_)))
  exact slice_run I₂ (lo := some b) (hi := none) (hv.stp S₂) (show partR c _ (some b) z from hw) (show partR c _ none .none from rfl) v₂ fun r v s' e hr hk => PostE.later (S₁.trans S₂) (PostE.ext e I₂ hr hk)
theorem se_sliceHi {a hi} (ha : SndE G O a) (hl : SndE G O hi) : SndE G O (.sliceHi a hi) := by
  intro c ok x h st s k I v
  obtain ⟨y, l, q, p, rfl, h1, h2⟩ := rep_sliceHi h
  refine Subscript_ (ha.then ok h1 I v fun y s₁ a st₁ hv I₁ S₁ v₁ => wpAny_Slice (wpAny_pure (hl.then ok h2 I₁ v₁ fun z s₂ b st₂ hw I₂ S₂ v₂ => wpAny_pure ?_)))
  exact slice_run I₂ (lo := none) (hi := some b) (hv.stp S₂) (show partR c _ none .none from rfl) (show partR c _ (some b) z from hw) v₂ fun r v s' e hr hk => PostE.later (S₁.trans S₂) (PostE.ext e I₂ hr hk)
theorem blt_call {c : Cx} (ok : c.Ok O.lv) {n : List Nat} {g : Expr} (hg : glbName c.env.scope (sLit n) g = true) {st : St} {s : Shared} (I : Inv c st s) {id : Value} (hb : nsFind (dictAt c.P 3) (sLit n) = none /\ nsFind (dictAt c.P 0) (sLit n) = some id) {args : List Expr} {pos : Pos} {Q : Value -> Shared -> Prop}
    (q : wpAny c.M c.A (callWith pos id [] (backTo pos (starEach args c.env)) []) Q No s) : wpAny c.M c.A (eval (.Call g args [] pos) c.env) Q No s := by
  have he : eval (.Call g args [] pos) c.env = (do callWith pos (← eval g c.env) [] (backTo pos (starEach args c.env)) (backToKw pos (keywordEach [] c.env))) := by
    exact onName_inv hg fun _ _ _ => rfl
  exact Call_ (ld_blt ok hg I.left hb.1 hb.2 q) he
theorem back1 {sc : Scope} {a : E} {x : Expr} {env : Env} {pos : Pos} (h : rep sc a x = true) : backTo pos (starEach [x] env) = [(false, eval x env)] := by
  rw [star_cons h]; rfl
theorem se_len {a} (ha : SndE G O a) : SndE G O (.len a) := by
  intro c ok x h st s k I v
  obtain ⟨g, y, p, rfl, h1, h2⟩ := rep_len h
  refine blt_call ok h1 I (blt_len _) ?_
  rw [back1 h2]
  refine callWith_builtin1 (ha.then ok h2 I v fun y s₁ a st₁ hv I₁ S₁ v₁ => ?_)
  exact len_run I₁.left hv v₁ fun r v s' e hr hk => PostE.later S₁ (PostE.ext e I₁ hr hk)
end
section
variable {G : Stat} {O : Orc}
theorem back2 {sc : Scope} {a b : E} {x y : Expr} {env : Env} {pos : Pos} (h : rep sc a x = true) (h2 : rep sc b y = true) : backTo pos (starEach [x, y] env) = [(false, eval x env), (false, eval y env)] := by
  rw [star_cons h, star_cons h2]; rfl
theorem back3 {sc : Scope} {a b d : E} {x y z : Expr} {env : Env} {pos : Pos} (h : rep sc a x = true) (h2 : rep sc b y = true) (h3 : rep sc d z = true) : backTo pos (starEach [x, y, z] env) = [(false, eval x env), (false, eval y env), (false, eval z env)] := by
  rw [star_cons h, star_cons h2, star_cons h3]; rfl
theorem callWith_b2 {M : Model} {A : Around} {E : Value -> Shared -> Prop} {s : Shared} {pos : Pos} {id : String} {t u : Sem Value} {Q : Value -> Shared -> Prop}
    (h : wpAny M A t (fun v s₁ => wpAny M A u (fun z s₂ => wpAny M A (call (.builtin id) [v, z]) Q E s₂) E s₁) E s) : wpAny M A (callWith pos (.builtin id) [] [(false, t), (false, u)] []) Q E s :=
  Calls.callWith_builtin rfl (Calls.evalArgs_plain (Calls.spliced_cons (wpAny_mono h (fun _ _ h₁ => Calls.spliced_cons (wpAny_mono h₁ (fun _ _ h₂ => Calls.spliced_nil h₂) fun _ _ e => e)) fun _ _ e => e)))
theorem se_ord {a} (ha : SndE G O a) : SndE G O (.ord a) := by
  intro c ok x h st s k I v
  obtain ⟨g, y, p, rfl, h1, h2⟩ := rep_ord h
  refine blt_call ok h1 I (blt_ord _) ?_
  rw [back1 h2]
  refine callWith_builtin1 (ha.then ok h2 I v fun y s₁ a st₁ hv I₁ S₁ v₁ => ?_)
  obtain ⟨n, rfl, hk⟩ := v₁
  obtain ⟨t, rfl⟩ := hv
  exact PySem.P.ord_of_char (PostE.later S₁ (PostE.ext (Ext.toks _ _) I₁ vInt hk))
theorem se_min {a b} (ha : SndE G O a) (hb : SndE G O b) : SndE G O (.min a b) := by
  intro c ok x h st s k I v
  obtain ⟨g, y, z, p, rfl, h0, h1, h2⟩ := rep_min h
  refine blt_call ok h0 I (blt_min _) ?_
  rw [back2 h1 h2]
  refine callWith_b2 (ha.then ok h1 I v fun y s₁ a st₁ hv I₁ S₁ v₁ => hb.then ok h2 I₁ v₁ fun z s₂ b st₂ hw I₂ S₂ v₂ => ?_)
  obtain ⟨i, j, rfl, rfl, hk⟩ := v₂
  obtain ⟨t, rfl⟩ := hv; obtain ⟨u, rfl⟩ := hw
  refine PySem.min_two_ints ok.hand fun h' tk keep => ?_
  have e : Ext s₂ { s₂ with heap := h', toks := tk } := ⟨keep, rfl, rfl⟩
  by_cases q : j < i
  · rw [if_pos q] at hk ⊢; exact PostE.later (S₁.trans S₂) (PostE.ext e I₂ vInt hk)
  · rw [if_neg q] at hk ⊢; exact PostE.later (S₁.trans S₂) (PostE.ext e I₂ vInt hk)
theorem se_max {a b} (ha : SndE G O a) (hb : SndE G O b) : SndE G O (.max a b) := by
  intro c ok x h st s k I v
  obtain ⟨g, y, z, p, rfl, h0, h1, h2⟩ := rep_max h
  refine blt_call ok h0 I (blt_max _) ?_
  rw [back2 h1 h2]
  refine callWith_b2 (ha.then ok h1 I v fun y s₁ a st₁ hv I₁ S₁ v₁ => hb.then ok h2 I₁ v₁ fun z s₂ b st₂ hw I₂ S₂ v₂ => ?_)
  obtain ⟨i, j, rfl, rfl, hk⟩ := v₂
  obtain ⟨t, rfl⟩ := hv; obtain ⟨u, rfl⟩ := hw
  refine PySem.max_two_ints ok.hand fun h' tk keep => ?_
  have e : Ext s₂ { s₂ with heap := h', toks := tk } := ⟨keep, rfl, rfl⟩
  by_cases q : i < j
  · rw [if_pos q] at hk; rw [if_pos (show j > i from q)]; exact PostE.later (S₁.trans S₂) (PostE.ext e I₂ vInt hk)
  · rw [if_neg q] at hk; rw [if_neg (show ¬ j > i from q)]; exact PostE.later (S₁.trans S₂) (PostE.ext e I₂ vInt hk)
theorem self_ref {c : Cx} {h : Heap} {v : Value} {p : Addr × Addr} (hp : c.g = some p) (hv : VR c h .obj v) : v = .ref p.1 := by
  obtain ⟨p', hp', e⟩ := hv
  rw [hp] at hp'; cases hp'; exact e
theorem se_fld {f} : SndE G O (.fld f) := by
  intro c ok x h st s k I v
  obtain ⟨o, a, p, rfl, h1, rfl⟩ := rep_fld h
  obtain ⟨h0, ob, y, ho, hy, hk⟩ := v
  obtain ⟨p, hp, R⟩ := I.inst ho
  refine at_run (name_base h1) (ld_loc ok h1 I h0 fun z hz => ?_)
  rw [self_ref hp hz]
  exact fld_run I.toInv0 ho hy hp fun v s' e hv => PostE.ext e I hv hk
theorem se_cattr {n} : SndE Gst O (.cattr n) := by
  intro c ok x h st s k I v
  obtain ⟨o, a, p, rfl, h1, rfl⟩ := rep_cattr h
  obtain ⟨y, hy, hk⟩ := v
  obtain ⟨a, ha, hv⟩ := cattr_ok (c := c) (h := s.heap) hy
  refine at_run (gname_base h1) (ld_glb ok h1 I.left (glb_German _) ?_)
  exact cls_value I.left.frag (rd_431 _) ha rfl (PostE.ext (Ext.toks _ _) I (hv.ext (Ext.toks _ _)) hk)
theorem se_glob {n} : SndE Gst O (.glob n) := by
  intro c ok x h st s k I v
  have h : glbName c.env.scope (glbS n) x = true := h
  obtain ⟨y, hy, hk⟩ := v
  obtain ⟨v, h1, h2⟩ := glob_ok ok I.left hy
  exact ld_glb ok h I.left h1 (PostE.ext (Ext.refl _) I h2 hk)
noncomputable def clsA (P : Params) : ClassData := match (objAt P 218).data with | .cls cd => cd | _ => default
theorem cls_218 (P : Params) : clsIn (KF P) 218 = some (clsA P) := by kernel_rfl
theorem hasDict_218 (P : Params) : (clsA P).hasDict = true := by kernel_rfl
theorem ga_218 (P : Params) : findIn (KF P) (.ref 218) "__getattribute__" = some (some (.builtin "object.__getattribute__")) := by kernel_rfl
theorem fl_218 (P : Params) : findIn (KF P) (.ref 218) (amgS 0) = some none /\ findIn (KF P) (.ref 218) (amgS 1) = some none /\ findIn (KF P) (.ref 218) (amgS 2) = some none := ⟨by kernel_rfl, by kernel_rfl, by kernel_rfl⟩
theorem amg_run {c : Cx} {s : Shared} (L : Left c.P s.heap) {x : MV} {v : Value} (hv : VR c s.heap x v) {f : Nat} {k : MV -> Prop} (hm : amgM f x k) {E Q : Value -> Shared -> Prop}
    (q : ∀ r v s', Ext s s' -> VR c s'.heap r v -> k r -> Q v s') : wpAny c.M c.A (getAttr v (amgS f) true) Q E s := by
  have go : ∀ {x : Amg}, amgAt c.P x v -> ∀ {n : Str} {y : Value}, findIn (KF c.P) (.ref 218) n = some none -> (∀ a d oa od t1 t2 t3, v = .ref a -> atTop c.P a oa -> oa.cls = .ref 218 -> notCls oa = true -> oa.dict = some d -> atTop c.P d od →
      lookIn (amgS 0) od = some (some (.str (sLit x.s) t1)) -> lookIn (amgS 1) od = some (some (.int x.sub t2)) -> lookIn (amgS 2) od = some (some (.int x.res t3)) →
      ∃ y r, lookIn n od = some (some y) /\ handedIn y = true /\ VR c s.heap r y /\ k r) -> wpAny c.M c.A (getAttr v n true) Q E s := by
    intro x ha n y hn H
    obtain ⟨a, d, oa, od, t1, t2, t3, rfl, k1, k2, k3, k4, k5, k6, k7, k8⟩ := ha
    obtain ⟨y, r, e1, e2, e3, e4⟩ := H a d oa od t1 t2 t3 rfl k1 k2 k3 k4 k5 k6 k7 k8
    have IA : InstAt s.heap a oa 218 (some od) := ⟨L a k1.1 _ k1.2.1 k1.2.2, k2, k3, by rw [k4]; exact L d k5.1 _ k5.2.1 k5.2.2⟩
    exact get_value L.frag IA (ga_218 _) (find_own (cls_218 _) (hasDict_218 _) hn (fun a e => by cases e) e1) e2 (q _ _ _ (Ext.toks _ _) (e3.ext (Ext.toks _ _)) e4)
  unfold amgM at hm
  split at hm
  · rcases hm with ⟨rfl, hm⟩ | ⟨rfl, hm⟩ | ⟨rfl, hm⟩
    · exact go (y := .none) hv (fl_218 _).1 fun a d oa od t1 t2 t3 _ _ _ _ _ _ k6 k7 k8 => ⟨_, _, k6, rfl, vStr, hm⟩
    · exact go (y := .none) hv (fl_218 _).2.1 fun a d oa od t1 t2 t3 _ _ _ _ _ _ k6 k7 k8 => ⟨_, _, k7, rfl, vInt, hm⟩
    · exact go (y := .none) hv (fl_218 _).2.2 fun a d oa od t1 t2 t3 _ _ _ _ _ _ k6 k7 k8 => ⟨_, _, k8, rfl, vInt, hm⟩
  · exact hm.elim
theorem se_amgOf {n f} : SndE G O (.amgOf n f) := by
  intro c ok x h st s k I v
  obtain ⟨o, a, p, rfl, h1, rfl⟩ := rep_amgOf h
  obtain ⟨y, hy, hk⟩ := v
  refine at_run (name_base h1) (ld_loc ok h1 I hy fun z hz => ?_)
  exact amg_run I.left hz hk fun r v s' e hr hk => PostE.ext e I hr hk
end
theorem ends_eq (p q : List Nat) : Txt.endswith (sLit p) (sLit q) = q.isSuffixOf p := by
  unfold Txt.endswith Builtin.Str.subAt
  rw [Bool.eq_iff_iff, Bool.and_eq_true_iff, decide_eq_true_iff, beq_iff_eq, List.isSuffixOf_iff_suffix, List.suffix_iff_eq_drop]
  simp only [sLit_len]
  have e : (sLit p).cps.extract (p.length - q.length) (p.length - q.length + q.length) = ⟨(p.drop (p.length - q.length)).take q.length⟩ := by
    show (⟨p⟩ : Array Nat).extract _ _ = _
    rw [List.extract_toArray, List.extract_eq_drop_take]
    congr 2
    lia
  rw [e]
  constructor
  · rintro ⟨h1, h2⟩
    have h3 := congrArg Array.toList h2
    have h3 : (p.drop (p.length - q.length)).take q.length = q := h3
    rw [List.take_of_length_le (by rw [List.length_drop]; lia)] at h3
    exact h3.symm
  · intro h
    have hl : q.length <= p.length := by
      have := congrArg List.length h
      rw [List.length_drop] at this
      lia
    refine ⟨by lia, ?_⟩
    rw [<- h, List.take_of_length_le (Nat.le_refl _)]
    rfl
theorem join_eq (l : List (List Nat)) : Txt.join (sLit []) (l.map sLit) = sLit l.flatten := by
  show Builtin.Str.glued _ _ = _
  rw [StrLaws.glued_eq_join]
  induction l with
  | nil => rfl
  | cons x r ih =>
    cases r with
    | nil => simp [Str.join]
    | cons y r =>
      show sLit x ++ sLit [] ++ Str.join (sLit []) ((y :: r).map sLit) = _
      rw [ih, sLit_app, sLit_app, List.append_nil]; rfl
theorem strs_kit : ∀ {l : List (List Nat)} {vs : List Value}, strsAre l vs -> StrsAre vs (l.map sLit)
  | [], [], _ => .nil
  | x :: r, v :: q, ⟨⟨t, e⟩, h⟩ => by subst e; exact .cons _ _ (strs_kit h)
theorem flat_len (l : List (List Nat)) : ((l.map sLit).map (·.length)).sum = l.flatten.length := by
  rw [List.length_flatten, List.map_map]; rfl
theorem merged_new {K : Type} [DecidableEq K] : ∀ (more acc : List (K × Value)), ((acc ++ more).map (·.1)).Nodup -> merged acc more = acc ++ more
  | [], acc, _ => by simp [merged]
  | kv :: r, acc, h => by
    have hs : stored acc kv.1 kv.2 = acc ++ [kv] := by
      unfold stored
      rw [if_neg]
      intro hm
      obtain ⟨x, hx, hk⟩ := List.any_eq_true.mp hm
      have hk := of_decide_eq_true hk
      rw [List.map_append, List.nodup_append] at h
      exact h.2.2 x.1 (List.mem_map_of_mem hx) kv.1 (List.mem_map_of_mem (List.mem_cons_self ..)) hk
    show merged (stored acc kv.1 kv.2) r = _
    rw [hs, merged_new r (acc ++ [kv]) (by rw [List.append_assoc]; exact h), List.append_assoc]
    rfl
theorem kvs_keys : ∀ {l : List (List Nat × List Nat)} {kvs : List (Str × Value)}, kvsAre l kvs -> kvs.map (·.1) = l.map fun x => sLit x.1
  | [], [], _ => rfl
  | x :: r, v :: q, ⟨⟨t, e⟩, h⟩ => by subst e; rw [List.map_cons, List.map_cons, kvs_keys h]
theorem kvs_nodup {l : List (List Nat × List Nat)} {kvs : List (Str × Value)} (h : kvsAre l kvs) (n : (l.map (·.1)).Nodup) : (kvs.map (·.1)).Nodup := by
  rw [kvs_keys h, show (l.map fun x => sLit x.1) = (l.map (·.1)).map sLit by rw [List.map_map]; rfl]
  exact List.Pairwise.map _ (fun a b h e => h (sLit_inj e)) n
section
variable {G : Stat} {O : Orc} {c : Cx}
theorem strs_sp {env : Env} (he : env = c.env) {pos : Pos} : ∀ {l : List (List Nat)} {es : List Expr}, strConsts l es = true -> ∀ {s : Shared} {Q : List Value -> Shared -> Prop}, (∀ vs s', Ext s s' -> strsAre l vs -> Q vs s') -> wpAny c.M c.A (spliced (backTo pos (starEach es env))) Q No s
  | [], [], _, s, Q, q => Calls.spliced_nil (q _ _ (Ext.refl _) trivial)
  | [], _ :: _, h, _, _, _ => by cases h
  | _ :: _, [], h, _, _, _ => by cases h
  | l :: r, x :: xs, h, s, Q, q => by
    obtain ⟨h1, h2⟩ := Bool.and_eq_true_iff.mp (show (strConst l x && strConsts r xs) = true from h)
    have e : starEach (x :: xs) env = (false, eval x env) :: starEach xs env := by
      obtain ⟨_, _, rfl⟩ := strConst_of h1; rfl
    rw [e]
    refine Calls.spliced_cons ?_
    subst he
    exact str_run h1 (strs_sp rfl h2 fun vs s' e hv => q _ _ ((Ext.toks s _).trans e) ⟨⟨_, rfl⟩, hv⟩)
theorem list_new {st : St} {s : Shared} (I : Inv c st s) {l : List (List Nat)} {vs : List Value} (hv : strsAre l vs) {k : MV -> St -> Prop} (hk : k (.strs l) st) :
    PostE c s k (.ref s.heap.objs.size) { s with heap := s.heap.push { cls := .type "list", data := .seq vs.toArray } } :=
  PostE.ext (a := .strs l) (Ext.push s _ s.toks) I ⟨_, vs, rfl, (I.fresh (size_none s.heap _ (Nat.le_refl _))).1, ⟨_, Heap.get?_push_size _ rfl, rfl, 0, rfl⟩, hv⟩ hk
theorem se_strs {l} : SndE G O (.strs l) := by
  intro c ok x h st s k I v
  obtain ⟨es, p, rfl, h1⟩ := rep_strs h
  refine wpAny_List (strs_sp rfl h1 fun vs s' e hv => ⟨?_, PostE.later e.stp (list_new (I.ext e) hv v.2)⟩)
  rw [strs_len hv]; exact Nat.le_trans v.1 limS_line
theorem se_list2 {a b} (ha : SndE G O a) (hb : SndE G O b) : SndE G O (.list2 a b) := by
  intro c ok x h st s k I v
  obtain ⟨y, z, p, rfl, h1, h2⟩ := rep_list2 h
  refine wpAny_List ?_
  rw [back2 h1 h2]
  refine Calls.spliced_cons (ha.then ok h1 I v fun y s₁ a st₁ hv I₁ S₁ v₁ => Calls.spliced_cons (hb.then ok h2 I₁ v₁ fun z s₂ b st₂ hw I₂ S₂ v₂ => Calls.spliced_nil ?_))
  obtain ⟨i, j, rfl, rfl, hk⟩ := v₂
  exact ⟨show 2 <= sizeLine by decide, PostE.later (S₁.trans S₂) (list_new I₂ (l := [i, j]) (vs := [y, z]) ⟨hv.stp S₂, hw, trivial⟩ hk)⟩
theorem dict_sp {env : Env} (he : env = c.env) {pos : Pos} : ∀ {l : List (List Nat × List Nat)} {ks : List (Option Expr)} {vs : List Expr}, strConstsO (l.map (·.1)) ks = true -> strConsts (l.map (·.2)) vs = true -> ∀ {s : Shared} {Q : List (Value × Value) -> Shared -> Prop},
    (∀ ps kvs s', Ext s s' -> Carries (strKind prg c.w) ps kvs -> kvsAre l kvs -> Q ps s') -> wpAny c.M c.A (evalPairs (pairTrees ks vs env pos)) Q No s
  | [], [], [], _, _, s, Q, q => pairTrees_nil_walk (q _ _ _ (Ext.refl _) (show Carries _ [] [] from trivial) (show kvsAre [] [] from trivial))
  | [], [], _ :: _, _, h, _, _, _ => by cases h
  | [], _ :: _, _, h, _, _, _, _ => by cases h
  | _ :: _, [], _, h, _, _, _, _ => by cases h
  | _ :: _, _ :: _, [], _, h, _, _, _ => by cases h
  | _ :: _, none :: _, _ :: _, h, _, _, _, _ => by cases h
  | l :: r, some x :: xs, y :: ys, h, h', s, Q, q => by
    obtain ⟨h1, h2⟩ := Bool.and_eq_true_iff.mp (show (strConst l.1 x && strConstsO (r.map (·.1)) xs) = true from h)
    obtain ⟨h3, h4⟩ := Bool.and_eq_true_iff.mp (show (strConst l.2 y && strConsts (r.map (·.2)) ys) = true from h')
    subst he
    refine pairTrees_cons_walk (str_run h1 (str_run h3 (dict_sp rfl h2 h4 fun ps kvs s' e h5 h6 => ?_)))
    exact q _ ((sLit l.1, _) :: kvs) s' (((Ext.toks s _).trans (Ext.toks _ _)).trans e) ⟨strKind_is _ _ _ _, rfl, h5⟩ ⟨⟨_, rfl⟩, h6⟩
theorem constsO_all : ∀ {l : List (List Nat)} {ks : List (Option Expr)}, strConstsO l ks = true -> ks.all (·.isSome) = true /\ ks.length = l.length
  | [], [], _ => ⟨rfl, rfl⟩
  | [], _ :: _, h => by cases h
  | _ :: _, [], h => by cases h
  | _ :: _, none :: _, h => by cases h
  | l :: r, some x :: xs, h => by
    obtain ⟨h1, h2⟩ := Bool.and_eq_true_iff.mp (show (strConst l x && strConstsO r xs) = true from h)
    obtain ⟨a, b⟩ := constsO_all h2
    exact ⟨by rw [List.all_cons, a]; rfl, by rw [List.length_cons, List.length_cons, b]⟩
theorem consts_len : ∀ {l : List (List Nat)} {ks : List Expr}, strConsts l ks = true -> ks.length = l.length
  | [], [], _ => rfl
  | [], _ :: _, h => by cases h
  | _ :: _, [], h => by cases h
  | l :: r, x :: xs, h => by
    obtain ⟨h1, h2⟩ := Bool.and_eq_true_iff.mp (show (strConst l x && strConsts r xs) = true from h)
    rw [List.length_cons, List.length_cons, consts_len h2]
theorem se_dict {l} : SndE G O (.dict l) := by
  intro c ok x h st s k I v
  obtain ⟨ks, vs, p, rfl, h1, h2⟩ := rep_dict h
  obtain ⟨n0, n1, n2, hk⟩ := v
  obtain ⟨a1, a2⟩ := constsO_all h1
  have a3 := consts_len h2
  rw [List.length_map] at a2 a3
  refine wpAny_Dict_walk (knd := strKind prg c.w) a1 (by rw [a2, a3]) (fun e => n0 (List.length_eq_zero_iff.mp (by rw [<- a2, e]; rfl))) (by rw [a2]; exact n1) ?_
  refine dict_sp rfl h1 h2 fun ps kvs s' e h5 h6 => ⟨kvs, h5, ?_, fun h' hd hs => ?_⟩
  · exact ⟨_, #[], 0, e.heap _ _ (Heap.get?_push_size _ rfl), ⟨rfl, rfl, rfl⟩, rfl, fun e he => absurd he (by simp), .nil, List.nodup_nil⟩
  · rw [merged_new kvs [] (kvs_nodup h6 n2), List.nil_append] at hd
    have ex : ∀ t, Ext s { s' with heap := h', toks := t } := fun t => ⟨fun b o hb => by
      rw [hs.2 b (Nat.ne_of_lt (Heap.lt_size hb))]
      exact e.heap _ _ (Heap.get?_push_of_some _ hb), e.gens, e.os⟩
    have fr := I.fresh (size_none s.heap _ (Nat.le_refl _))
    exact PostE.ext (a := .dict l) (ex _) I ⟨_, kvs, rfl, fr.1, fr.2, hd, h6⟩ hk
theorem se_endsw {a b} (ha : SndE G O a) (hb : SndE G O b) : SndE G O (.endsw a b) := by
  intro c ok x h st s k I v
  obtain ⟨o, m, ap, y, ps, rfl, h0, rfl, h1, h2, h3⟩ := rep_endsw h
  refine meth_run (rep_base h1) h0 (by rw [back1 h3]; rfl) (ha.then ok h2 I v fun y s₁ a st₁ hv I₁ S₁ v₁ pl => ?_)
  obtain ⟨p, rfl, v₁⟩ := v₁
  obtain ⟨t, rfl⟩ := hv
  refine GM.endswith ?_
  rw [back1 h3]
  refine Calls.callWith_builtin rfl (Calls.evalArgs_plain (Calls.spliced_cons (hb.then ok h3 I₁ v₁ fun z s₂ b st₂ hw I₂ S₂ v₂ => Calls.spliced_nil ?_)))
  obtain ⟨j, rfl, hk⟩ := v₂
  obtain ⟨u, rfl⟩ := hw
  refine SC.endswith ?_
  rw [ends_eq]
  exact PostE.later (S₁.trans S₂) (PostE.ext (Ext.refl _) I₂ vBool hk)
theorem se_join {a} (ha : SndE G O a) : SndE G O (.join a) := by
  intro c ok x h st s k I v
  obtain ⟨o, m, ap, y, ps, rfl, h0, h1, rfl, h3⟩ := rep_join h
  refine meth_run (rep_base (by obtain ⟨_, _, rfl⟩ := strConst_of h1; rfl)) h0 (by rw [back1 h3]; rfl) (str_run h1 fun pl => ?_)
  refine GM.join ?_
  rw [back1 h3]
  refine Calls.callWith_builtin rfl (Calls.evalArgs_plain (Calls.spliced_cons (ha.then ok h3 (I.ext (Ext.toks _ _)) v fun z s₂ b st₂ hw I₂ S₂ v₂ => Calls.spliced_nil ?_)))
  obtain ⟨l, rfl, n1, n2, hk⟩ := v₂
  obtain ⟨d, vs, rfl, sf, hl, hv⟩ := hw
  refine join_listW hl (strs_kit hv) (by decide) ?_ fun t' tk => ?_
  · rw [flat_len, List.length_map]
    have : limS = 4096 := rfl
    lia
  · rw [join_eq]
    exact PostE.later ((Ext.toks s _).stp.trans S₂) (PostE.ext (Ext.toks _ _) I₂ vStr hk)
end
noncomputable def valsAre (c : Cx) (h : Heap) : List MV -> List Value -> Prop
  | [], [] => True
  | m :: r, v :: q => VR c h m v /\ valsAre c h r q
  | _, _ => False
noncomputable def FirstOk (c : Cx) (f : Nat) (first : List Value) : Prop := (18 <= f -> ∃ p, c.g = some p /\ first = [.ref p.1]) /\ (f < 18 -> first = [])
noncomputable def CallOk (O : Orc) : Prop := ∀ f, f < O.lv -> ∀ (c : Cx), c.Ok O.lv -> ∀ (st : St) (s : Shared) (args : List MV) (vs first : List Value) (r : MV) (ob' : Option Ob), Inv c st s -> valsAre c s.heap args vs -> O.ans f args st.ob = some (r, ob') -> FirstOk c f first →
  wpAny c.M c.A (call (.ref (fnA f)) (first ++ vs)) (fun v s' => VR c s'.heap r v /\ Inv c { st with ob := ob' } s' /\ Stp c s s') No s
noncomputable def isFuncB (o : Obj) : Bool := Nat.beq o.data.ctorIdx 7
theorem isFuncB_of {o : Obj} (h : isFuncB o = true) : ∃ fd, o.data = .func fd := @Data.func.elim (fun d => ∃ fd, d = .func fd) o.data (Nat.eq_of_beq_eq_true h) fun fd => ⟨fd, rfl⟩
theorem fn_all (P : Params) : (fnAL.all fun a => okAt P a && isFuncB (objAt P a)) = true := by kernel_rfl
theorem fnA_mem {f : Nat} (h : f < 40) : fnA f ∈ fnAL := by
  unfold fnA
  have e : fnAL.length = 40 := by decide
  rw [List.getElem?_eq_getElem (by rw [e]; exact h)]
  exact List.getElem_mem _
theorem fn_func {P : Params} {h : Heap} (L : Left P h) {f : Nat} (hf : f < 40) : ∃ o fd, h.get? (fnA f) = some o /\ o.data = .func fd /\ o = objAt P (fnA f) := by
  have := List.all_eq_true.mp (fn_all P) _ (fnA_mem hf)
  obtain ⟨a, b⟩ := Bool.and_eq_true_iff.mp this
  obtain ⟨k1, k2, k3⟩ := okAt_of a
  obtain ⟨fd, e⟩ := isFuncB_of b
  exact ⟨_, fd, L _ k1 _ k2 k3, e, rfl⟩
noncomputable def glbIs (P : Params) (f : Nat) : Bool := decide (nsFind (dictAt P 3) (fnS f) = some (.ref (fnA f)))
theorem glbIs_all (P : Params) : ((List.range 18).all fun f => glbIs P f) = true := by kernel_rfl
theorem fn_glb (P : Params) {f : Nat} (h : f < 18) : nsFind (dictAt P 3) (fnS f) = some (.ref (fnA f)) := of_decide_eq_true (List.all_eq_true.mp (glbIs_all P) f (List.mem_range.mpr h))
theorem mth_f (P : Params) : ((List.range 22).map fun f => findIn (KF P) (.ref 431) (fnS (f + 18))) = (List.range 22).map fun f => some (some (.ref (fnA (f + 18)))) := by kernel_rfl
theorem mth_t (P : Params) : ((List.range 22).map fun f => typeIn (KF P) (.ref (fnA (f + 18)))) = (List.range 22).map fun f => some (.type "function") := by kernel_rfl
theorem mth_n : ((List.range 22).all fun f => (List.range 8).all fun g => !(fnS (f + 18) == fldS g)) = true := by decide +kernel
theorem at_map {α : Type} {f g : Nat -> α} {n : Nat} (h : (List.range n).map f = (List.range n).map g) {i : Nat} (hi : i < n) : f i = g i := by
  have := congrArg (fun l => l[i]?) h
  simp only [List.getElem?_map, List.getElem?_range hi, Option.map_some, Option.some.injEq] at this
  exact this
theorem fn_mth (P : Params) {f : Nat} (h : 18 <= f) (h2 : f < 40) : findIn (KF P) (.ref 431) (fnS f) = some (some (.ref (fnA f))) /\ typeIn (KF P) (.ref (fnA f)) = some (.type "function") /\ ∀ g, g < 8 -> fnS f ≠ fldS g := by
  obtain ⟨i, rfl⟩ : ∃ i, f = i + 18 := ⟨f - 18, (Nat.sub_add_cancel h).symm⟩
  have hi : i < 22 := Nat.lt_of_add_lt_add_right h2
  refine ⟨at_map (mth_f P) hi, at_map (mth_t P) hi, fun g hg e => ?_⟩
  have := List.all_eq_true.mp (List.all_eq_true.mp mth_n i (List.mem_range.mpr hi)) g (List.mem_range.mpr hg)
  rw [e] at this
  simp at this
theorem mth_run {c : Cx} {ob : Option Ob} {s : Shared} (I : Inv0 c ob s) {p : Addr × Addr} (hp : c.g = some p) {f : Nat} (h1 : 18 <= f) (h2 : f < 40) {E : Value -> Shared -> Prop} {pl : Sem Bool} {Q : Value × List Value -> Shared -> Prop}
    (hob : ob.isSome = true) (q : Q (.ref (fnA f), [.ref p.1]) s) : wpAny c.M c.A (getMethod (.ref p.1) (fnS f) pl) Q E s := by
  obtain ⟨o, ho⟩ := Option.isSome_iff_exists.mp hob
  obtain ⟨p', hp', R⟩ := I.inst ho
  rw [hp] at hp'; cases hp'
  obtain ⟨od, m, IA, hl, hn, a, b, d⟩ := R.at
  obtain ⟨k1, k2, k3⟩ := fn_mth c.P h1 h2
  refine method_fn I.left.frag IA (ga_431 _) (gh_431 _) k1 k2 ?_ q
  unfold shadowIn
  dsimp only
  rw [hl]
  cases e : m (fnS f) with
  | none => rfl
  | some v =>
    obtain ⟨g, hg, e⟩ := d _ _ e
    exact absurd e (k3 g hg)
section
variable {G : Stat} {O : Orc}
theorem call_end (H : CallOk O) {c : Cx} (ok : c.Ok O.lv) {st : St} {s : Shared} (I : Inv c st s) {f : Nat} {args : List MV} {vs first : List Value} {k : MV -> St -> Prop} (hv : valsAre c s.heap args vs) (hc : callM O f args st k) (hf : FirstOk c f first) :
    wpAny c.M c.A (call (.ref (fnA f)) (first ++ vs)) (PostE c s k) No s := by
  obtain ⟨h1, r, o', h2, h3⟩ := hc
  exact wpAny_mono (H f h1 c ok st s args vs first r o' I hv h2 hf) (fun v s' ⟨a, b, d⟩ => ⟨r, _, a, b, d, h3⟩) fun _ _ z => z
theorem fn_call {c : Cx} (ok : c.Ok O.lv) {f : Nat} {g : Expr} (hg : glbName c.env.scope (fnS f) g = true) (hf : f < 18) {st : St} {s : Shared} (I : Inv c st s) {args : List Expr} {pos : Pos} {Q : Value -> Shared -> Prop}
    (q : wpAny c.M c.A (callWith pos (.ref (fnA f)) [] (backTo pos (starEach args c.env)) []) Q No s) : wpAny c.M c.A (eval (.Call g args [] pos) c.env) Q No s := by
  have he : eval (.Call g args [] pos) c.env = (do callWith pos (← eval g c.env) [] (backTo pos (starEach args c.env)) (backToKw pos (keywordEach [] c.env))) := by
    exact onName_inv hg fun _ _ _ => rfl
  exact Call_ (ld_glb ok hg I.left (fn_glb _ hf) q) he
structure ArgsRun (c : Cx) (k : List MV -> St -> Prop) (ts : List (Bool × Sem Value)) (s : Shared) : Prop where
  run : ∀ {Q : List Value -> Shared -> Prop}, (∀ vs ms s' st', valsAre c s'.heap ms vs -> Inv c st' s' -> Stp c s s' -> k ms st' -> Q vs s') -> wpAny c.M c.A (spliced ts) Q No s
theorem args0 {c : Cx} {st : St} {s : Shared} {k : List MV -> St -> Prop} (I : Inv c st s) (v : k [] st) : ArgsRun c k [] s := ⟨fun q => Calls.spliced_nil (q [] [] s st trivial I (StpX.refl _) v)⟩
theorem args_cons {c : Cx} (ok : c.Ok O.lv) {e : E} (he : SndE G O e) {x : Expr} (h : rep c.env.scope e x = true) {ts : List (Bool × Sem Value)} {st : St} {s : Shared} {k : List MV -> St -> Prop} (I : Inv c st s) {kk : MV -> St -> Prop}
    (v : VE G O e st kk) (hk : ∀ y st s', Inv c st s' -> kk y st -> ArgsRun c (fun ms st => k (y :: ms) st) ts s') : ArgsRun c k ((false, eval x c.env) :: ts) s := ⟨fun q =>
  Calls.spliced_cons (he.then ok h I v fun y s₁ a st₁ hv I₁ S₁ v₁ => (hk a st₁ s₁ I₁ v₁).run fun vs ms s' st' h1 h2 h3 h4 => q (y :: vs) (a :: ms) s' st' ⟨hv.stp h3, h1⟩ h2 (S₁.trans h3) h4)⟩
theorem call_go (H : CallOk O) {c : Cx} (ok : c.Ok O.lv) {f : Nat} {pos : Pos} {ts : List (Bool × Sem Value)} {s : Shared} (hlt : f < 40) {first : List Value} (hf : FirstOk c f first) {k : MV -> St -> Prop}
    (a : ArgsRun c (fun ms st => callM O f ms st k) ts s) (hts : ts = [] -> ∃ st, Inv c st s /\ callM O f [] st k) (hb : ∀ p ∈ ts, p.1 = false) : wpAny c.M c.A (callWith pos (.ref (fnA f)) first ts []) (PostE c s k) No s := by
  cases ts with
  | nil =>
    obtain ⟨st, I, hc⟩ := hts rfl
    obtain ⟨o, fd, h1, h2, _⟩ := fn_func I.left hlt
    exact Calls.callWith_function (o := o) (fd := fd) (evalArgs_nil3 ⟨⟨h1, h2⟩, call_end H ok I (vs := []) (args := []) (show valsAre c s.heap [] [] from trivial) hc hf⟩)
  | cons p r =>
    obtain ⟨b, t⟩ := p
    have : b = false := hb _ (List.mem_cons_self ..)
    subst this
    have key : wpAny c.M c.A (spliced ((false, t) :: r)) (fun vs s₁ => (s₁.heap.get? (fnA f) = some (objAt c.P (fnA f)) /\ ∃ fd, (objAt c.P (fnA f)).data = .func fd) /\ wpAny c.M c.A (call (.ref (fnA f)) (first ++ vs)) (PostE c s k) No s₁) No s := a.run fun vs ms s' st' h1 h2 h3 h4 => by
      obtain ⟨o, fd, k1, k2, rfl⟩ := fn_func h2.left hlt
      exact ⟨⟨k1, fd, k2⟩, wpAny_mono (call_end H ok h2 h1 h4 hf) (fun v s'' hp => PostE.later h3 hp) fun _ _ z => z⟩
    have hfd : ∃ fd, (objAt c.P (fnA f)).data = .func fd := by
      have := List.all_eq_true.mp (fn_all c.P) _ (fnA_mem hlt)
      exact isFuncB_of (Bool.and_eq_true_iff.mp this).2
    obtain ⟨fd, hfd⟩ := hfd
    exact Calls.callWith_function (o := objAt c.P (fnA f)) (fd := fd) (Calls.evalArgs_plain (wpAny_mono key (fun vs s₁ ⟨⟨h1, _⟩, h3⟩ => ⟨⟨h1, hfd⟩, h3⟩) fun _ _ z => z))
theorem first_fn {c : Cx} {f : Nat} (h : f < 18) : FirstOk c f [] := ⟨fun h2 => absurd h2 (Nat.not_le.mpr h), fun _ => rfl⟩
theorem first_mth {c : Cx} {f : Nat} {p : Addr × Addr} (h : 18 <= f) (hp : c.g = some p) : FirstOk c f [.ref p.1] := ⟨fun _ => ⟨p, hp, rfl⟩, fun h2 => absurd h2 (Nat.not_lt.mpr h)⟩
theorem se_call0 (H : CallOk O) {f} : SndE G O (.call0 f) := by
  intro c ok x h st s k I v
  obtain ⟨g, ps, rfl, h1⟩ := rep_call0 h
  obtain ⟨hf, v⟩ := v
  exact fn_call ok h1 hf I (call_go H ok (Nat.lt_trans hf (by decide)) (first_fn hf) (args0 I v) (fun _ => ⟨_, I, v⟩) nofun)
theorem se_call1 (H : CallOk O) {f a} (ha : SndE G O a) : SndE G O (.call1 f a) := by
  intro c ok x h st s k I v
  obtain ⟨g, y, ps, rfl, h1, h2⟩ := rep_call1 h
  obtain ⟨hf, v⟩ := v
  refine fn_call ok h1 hf I ?_
  rw [back1 h2]
  exact call_go H ok (Nat.lt_trans hf (by decide)) (first_fn hf) (args_cons ok ha h2 I v fun y st s' I v => args0 I v) (fun e => by cases e) (by simp)
theorem se_call2 (H : CallOk O) {f a b} (ha : SndE G O a) (hb : SndE G O b) : SndE G O (.call2 f a b) := by
  intro c ok x h st s k I v
  obtain ⟨g, y, z, ps, rfl, h1, h2, h3⟩ := rep_call2 h
  obtain ⟨hf, v⟩ := v
  refine fn_call ok h1 hf I ?_
  rw [back2 h2 h3]
  exact call_go H ok (Nat.lt_trans hf (by decide)) (first_fn hf) (args_cons ok ha h2 I v fun y st s' I v => args_cons ok hb h3 I v fun y st s' I v => args0 I v) (fun e => by cases e) (by simp)
theorem se_call3 (H : CallOk O) {f a b d} (ha : SndE G O a) (hb : SndE G O b) (hd : SndE G O d) : SndE G O (.call3 f a b d) := by
  intro c ok x h st s k I v
  obtain ⟨g, y, z, z2, ps, rfl, h1, h2, h3, h4⟩ := rep_call3 h
  obtain ⟨hf, v⟩ := v
  refine fn_call ok h1 hf I ?_
  rw [back3 h2 h3 h4]
  exact call_go H ok (Nat.lt_trans hf (by decide)) (first_fn hf) (args_cons ok ha h2 I v fun y st s' I v => args_cons ok hb h3 I v fun y st s' I v => args_cons ok hd h4 I v fun y st s' I v => args0 I v) (fun e => by cases e) (by simp)
theorem mth_call {c : Cx} (ok : c.Ok O.lv) {n f : Nat} {o : Expr} (h1 : locName c.env.scope n o = true) (hf : 18 <= f /\ f < 40) {st : St} {s : Shared} (I : Inv c st s) (h0 : st.loc.lookup n = some .obj) (hob : st.ob.isSome = true) {args : List Expr} {ap pos : Pos} {Q : Value -> Shared -> Prop}
    (hl : ap.endLine = pos.line) (hform : methodCallForm args.length (backTo pos (starEach args c.env)) [] = true)
    (q : ∀ p, c.g = some p -> wpAny c.M c.A (callWith pos (.ref (fnA f)) [.ref p.1] (backTo pos (starEach args c.env)) []) Q No s) : wpAny c.M c.A (eval (.Call (.Attribute o (fnS f) ap) args [] pos) c.env) Q No s := by
  obtain ⟨ob, ho⟩ := Option.isSome_iff_exists.mp hob
  obtain ⟨p, hp, R⟩ := I.inst ho
  refine meth_run (name_base h1) hl hform (ld_loc ok h1 I h0 fun z hz pl => ?_)
  rw [self_ref hp hz]
  exact mth_run I.toInv0 hp hf.1 hf.2 hob (q p hp)
theorem se_meth0 (H : CallOk O) {f} : SndE G O (.meth0 f) := by
  intro c ok x h st s k I v
  obtain ⟨o, m, ap, ps, rfl, hl, h1, rfl⟩ := rep_meth0 h
  obtain ⟨hf, h0, hob, v⟩ := v
  exact mth_call ok h1 hf I h0 hob hl rfl fun p hp => call_go H ok hf.2 (first_mth hf.1 hp) (args0 I v) (fun _ => ⟨_, I, v⟩) nofun
theorem se_meth1 (H : CallOk O) {f a} (ha : SndE G O a) : SndE G O (.meth1 f a) := by
  intro c ok x h st s k I v
  obtain ⟨o, m, ap, y, ps, rfl, hl, h1, rfl, h2⟩ := rep_meth1 h
  obtain ⟨hf, h0, hob, v⟩ := v
  refine mth_call ok h1 hf I h0 hob hl (by rw [back1 h2]; rfl) fun p hp => ?_
  rw [back1 h2]
  exact call_go H ok hf.2 (first_mth hf.1 hp) (args_cons ok ha h2 I v fun y st s' I v => args0 I v) (fun e => by cases e) (by simp)
theorem se_ometh1 (H : CallOk O) {n f a} (ha : SndE G O a) : SndE G O (.ometh1 n f a) := by
  intro c ok x h st s k I v
  obtain ⟨o, m, ap, y, ps, rfl, hl, h1, rfl, h2⟩ := rep_ometh1 h
  obtain ⟨hf, h0, hob, v⟩ := v
  refine mth_call ok h1 hf I h0 hob hl (by rw [back1 h2]; rfl) fun p hp => ?_
  rw [back1 h2]
  exact call_go H ok hf.2 (first_mth hf.1 hp) (args_cons ok ha h2 I v fun y st s' I v => args0 I v) (fun e => by cases e) (by simp)
theorem se_meth3 (H : CallOk O) {f a b d} (ha : SndE G O a) (hb : SndE G O b) (hd : SndE G O d) : SndE G O (.meth3 f a b d) := by
  intro c ok x h st s k I v
  obtain ⟨o, m, ap, y, z, z2, ps, rfl, hl, h1, rfl, h2, h3, h4⟩ := rep_meth3 h
  obtain ⟨hf, h0, hob, v⟩ := v
  refine mth_call ok h1 hf I h0 hob hl (by rw [back3 h2 h3 h4]; rfl) fun p hp => ?_
  rw [back3 h2 h3 h4]
  exact call_go H ok hf.2 (first_mth hf.1 hp) (args_cons ok ha h2 I v fun y st s' I v => args_cons ok hb h3 I v fun y st s' I v => args_cons ok hd h4 I v fun y st s' I v => args0 I v) (fun e => by cases e) (by simp)
end
noncomputable def labC (j : Nat) : Addr := ([443, 456, 469][j]?).getD 0
noncomputable def labN (j : Nat) : Addr := ([442, 455, 468][j]?).getD 0
noncomputable def bmE : List Value := [.type "Exception", .type "BaseException", .type "object"]
structure LabAt (h : Heap) (C N : Addr) (nm q : Str) (k0 k2 k3 : Option Value) (mN : Str -> Option Value) : Prop where
  cls : h.get? C = some (excClassObj nm q C N [.type "Exception"] bmE true [] [] false none none k0 none k2 k3 (some (.bool true)) "Exception.__new__")
  ns : h.Ns N mN
  ni : mN "__init__" = none
theorem lab_mk {P : Params} {h : Heap} (L : Left P h) {C N : Nat} {nm q : Str} {k0 k2 k3 : Option Value} (c1 : okAt P C = true) (c2 : objAt P C = excClassObj nm q C N [.type "Exception"] bmE true [] [] false none none k0 none k2 k3 (some (.bool true)) "Exception.__new__")
    (n1 : N < 607) (n2 : (TB36 P).get N = some (objAt P N)) (n3 : alive (objAt P N) = some (objAt P N)) (n4 : (objAt P N).data = .dict (dictAt P N) (epAt P N)) (n5 : strKeysB (dictAt P N) = true) (n6 : nsFind (dictAt P N) "__init__" = none) :
    LabAt h C N nm q k0 k2 k3 (nsFind (dictAt P N)) :=
  let ⟨a, b, d⟩ := okAt_of c1
  ⟨c2 ▸ L C a _ b d, ns_top L n1 n2 n3 n4 n5, n6⟩
theorem lab_at {P : Params} {h : Heap} (L : Left P h) : ∀ {j : Nat}, j < 3 -> ∃ nm q k0 k2 k3 mN, LabAt h (labC j) (labN j) nm q k0 k2 k3 mN
  | 0, _ => ⟨sLit [108, 97, 98, 48], sLit [108, 97, 98, 48], some (.ref 434), some (.str (sLit [108, 97, 98, 48]) 1306), some (.str (sLit [108, 97, 98, 48]) 1314), _, lab_mk L (C := 443) (N := 442) (by kernel_rfl) (by kernel_rfl) (by decide) (by kernel_rfl) (by kernel_rfl) (by kernel_rfl) (by kernel_rfl) (by kernel_rfl)⟩
  | 1, _ => ⟨sLit [108, 97, 98, 49], sLit [108, 97, 98, 49], some (.ref 447), some (.str (sLit [108, 97, 98, 49]) 1326), some (.str (sLit [108, 97, 98, 49]) 1334), _, lab_mk L (C := 456) (N := 455) (by kernel_rfl) (by kernel_rfl) (by decide) (by kernel_rfl) (by kernel_rfl) (by kernel_rfl) (by kernel_rfl) (by kernel_rfl)⟩
  | 2, _ => ⟨sLit [108, 97, 98, 50], sLit [108, 97, 98, 50], some (.ref 460), some (.str (sLit [108, 97, 98, 50]) 1346), some (.str (sLit [108, 97, 98, 50]) 1354), _, lab_mk L (C := 469) (N := 468) (by kernel_rfl) (by kernel_rfl) (by decide) (by kernel_rfl) (by kernel_rfl) (by kernel_rfl) (by kernel_rfl) (by kernel_rfl)⟩
  | n + 3, h => absurd h (by lia)
theorem lab_glb (P : Params) : ∀ {j : Nat}, j < 3 -> nsFind (dictAt P 3) (labS j) = some (.ref (labC j))
  | 0, _ => by kernel_rfl
  | 1, _ => by kernel_rfl
  | 2, _ => by kernel_rfl
  | n + 3, h => absurd h (by lia)
theorem lab_ne {i j : Nat} (hi : i < 3) (hj : j < 3) (h : i ≠ j) : labC i ≠ labC j := by
  have : ∀ i, i < 3 -> ∀ j, j < 3 -> i ≠ j -> labC i ≠ labC j := by decide
  exact this i hi j hj h
section
variable {M : Model} {A : Around} {E : Value -> Shared -> Prop}
variable {nm q : Str} {C N : Addr} {bs bm : List Value} {hdct : Bool} {sn : List Str} {sub : List Value} {ab : Bool} {col : Option Bool} {dd : Option Addr} {k0 k1 k2 k3 k5 : Option Value} {newId : String}
variable {nm' q' : Str} {C' N' : Addr} {bs' bm' : List Value} {hdct' : Bool} {sn' : List Str} {sub' : List Value} {ab' : Bool} {col' : Option Bool} {dd' : Option Addr} {k0' k1' k2' k3' k5' : Option Value} {newId' : String}
theorem excMatches_own {h : Heap} {g : Array GenState} {d : Drawn} {t : Nat} {os : OsState} {e : Addr} {oe : Obj} {b : Bool} {Q : Bool -> Shared -> Prop}
    (hC : h.get? C = some (excClassObj nm q C N bs bm hdct sn sub ab col dd k0 k1 k2 k3 k5 newId)) (hC' : h.get? C' = some (excClassObj nm' q' C' N' bs' bm' hdct' sn' sub' ab' col' dd' k0' k1' k2' k3' k5' newId')) (he : h.get? e = some oe) (hcls : oe.cls = .ref C) (hbase : bm'.contains (.type "BaseException") = true)
    (hb : (Value.ref C :: bm).contains (.ref C') = b)
    (hq : Q b ⟨h, g, d, t, os⟩) : wpAny M A (excMatches (.ref e) (.ref C')) Q E ⟨h, g, d, t, os⟩ := by
  have hcB : (Value.ref C' :: bm').contains (.type "BaseException") = true := by rw [List.contains_cons, hbase, Bool.or_true]
  have f := tc_notTuple
  unfold excMatches
  repeat (first | (with_reducible refine wpAny_loadPart_at he ?_; rw [hcls]) | with_reducible refine wpAny_loadPart_at hC' ?_ | (with_reducible refine wpAny_isSubtype_exc hC' ?_; rw [hcB]) | (with_reducible refine wpAny_isSubtype_exc hC ?_; rw [hb]) | wp_step)
  cases b <;> (wp_walk; exact hq)
end
noncomputable def hid (c : Cx) : List Addr := c.L :: (c.fr ++ ((match c.g with | some p => [p.2] | none => []) ++ c.av))
noncomputable def baseOf (c : Cx) (s : Shared) : Heap := hideAll s.heap (hid c)
theorem base_frames {c : Cx} {s : Shared} {h : Heap} (F : FrI c h) : h.FunFrames (baseOf c s) c.fl := by
  have : ∀ l : List Env, (∀ e ∈ l, e ∈ c.fl) -> h.FunFrames (baseOf c s) l := by
    intro l
    induction l with
    | nil => intro _; trivial
    | cons e r ih =>
      intro hl
      obtain ⟨k, a, o, hf, ho, es, n, hd⟩ := F e (hl e (List.mem_cons_self ..))
      refine ⟨k, ⟨a, o, hf, ?_, ho, fun vs q => by rw [hd] at q; cases q⟩, ih fun x hx => hl x (List.mem_cons_of_mem _ hx)⟩
      exact hideAll_none _ (List.mem_cons_of_mem _ (List.mem_append_left _ (List.mem_filterMap.mpr ⟨e, hl e (List.mem_cons_self ..), hf⟩)))
  exact this c.fl fun _ h => h
noncomputable def bornRec (s s₁ : Shared) (b : Addr) : Prop := s.heap.get? b = none /\ ∃ o vs, s₁.heap.get? b = some o /\ o.data = .fields vs
structure StpN (c : Cx) (s s₁ s₂ : Shared) : Prop where
  heap : ∀ b o, s₁.heap.get? b = some o -> ¬ bornRec s s₁ b -> ∃ o', s₂.heap.get? b = some o' /\ (b ∉ c.fr -> o' = o) /\ (b ∈ c.fr -> Up o o')
  gens : s₂.gens = s₁.gens
  os : s₂.os = s₁.os
theorem StpN.refl {c : Cx} {s s₁ : Shared} : StpN c s s₁ s₁ := ⟨fun b o h _ => ⟨o, h, fun _ => rfl, fun _ => Up.refl o⟩, rfl, rfl⟩
theorem StpN.keep {c : Cx} {s s₁ s₂ : Shared} (N : StpN c s s₁ s₂) {b : Addr} {o : Obj} (h : s₁.heap.get? b = some o) (hf : b ∉ c.fr) (hd : ∀ vs, o.data ≠ .fields vs) : s₂.heap.get? b = some o := by
  obtain ⟨o', h1, h2, _⟩ := N.heap b o h (fun ⟨_, o', vs, h1, h2⟩ => by rw [h] at h1; cases h1; exact hd vs h2)
  rw [h1, h2 hf]
theorem StpN.up {c : Cx} {s s₁ s₂ : Shared} (N : StpN c s s₁ s₂) {b : Addr} {o : Obj} (h : s₁.heap.get? b = some o) (hd : ∀ vs, o.data ≠ .fields vs) : ∃ o', s₂.heap.get? b = some o' /\ Up o o' := by
  obtain ⟨o', h1, a1, a2⟩ := N.heap b o h (fun ⟨_, o', vs, h1, h2⟩ => by rw [h] at h1; cases h1; exact hd vs h2)
  by_cases hf : b ∈ c.fr
  · exact ⟨o', h1, a2 hf⟩
  · exact ⟨o', h1, a1 hf ▸ Up.refl _⟩
theorem StpN.old {c : Cx} {s s₁ s₂ : Shared} (N : StpN c s s₁ s₂) {b : Addr} {o₀ o : Obj} (h₀ : s.heap.get? b = some o₀) (h : s₁.heap.get? b = some o) : ∃ o', s₂.heap.get? b = some o' /\ (b ∉ c.fr -> o' = o) /\ (b ∈ c.fr -> Up o o') :=
  N.heap b o h fun ⟨z, _⟩ => by rw [h₀] at z; cases z
theorem Up.data {o o' : Obj} (h : Up o o') : o'.data = o.data := by obtain ⟨sl, rfl⟩ := h; rfl
theorem VR.notes {c : Cx} {s s₁ s₂ : Shared} (N : StpN c s s₁ s₂) {m : MV} {v : Value} (r : VR c s₁.heap m v) : VR c s₂.heap m v := VR.map (fun _ e => e) (fun sf ho hd => ⟨sf, N.keep ho sf.2.1 hd⟩) r
theorem Ns.notes {c : Cx} {s s₁ s₂ : Shared} (N : StpN c s s₁ s₂) {a : Addr} {m : Str -> Option Value} (h : s₁.heap.Ns a m) : s₂.heap.Ns a m := by
  obtain ⟨o, es, ep, ho, hd, r⟩ := h
  obtain ⟨o', h1, h2⟩ := N.up ho (fun _ q => by rw [hd] at q; cases q)
  exact ⟨o', es, ep, h1, h2.data.trans hd, r⟩
theorem Ns1.notes {c : Cx} {s s₁ s₂ : Shared} (N : StpN c s s₁ s₂) {a : Addr} {m : Str -> Option Value} (h : s₁.heap.Ns1 a m) : s₂.heap.Ns1 a m := by
  obtain ⟨o, es, ep, ho, hd, r⟩ := h
  obtain ⟨o', h1, h2⟩ := N.up ho (fun _ q => by rw [hd] at q; cases q)
  exact ⟨o', es, ep, h1, h2.data.trans hd, r⟩
theorem Stp.notes {c : Cx} {s s₁ s₂ : Shared} (X : Stp c s s₁) (N : StpN c s s₁ s₂) : Stp c s s₂ := by
  refine ⟨fun b o hb => ?_, N.gens.trans X.gens, N.os.trans X.os⟩
  obtain ⟨o₁, h1, k1⟩ := X.heap b o hb
  obtain ⟨o₂, h2, b1, b2⟩ := N.old hb h1
  refine ⟨o₂, h2, fun e1 e2 => ?_⟩
  obtain ⟨a1, a2⟩ := k1 e1 e2
  exact ⟨fun m => (b1 m).trans (a1 m), fun m => (a2 m).trans (b2 m)⟩
theorem FrI.notes {c : Cx} {s s₁ s₂ : Shared} (F : FrI c s₁.heap) (N : StpN c s s₁ s₂) : FrI c s₂.heap := fun e he => by
  obtain ⟨k, a, o, hf, ho, es, n, hd⟩ := F e he
  obtain ⟨o', h1, h2⟩ := N.up ho (fun _ q => by rw [hd] at q; cases q)
  exact ⟨k, a, o', hf, h1, es, n, h2.data.trans hd⟩
theorem StpN.trans {c : Cx} {s s₁ s₂ s₃ : Shared} (x : StpN c s s₁ s₂) (y : StpN c s s₂ s₃) : StpN c s s₁ s₃ := by
  refine ⟨fun b o h hn => ?_, y.gens.trans x.gens, y.os.trans x.os⟩
  obtain ⟨o', h', a1, a2⟩ := x.heap b o h hn
  have sd : o'.data = o.data := by
    by_cases hf : b ∈ c.fr
    · exact (a2 hf).data
    · rw [a1 hf]
  obtain ⟨o'', h'', b1, b2⟩ := y.heap b o' h' (fun ⟨z, o₂, vs, z1, z2⟩ => hn ⟨z, o, vs, h, by rw [h'] at z1; cases z1; rw [<- sd]; exact z2⟩)
  exact ⟨o'', h'', fun hb => (b1 hb).trans (a1 hb), fun hb => (a2 hb).trans (b2 hb)⟩
noncomputable abbrev Base (c : Cx) (s : Shared) : Prop := Left c.P s.heap /\ ∀ a ∈ c.av, s.heap.get? a ≠ none
theorem Inv.base {c : Cx} {st : St} {s : Shared} (I : Inv c st s) : Base c s := ⟨I.left, I.avs⟩
theorem Inv.notes {c : Cx} {lv : Nat} (ok : c.Ok lv) {st : St} {s s₁ s₂ : Shared} (L₀ : Base c s) (I : Inv c st s₁) (N : StpN c s s₁ s₂) : Inv c st s₂ := by
  refine ⟨⟨fun a ha o ho hl => ?_, ?_, FrI.notes I.frs N, ?_⟩, ?_⟩
  · obtain ⟨o', h1, h2, _⟩ := N.old (L₀.1 a ha o ho hl) (I.left a ha o ho hl)
    rw [h1, h2 (ok.safe_low ha).2.1]
  · have h := I.ob
    unfold ObI at *
    cases hg : c.g with
    | none => rw [hg] at h; cases hq : st.ob with
      | none => trivial
      | some o => rw [hq] at h; exact h
    | some p =>
      rw [hg] at h
      cases hq : st.ob with
      | none => rw [hq] at h; exact h
      | some o =>
        rw [hq] at h
        obtain ⟨h1, m, hn, a, b, d⟩ := h
        obtain ⟨_, _, _, _, _, g1, _⟩ := ok.gx p hg
        exact ⟨N.keep h1 g1 (fun _ q => by cases q), m, Ns1.notes N hn, fun f v hf hv => let ⟨y, p, q⟩ := a f v hf hv; ⟨y, p, q.notes N⟩, b, d⟩
  · intro a ha q
    obtain ⟨o₀, h₀⟩ := Option.ne_none_iff_exists'.mp (L₀.2 a ha)
    obtain ⟨o₁, h₁⟩ := Option.ne_none_iff_exists'.mp (I.avs a ha)
    obtain ⟨o', h1, _⟩ := N.old h₀ h₁
    rw [q] at h1; cases h1
  · obtain ⟨m, hn, hv⟩ := I.ns
    exact ⟨m, Ns.notes N hn, fun v x hx => let ⟨y, p, q⟩ := hv v x hx; ⟨y, p, q.notes N⟩⟩
structure FlyR (c : Cx) (j : Nat) (s s₁ : Shared) (e : Addr) : Prop where
  young : s.heap.get? e = none
  at_ : ∃ oe vs, s₁.heap.get? e = some oe /\ oe.cls = .ref (labC j) /\ oe.data = .fields vs /\ 1 < vs.size ∧
    (vs[1]? = some .none \/ ∃ T oT ts f, vs[1]? = some (.ref T) /\ s.heap.get? T = none /\ T ≠ e /\ s₁.heap.get? T = some oT /\ oT.data = .fields ts /\ ts[3]? = some f /\ (f = .none \/ f = rawInt c.L))
structure FlyH (c : Cx) (j : Nat) (f : Value) (s s₁ : Shared) (e : Addr) : Prop where
  young : s.heap.get? e = none
  at_ : ∃ oe vs T oT ts, s₁.heap.get? e = some oe /\ oe.cls = .ref (labC j) /\ oe.data = .fields vs /\ vs[1]? = some (.ref T) /\ s.heap.get? T = none /\ T ≠ e /\ s₁.heap.get? T = some oT /\ oT.data = .fields ts /\ ts[3]? = some f
theorem lt_of_get {α : Type} {a : Array α} {i : Nat} {x : α} (h : a[i]? = some x) : i < a.size := (Array.getElem?_eq_some_iff.mp h).1
theorem FlyH.fly {c : Cx} {j : Nat} {f : Value} {s s₁ : Shared} {e : Addr} (x : FlyH c j f s s₁ e) (hf : f = .none \/ f = rawInt c.L) : FlyR c j s s₁ e := by
  obtain ⟨y, oe, vs, T, oT, ts, h1, h2, h3, h4, h5, h6, h7, h8, h9⟩ := x
  exact ⟨y, oe, vs, h1, h2, h3, lt_of_get h4, .inr ⟨T, oT, ts, f, h4, h5, h6, h7, h8, h9, hf⟩⟩
structure Cx.Own (c : Cx) : Prop where
  fl : ∃ outer, c.fl = c.env :: outer
  frame : c.env.frame = some c.L
theorem rec_upd {c : Cx} {s s₁ : Shared} {b : Addr} {o : Obj} {vs : Array Value} (h0 : s.heap.get? b = none) (h : s₁.heap.get? b = some o) (hd : o.data = .fields vs) {f : Obj -> Obj} : StpN c s s₁ { s₁ with heap := s₁.heap.update b f } :=
  ⟨fun b' o' hb hn => by
    by_cases q : b' = b
    · subst q; exact absurd ⟨h0, o, vs, h, hd⟩ hn
    · exact ⟨o', (Heap.get?_update_other _ _ (Ne.symm q)).trans hb, fun _ => rfl, fun _ => Up.refl _⟩, rfl, rfl⟩
theorem flight_run {c : Cx} {j : Nat} {f : Value} {s s₁ : Shared} {e : Addr} (F : FlyH c j f s s₁ e) {fr : Option Addr} {A : Around} {E : Value -> Shared -> Prop} {Q : Unit -> Shared -> Prop}
    (q : ∀ s₂, FlyH c j (fr.elim .none fun a => rawInt a) s s₂ e -> StpN c s s₁ s₂ -> Q () s₂) : wpAny c.M A (setFlight (.ref e) fr) Q E s₁ := by
  obtain ⟨y, oe, vs, T, oT, ts, h1, h2, h3, h4, h5, h6, h7, h8, h9⟩ := F
  unfold setFlight
  refine wpAny_bind (wpAny_field h1 h3 h4 ?_)
  rw [if_pos (show (Value.ref T != Value.none) = true from by simp)]
  have g1 := Heap.get?_update_self (Obj.mapFields (·.setIfInBounds 3 (fr.elim Value.none fun a => rawInt a))) h7 (Obj.isFreed_of_fields (Obj.data_mapFields h8 _))
  refine wpAny_setField h7 h8 (lt_of_get h9) (q _ ⟨y, oe, vs, T, _, _, (Heap.get?_update_other _ _ h6).trans h1, h2, h3, h4, h5, h6, g1, Obj.data_mapFields h8 _, by simp [lt_of_get h9]⟩ ?_)
  exact rec_upd h5 h7 h8
theorem entry_run {c : Cx} (own : c.Own) {lv : Nat} (ok : c.Ok lv) {j : Nat} {s s₁ : Shared} {e : Addr} (F : FrI c s₁.heap) (X : Stp c s s₁) {oe : Obj} {vs : Array Value} (y : s.heap.get? e = none) (h1 : s₁.heap.get? e = some oe) (h2 : oe.cls = .ref (labC j)) (h3 : oe.data = .fields vs) (h4 : 1 < vs.size) {head : Value} {hn : Bool}
    {E : Value -> Shared -> Prop} {Q : Unit -> Shared -> Prop} (q : ∀ s₂, FlyH c j (rawInt c.L) s s₂ e -> StpN c s s₁ s₂ -> Q () s₂) :
    wpAny c.M c.A (do let a ← frameOf c.env; let pl ← entryPlaceOf c.L hn; let b ← EntryCells.newEntry head a .none (rawInt c.L) .none pl; setField (.ref e) 1 b) Q E s₁ := by
  obtain ⟨outer, hfl⟩ := own.fl
  have fr : c.A.frames = some (c.env :: outer) := by rw [ok.frames, hfl]
  have ff : s₁.heap.FunFrames (baseOf c s) (c.env :: outer) := by rw [<- hfl]; exact base_frames F
  have nf : ∀ b ∈ c.fr, ∃ o, s₁.heap.get? b = some o /\ ∀ vs, o.data ≠ .fields vs := fun b hb => by
    obtain ⟨x, hx, hf⟩ := List.mem_filterMap.mp hb
    obtain ⟨_, a, o, hf', ho, es, n, hd⟩ := F x hx
    rw [hf] at hf'; cases hf'
    exact ⟨o, ho, fun vs q => by rw [hd] at q; cases q⟩
  have ne : e ∉ c.fr := fun hm => by
    obtain ⟨o, ho, hd⟩ := nf e hm
    rw [h1] at ho; cases ho; exact hd vs h3
  refine wpAny_bind (wpAny_frameOf_fun fr ff own.frame fun h₁ hs₁ => ?_)
  have hs₁ : Heap.SlotsOnly c.fr s₁.heap h₁ := by rw [<- hfl] at hs₁; exact hs₁
  refine wpAny_bind (wpAny_entryPlaceOf fun pl hpl => ?_)
  unfold EntryCells.newEntry newFields
  refine wpAny_bind (wpAny_newObj_type ?_ (hpl.sizeOk5 _ _ _ _ _))
  have he₁ : h₁.get? e = some oe := (hs₁.2.1 e ne).trans h1
  generalize hO : ({ cls := .type "traceback", dict := none, data := .fields ([head, .ref c.L, .none, rawInt c.L, .none] ++ (if pl.isEmpty then List.replicate 6 Value.none else pl)).toArray } : Obj) = oT
  have hoT : oT.data = .fields ([head, .ref c.L, .none, rawInt c.L, .none] ++ (if pl.isEmpty then List.replicate 6 Value.none else pl)).toArray := by rw [<- hO]
  have he₂ := Heap.get?_push_of_some (h := h₁) oT he₁
  have hTe : h₁.objs.size ≠ e := Nat.ne_of_gt (Heap.lt_size he₁)
  have hd₃ := Obj.data_mapFields h3 (·.setIfInBounds 1 (Value.ref h₁.objs.size))
  have he₃ := Heap.get?_update_self (Obj.mapFields (·.setIfInBounds 1 (Value.ref h₁.objs.size))) he₂ (Obj.isFreed_of_fields hd₃)
  have hpT : (h₁.push oT).get? h₁.objs.size = some oT := Heap.get?_push_size _ (Obj.isFreed_of_fields hoT)
  have hT₃ := (Heap.get?_update_other (h₁.push oT) (Obj.mapFields (·.setIfInBounds 1 (Value.ref h₁.objs.size))) (Ne.symm hTe)).trans hpT
  have live : ∀ b o, s₁.heap.get? b = some o -> ∃ o', h₁.get? b = some o' := fun b o hb => by
    obtain ⟨sl, hs⟩ := hs₁.2.2 b o hb
    exact ⟨_, hs⟩
  have yT : s.heap.get? h₁.objs.size = none := by
    cases hq : s.heap.get? h₁.objs.size with
    | none => rfl
    | some o =>
      obtain ⟨o', h', _⟩ := X.heap _ o hq
      obtain ⟨o'', h''⟩ := live _ _ h'
      exact absurd (Heap.lt_size h'') (Nat.lt_irrefl _)
  refine wpAny_setField he₂ h3 h4 (q _ ⟨y, _, _, h₁.objs.size, oT, _, he₃, (Obj.cls_mapFields _ _).trans h2, hd₃, by simp [h4], yT, hTe, hT₃, hoT, ?_⟩ ⟨fun b o hb hnb => ?_, rfl, rfl⟩)
  · first | (simp; done) | (rcases hpl with rfl | ⟨_, _, _, _, _, _, _, rfl⟩ <;> simp)
  · by_cases hbe : b = e
    · subst hbe
      exact absurd ⟨y, oe, vs, h1, h3⟩ hnb
    · obtain ⟨sl, hs⟩ := hs₁.2.2 b o hb
      have hb₃ : ((h₁.push oT).update e (Obj.mapFields (·.setIfInBounds 1 (Value.ref h₁.objs.size)))).get? b = some { o with slots := sl } := by
        rw [Heap.get?_update_other _ _ (Ne.symm hbe)]
        exact Heap.get?_push_of_some _ hs
      refine ⟨_, hb₃, fun hf => ?_, fun _ => ⟨sl, rfl⟩⟩
      have := hs₁.2.1 b hf
      rw [hs, hb] at this
      exact Option.some.inj this
theorem note_run {c : Cx} (own : c.Own) {lv : Nat} (ok : c.Ok lv) {j : Nat} {s s₁ : Shared} {e : Addr} (F : FrI c s₁.heap) (X : Stp c s s₁) (hx : FlyR c j s s₁ e)
    {E : Value -> Shared -> Prop} {Q : Unit -> Shared -> Prop} (q : ∀ s₂, FlyH c j (rawInt c.L) s s₂ e -> StpN c s s₁ s₂ -> Q () s₂) : wpAny c.M c.A (noteFrame (.ref e) c.env) Q E s₁ := by
  obtain ⟨y, oe, vs, h1, h2, h3, h4, hv⟩ := hx
  unfold noteFrame
  simp only [own.frame]
  rcases hv with hv | ⟨T, oT, ts, f, k1, k2, k3, k4, k5, k6, k7⟩
  · refine wpAny_bind (wpAny_field h1 h3 hv ?_)
    rw [if_neg (show ¬ ((Value.none != Value.none) = true) from by simp)]
    exact entry_run own ok F X y h1 h2 h3 h4 q
  · refine wpAny_bind (wpAny_field h1 h3 k1 ?_)
    rw [if_pos (show (Value.ref T != Value.none) = true from by simp)]
    refine wpAny_bind (wpAny_field k4 k5 k6 ?_)
    rcases k7 with rfl | rfl
    · rw [if_neg (show ¬ ((Value.none == rawInt c.L) = true) from by simp [rawInt])]
      have g1 := Heap.get?_update_self (Obj.mapFields (·.setIfInBounds 3 Value.none)) k4 (Obj.isFreed_of_fields (Obj.data_mapFields k5 _))
      refine wpAny_bind (wpAny_setField k4 k5 (lt_of_get k6) ?_)
      have N1 : StpN c s s₁ { s₁ with heap := s₁.heap.update T (Obj.mapFields (·.setIfInBounds 3 Value.none)) } := rec_upd k2 k4 k5
      exact entry_run own ok (F.notes N1) (X.notes N1) y ((Heap.get?_update_other _ _ k3).trans h1) h2 h3 h4 fun s₂ hx N2 => q s₂ hx (N1.trans N2)
    · rw [if_pos (show (rawInt c.L == rawInt c.L) = true from by simp)]
      exact wpAny_pure (q _ ⟨y, oe, vs, T, oT, ts, h1, h2, h3, k1, k2, k3, k4, k5, k6⟩ StpN.refl)
theorem sa_431 (P : Params) : findIn (KF P) (.ref 431) "__setattr__" = some (some (.builtin "object.__setattr__")) := by kernel_rfl
theorem po_431 (P : Params) : plainOver (KF P) 431 = true := by kernel_rfl
theorem tk_431 (P : Params) : ∀ f, f < 8 -> takerIn (KF P) 431 (fldS f) = some none
  | 0, _ => by kernel_rfl
  | 1, _ => by kernel_rfl
  | 2, _ => by kernel_rfl
  | 3, _ => by kernel_rfl
  | 4, _ => by kernel_rfl
  | 5, _ => by kernel_rfl
  | 6, _ => by kernel_rfl
  | 7, _ => by kernel_rfl
  | n + 8, h => absurd h (by lia)
theorem fld_inj : ∀ f, f < 8 -> ∀ g, g < 8 -> fldS f = fldS g -> f = g := by decide +kernel
theorem Ob.putI_lst {o o' : Ob} {i : Int} : ∀ {f : Nat}, o.putI f i = some o' -> f < 8 /\ o'.lst = o.lst.set f (some (.int i))
  | 0, h => nomatch (show Option.none = some o' from h)
  | 1, h => by cases h; exact ⟨by decide, rfl⟩
  | 2, h => by cases h; exact ⟨by decide, rfl⟩
  | 3, h => by cases h; exact ⟨by decide, rfl⟩
  | 4, h => by cases h; exact ⟨by decide, rfl⟩
  | 5, h => by cases h; exact ⟨by decide, rfl⟩
  | 6, h => by cases h; exact ⟨by decide, rfl⟩
  | 7, h => by cases h; exact ⟨by decide, rfl⟩
  | _ + 8, h => nomatch (show Option.none = some o' from h)
theorem Ob.put_lst {o o' : Ob} {f : Nat} {x : MV} (h : o.put f x = some o') : f < 8 /\ ((∃ i, x = .int i) \/ ∃ l, x = .str l) /\ o'.lst = o.lst.set f (some x) := by
  unfold Ob.put at h
  split at h
  · by_cases e : f = 0
    · subst e; cases h; exact ⟨by decide, .inr ⟨_, rfl⟩, rfl⟩
    · rw [if_neg e] at h; cases h
  · exact ⟨(Ob.putI_lst h).1, .inl ⟨_, rfl⟩, (Ob.putI_lst h).2⟩
  · cases h
theorem Ob.put_plain {o o' : Ob} {f : Nat} {x : MV} (h : o.put f x = some o') : f < 8 /\ ((∃ i, x = .int i) \/ ∃ l, x = .str l) /\ o'.get f = some x /\ ∀ g, g ≠ f -> o'.get g = o.get g := by
  obtain ⟨h1, h2, h3⟩ := Ob.put_lst h
  unfold Ob.get
  rw [h3]
  refine ⟨h1, h2, by rw [List.getElem?_set_self h1]; rfl, fun g hg => by rw [List.getElem?_set_ne hg.symm]⟩
theorem VR.plain {c : Cx} {h h' : Heap} {x : MV} {v : Value} (p : (∃ i, x = .int i) \/ ∃ l, x = .str l) (r : VR c h x v) : VR c h' x v := by
  rcases p with ⟨i, rfl⟩ | ⟨l, rfl⟩
  · obtain ⟨t, rfl⟩ := r; exact vInt
  · obtain ⟨t, rfl⟩ := r; exact vStr
theorem avs_stp {c : Cx} {s s' : Shared} (h : ∀ a ∈ c.av, s.heap.get? a ≠ none) (X : Stp c s s') : ∀ a ∈ c.av, s'.heap.get? a ≠ none := fun a ha q => by
  obtain ⟨o, ho⟩ := Option.ne_none_iff_exists'.mp (h a ha)
  obtain ⟨o', h1, _⟩ := X.heap a o ho
  rw [q] at h1; cases h1
theorem set_ns {c : Cx} {s : Shared} {x dx : Addr} {od : Obj} {name : Str} {v : Value} {m : Str -> Option Value} (X : (KF c.P).In s.heap) (I : InstAt s.heap x (instO dx) 431 (some od))
    (ht : takerIn (KF c.P) 431 name = some none) (hn : s.heap.Ns1 dx m) {ns : List Str} (hw : Within (fun y => if y = name then some v else m y) ns) (hz : ns.length <= 1000) {E : Value -> Shared -> Prop} {Q : Unit -> Shared -> Prop}
    (q : ∀ h' t, h'.Ns1 dx (fun y => if y = name then some v else m y) -> Heap.SameBut dx s.heap h' -> Q () { s with heap := h', toks := t }) : wpAny c.M c.A (setAttr (.ref x) name v) Q E s := by
  refine set_plain X I (sa_431 _) (osa_open (s := { s with toks := s.toks + 1 }) X I (po_431 _) ht fun b => ?_)
  have hx' : ({ s with toks := s.toks + 1 } : Shared).heap.get? x = some (instO dx) := I.at_
  refine wpAny_bind (wpAny_pure (wpAny_bind (wpAny_bind (wpAny_loadPart hx' (wpAny_bind (looks_clsIn X (cls_431 _) _ _ _ _ (fun _ _ e => e) ?_))))))
  rw [hasDict_431]
  refine wpAny_pure (a := some dx) (wpAny_bind (wpAny_pure (wpAny_bind ?_)))
  have key : ∀ {Q : Unit -> Shared -> Prop} {E : Value -> Shared -> Prop}, (∀ h', h'.Ns1 dx (fun y => if y = name then some v else m y) -> Heap.SameBut dx s.heap h' -> Q () { s with heap := h', toks := s.toks + 1 + 1 }) -> wpAny c.M c.A.in1 (nsSet dx name v) Q E { s with toks := s.toks + 1 } :=
    fun {Q E} hq Γ p _ => Sem.wp_nsSet1 _ Γ _ p { s with toks := s.toks + 1 } hn name v _ hq
  refine key fun h' h1 h2 => ?_
  obtain ⟨o', es, ep, ho', hd', hs'⟩ := h1.count hw
  refine wpAny_bind (wpAny_lookBehind ho' (by rw [hd']; exact pastItsLine_dict (by rw [sizeLine_eq]; lia)) ?_)
  exact wpAny_pure (q h' _ h1 h2)
theorem store_fld {c : Cx} {lv : Nat} (ok : c.Ok lv) {st : St} {s : Shared} (I : Inv c st s) {o o' : Ob} (ho : st.ob = some o) {f : Nat} {x : MV} (hp : o.put f x = some o') {p : Addr × Addr} (hg : c.g = some p) {v : Value} (hv : VR c s.heap x v) {E : Value -> Shared -> Prop} {Q : Unit -> Shared -> Prop}
    (q : ∀ s', Inv c { st with ob := some o' } s' -> Stp c s s' -> Q () s') : wpAny c.M c.A (setAttr (.ref p.1) (fldS f) v) Q E s := by
  obtain ⟨p', hp', R⟩ := I.inst ho
  rw [hg] at hp'; cases hp'
  obtain ⟨od, m, IA, hl, hn, a, b, d⟩ := R.at
  obtain ⟨hf, pl, g1, g2⟩ := Ob.put_plain hp
  obtain ⟨_, _, p12, L1, L2, f1, f2⟩ := ok.gx p hg
  have hwi : Within (fun y => if y = fldS f then some v else m y) ((List.range 8).map fldS) := fun y hy => by
    by_cases e : y = fldS f
    · exact List.mem_map.mpr ⟨f, List.mem_range.mpr hf, e.symm⟩
    · simp only [if_neg e] at hy
      obtain ⟨w, hw⟩ := Option.ne_none_iff_exists'.mp hy
      obtain ⟨g, hg, rfl⟩ := d y w hw
      exact List.mem_map.mpr ⟨g, List.mem_range.mpr hg, rfl⟩
  refine set_ns I.left.frag IA (tk_431 _ f hf) hn hwi (by simp) fun h' t h1 h2 => ?_
  have X : Stp c s { s with heap := h', toks := t } := by
    refine ⟨fun b ob hb => ?_, rfl, rfl⟩
    by_cases e : b = p.2
    · subst e
      obtain ⟨o2, _, _, ho2, _⟩ := h1
      exact ⟨o2, ho2, fun _ n => absurd rfl (n p hg)⟩
    · exact ⟨ob, (h2.2 b e).trans hb, fun _ _ => ⟨fun _ => rfl, fun _ => Up.refl _⟩⟩
  have oth : ∀ b o, b ≠ p.2 -> s.heap.get? b = some o -> h'.get? b = some o := fun b o e hb => (h2.2 b e).trans hb
  refine q _ ⟨⟨I.left.stp ok X, ?_, fun e he => ?_, avs_stp I.avs X⟩, ?_⟩ X
  · unfold ObI
    rw [hg]
    refine ⟨oth _ _ p12 R.inst, _, h1, fun g w hg6 hw => ?_, fun g hg67 => ?_, fun n w hw => ?_⟩
    · by_cases e : g = f
      · subst e
        rw [g1] at hw; cases hw
        exact ⟨v, by rw [if_pos rfl], hv.plain pl⟩
      · rw [g2 g e] at hw
        obtain ⟨y, hy, hr⟩ := a g w hg6 hw
        exact ⟨y, by rw [if_neg (fun q => e (fld_inj g (by lia) f hf q))]; exact hy, hr.stp X⟩
    · by_cases e : g = f
      · subst e
        obtain ⟨i, rfl⟩ : ∃ i, x = .int i := by
          rcases hg67 with rfl | rfl
          · exact ⟨_, (Option.some.inj g1).symm⟩
          · exact ⟨_, (Option.some.inj g1).symm⟩
        obtain ⟨t, rfl⟩ := hv
        exact .inr ⟨i, t, g1, by rw [if_pos rfl]⟩
      · rw [g2 g e, if_neg (fun q => e (fld_inj g (by lia) f hf q))]
        exact b g hg67
    · by_cases e : n = fldS f
      · exact ⟨f, hf, e⟩
      · rw [if_neg e] at hw; exact d n w hw
  · obtain ⟨k, a, o2, hf', ho2, r⟩ := I.frs e he
    exact ⟨k, a, o2, hf', oth _ _ (fun q => f2 (q ▸ List.mem_filterMap.mpr ⟨e, he, hf'⟩)) ho2, r⟩
  · obtain ⟨ml, ⟨o2, es, ep, ho2, r⟩, hb⟩ := I.ns
    exact ⟨ml, ⟨o2, es, ep, oth _ _ L2 ho2, r⟩, fun w y hw => let ⟨z, h3, h4⟩ := hb w y hw; ⟨z, h3, h4.stp X⟩⟩
theorem store_loc {c : Cx} {lv : Nat} (ok : c.Ok lv) {st : St} {s : Shared} (I : Inv c st s) {n : Nat} {x : MV} {v : Value} (hv : VR c s.heap x v) (h1 : c.env.scope.names.lookup (nmS n) = some .local) (inj : ∀ k y, st.loc.lookup k = some y -> nmS k = nmS n -> k = n) {E : Value -> Shared -> Prop} {Q : Unit -> Shared -> Prop}
    (q : ∀ s', Inv c { st with loc := upd n x st.loc } s' -> Stp c s s' -> Q () s') : wpAny c.M c.A (storeName c.env (nmS n) v) Q E s := by
  obtain ⟨m, hn, hb⟩ := I.ns
  have hlive : s.heap.get? c.L ≠ none := by obtain ⟨o, _, _, ho, _⟩ := hn; rw [ho]; intro h; cases h
  refine wpAny_storeName_local h1 (by rw [ok.loc]; exact hn) (fun h' k1 k2 => ?_) (by rw [ok.kind]; rfl)
  rw [ok.loc] at k1 k2
  have X : Stp c s { s with heap := h', toks := s.toks + 1 } := by
    refine StpX.sameBut k2 ?_ rfl
    obtain ⟨o, _, _, ho, _⟩ := k1; rw [ho]; rfl
  have oth : ∀ b o, b ≠ c.L -> s.heap.get? b = some o -> h'.get? b = some o := fun b o e hb => (k2.2 b e).trans hb
  refine q _ ⟨⟨I.left.stp ok X, ?_, fun e he => ?_, avs_stp I.avs X⟩, _, k1, fun w y hw => ?_⟩ X
  · have h := I.ob
    unfold ObI at *
    cases hg : c.g with
    | none => rw [hg] at h; cases hq : st.ob with
      | none => trivial
      | some o => rw [hq] at h; exact h
    | some p =>
      rw [hg] at h
      cases hq : st.ob with
      | none => rw [hq] at h; exact h
      | some o =>
        rw [hq] at h
        obtain ⟨g1, ml, gn, a, b, d⟩ := h
        obtain ⟨_, _, _, e1, e2, _, _⟩ := ok.gx p hg
        exact ⟨oth _ _ e1.symm g1, ml, gn.sameBut k2 e2.symm, fun f v hf hv => let ⟨y, p, q⟩ := a f v hf hv; ⟨y, p, q.stp X⟩, b, d⟩
  · obtain ⟨k, a, o, hf, ho, es, n, hd⟩ := I.frs e he
    by_cases hq : a = c.L
    · subst hq
      obtain ⟨o2, es2, ep2, ho2, hd2, _⟩ := k1
      exact ⟨k, _, o2, hf, ho2, es2, ep2, hd2⟩
    · exact ⟨k, a, o, hf, oth _ _ hq ho, es, n, hd⟩
  · have look : ∀ (l : List (Nat × MV)) w, (upd n x l).lookup w = if w = n then some x else l.lookup w := by
      intro l w
      induction l with
      | nil =>
        show (match w == n with | true => some x | false => none) = _
        by_cases hq : w = n
        · subst hq; simp
        · simp [hq, beq_eq_false_iff_ne.mpr hq]
      | cons p r ih =>
        obtain ⟨a, b⟩ := p
        unfold upd
        by_cases ha : a = n
        · subst ha
          rw [if_pos rfl, List.lookup_cons, List.lookup_cons]
          by_cases hq : w = a
          · subst hq; simp
          · simp [hq, beq_eq_false_iff_ne.mpr hq]
        · rw [if_neg ha, List.lookup_cons, List.lookup_cons, ih]
          by_cases hq : w = a
          · subst hq; simp [ha]
          · simp [beq_eq_false_iff_ne.mpr hq]
    have hw : (upd n x st.loc).lookup w = some y := hw
    rw [look] at hw
    by_cases hq : w = n
    · subst hq
      rw [if_pos rfl] at hw; cases hw
      exact ⟨v, by rw [if_pos rfl], hv.stp X⟩
    · rw [if_neg hq] at hw
      obtain ⟨z, h3, h4⟩ := hb w y hw
      exact ⟨z, by rw [if_neg (fun e => hq (inj w y hw e))]; exact h3, h4.stp X⟩
section
variable {sc : Scope} {x : Stmt}
theorem rs_pass (h : repS sc .pass x = true) : ∃ p, x = .Pass p := by
  refine osPass_inv h fun p h => ?_
  exact ⟨_, rfl⟩
theorem rs_brk (h : repS sc .brk x = true) : ∃ p, x = .Break p := by
  refine osBreak_inv h fun p h => ?_
  exact ⟨_, rfl⟩
theorem rs_cont (h : repS sc .cont x = true) : ∃ p, x = .Continue p := by
  refine osContinue_inv h fun p h => ?_
  exact ⟨_, rfl⟩
theorem rs_ex {e : E} (h : repS sc (.ex e) x = true) : ∃ y p, x = .Expr y p /\ rep sc e y = true := by
  refine osExpr_inv h fun y p h => ?_
  exact ⟨_, _, rfl, h⟩
theorem rs_assert {e : E} (h : repS sc (.assert e) x = true) : ∃ y p, x = .Assert y none p /\ rep sc e y = true := by
  refine osAssert_inv h fun y m p h => ?_
  refine oN_inv h fun h => ?_
  exact ⟨_, _, rfl, h⟩
theorem rs_ret {e : E} (h : repS sc (.ret e) x = true) : ∃ y p, x = .Return (some y) p /\ rep sc e y = true := by
  refine osReturn_inv h fun m p h => ?_
  refine oJ_inv h fun y h => ?_
  exact ⟨_, _, rfl, h⟩
theorem rs_asg {v : Nat} {e : E} (h : repS sc (.asg v e) x = true) : ∃ t y p, x = .Assign [t] y p /\ locName sc v t = true /\ rep sc e y = true := by
  refine osAssign_inv h fun ts y p h => ?_
  refine on1_inv h fun t h => ?_
  refine an2c h fun h1 h => ?_
  exact ⟨_, _, _, rfl, h1, h⟩
theorem rs_asgF {f : Nat} {e : E} (h : repS sc (.asgF f e) x = true) : ∃ o p' y p, x = .Assign [.Attribute o (fldS f) p'] y p /\ locName sc 0 o = true /\ rep sc e y = true := by
  refine osAssign_inv h fun ts y p h => ?_
  refine on1_inv h fun t h => ?_
  refine onAttribute_inv h fun o a pp h => ?_
  refine an2c h fun h1 h => ?_
  refine an2c h fun h2 h => ?_
  have hz := h
  cases eq_of_beq h1
  exact ⟨_, _, _, _, rfl, h2, hz⟩
theorem rs_aug {v : Nat} {op : Bop} {e : E} (h : repS sc (.aug v op e) x = true) : ∃ p' o y p, x = .AugAssign (.Name (nmS v) p') o y p /\ isLoc sc (nmS v) = true /\ bopIs op o = true /\ rep sc e y = true := by
  refine osAugAssign_inv h fun t o y p h => ?_
  refine onName_inv h fun n pp h => ?_
  refine an2c h fun h1 h => ?_
  refine an2c h fun h2 h => ?_
  refine an2c h fun h3 h => ?_
  have hz := h
  cases eq_of_beq h1
  exact ⟨_, _, _, _, rfl, h2, h3, hz⟩
theorem rs_augF {f : Nat} {op : Bop} {e : E} (h : repS sc (.augF f op e) x = true) : ∃ o p' q y p, x = .AugAssign (.Attribute o (fldS f) p') q y p /\ locName sc 0 o = true /\ bopIs op q = true /\ rep sc e y = true := by
  refine osAugAssign_inv h fun t q y p h => ?_
  refine onAttribute_inv h fun o a pp h => ?_
  refine an2c h fun h1 h => ?_
  refine an2c h fun h2 h => ?_
  refine an2c h fun h3 h => ?_
  have hz := h
  cases eq_of_beq h1
  exact ⟨_, _, _, _, _, rfl, h2, h3, hz⟩
theorem rs_ite {t : E} {a b : List S} (h : repS sc (.ite t a b) x = true) : ∃ y l r p, x = .If y l r p /\ rep sc t y = true /\ repL sc a l = true /\ repL sc b r = true := by
  refine osIf_inv h fun y l r p h => ?_
  refine an2c h fun h1 h => ?_
  refine an2c h fun h2 h => ?_
  exact ⟨_, _, _, _, rfl, h1, h2, h⟩
theorem rs_wh {t : E} {a : List S} (h : repS sc (.wh t a) x = true) : ∃ y l p, x = .While y l [] p /\ rep sc t y = true /\ repL sc a l = true := by
  refine osWhile_inv h fun y l r p h => ?_
  refine on0_inv h fun h => ?_
  refine an2c h fun h1 h => ?_
  exact ⟨_, _, _, rfl, h1, h⟩
theorem rs_raise {j : Nat} (h : repS sc (.raise j) x = true) : ∃ n p p', x = .Raise (some (.Call n [] [] p)) none p' /\ glbName sc (labS j) n = true /\ j < 3 := by
  refine osRaise_inv h fun y z p h => ?_
  refine oJ_inv h fun y1 h => ?_
  refine onCall_inv h fun n as ks q h => ?_
  refine on0_inv h fun h => ?_
  refine on0_inv h fun h => ?_
  refine oN_inv h fun h => ?_
  refine an2c h fun h1 h => ?_
  exact ⟨_, _, _, rfl, h1, Nat.blt_eq.mp h⟩
theorem rs_nil {l : List Stmt} (h : repL sc [] l = true) : l = [] := by
  cases l <;> first | rfl | exact Bool.noConfusion h
theorem rs_cons {a : S} {r : List S} {l : List Stmt} (h : repL sc (a :: r) l = true) : ∃ y q, l = y :: q /\ repS sc a y = true /\ repL sc r q = true := by
  cases l with
  | nil => exact Bool.noConfusion h
  | cons y q =>
    have h : (repS sc a y && repL sc r q) = true := h
    simp only [Bool.and_eq_true] at h
    exact ⟨_, _, rfl, h.1, h.2⟩
end
theorem rs_try {sc : Scope} {x : Stmt} {a : List S} {j : Nat} (h : repS sc (.tryE a j) x = true) : ∃ l n pp hp p, x = .Try l [.ExceptHandler (some n) none [.Pass pp] hp] [] [] p /\ repL sc a l = true /\ glbName sc (labS j) n = true /\ j < 3 := by
  refine osTry_inv h fun l hs oe fb p h => ?_
  refine on1_inv h fun hd h => ?_
  refine onH_inv h fun n bd hp h => ?_
  refine on1_inv h fun b0 h => ?_
  refine osPass_inv h fun pp h => ?_
  refine on0_inv h fun h => ?_
  refine on0_inv h fun h => ?_
  refine an2c h fun h1 h => ?_
  refine an2c h fun h2 h => ?_
  exact ⟨_, _, _, _, _, rfl, h1, h2, Nat.blt_eq.mp h⟩
theorem nm_inj : ∀ k n, nmS k = nmS n -> k = n := by
  have len : nmL.length = 56 := by decide
  have h1 : ∀ k, k < 56 -> ∀ n, n < 56 -> nmS k = nmS n -> k = n := by decide +kernel
  have h2 : ∀ k, k < 56 -> (nmL[k]?).map (·.headD 0 == 0) = some false := by decide +kernel
  have big : ∀ k, ¬ k < 56 -> nmS k = sLit [0, k] := fun k h => by
    unfold nmS tabS
    rw [List.getElem?_eq_none (by lia)]; rfl
  have mix : ∀ k n, k < 56 -> ¬ n < 56 -> nmS k ≠ nmS n := fun k n hk hn e => by
    rw [big n hn] at e
    have e2 := h2 k hk
    unfold nmS tabS at e
    cases q : nmL[k]? with
    | none => rw [q] at e2; cases e2
    | some l =>
      rw [q] at e e2
      have e : l = [0, n] := sLit_inj (show sLit l = sLit [0, n] from e)
      subst e
      cases e2
  intro k n e
  by_cases hk : k < 56 <;> by_cases hn : n < 56
  · exact h1 k hk n hn e
  · exact absurd e (mix k n hk hn)
  · exact absurd e.symm (mix n k hn hk)
  · rw [big k hk, big n hn] at e
    have := sLit_inj e
    simpa using this
theorem swap_no {sc : Scope} {e : E} {x : Expr} {t : Option Expr} {l : Nat} {env : Env} (h : rep sc e x = true) (n : e.noComp = true) : swapsWith x t l env = pure false := by
  have k := rep_ok h
  have k8 : x.ctorIdx ≠ 8 := fun q => Bool.noConfusion (n.symm.trans (kd_comp ((congrArg (Nat.beq · 8) ((rep_kd h).symm.trans q)).trans rfl)))
  clear h n
  cases x <;> first | rfl | exact Bool.noConfusion k | exact absurd rfl k8
noncomputable def flowOk (c : Cx) (h : Heap) : Fl -> Flow -> Prop
  | .next, .next => True
  | .brk, .brk => True
  | .cont, .cont => True
  | .ret v, .ret y => VR c h v y
  | _, _ => False
noncomputable def PostF (c : Cx) (s : Shared) (k : Fl -> St -> Prop) : Flow -> Shared -> Prop := fun f s' => ∃ fl st', flowOk c s'.heap fl f /\ Inv c st' s' /\ Stp c s s' /\ k fl st'
noncomputable def PostX (c : Cx) (s : Shared) (k : Fl -> St -> Prop) : Value -> Shared -> Prop := fun v s' => ∃ e j st', v = .ref e /\ j < 3 /\ FlyR c j s s' e /\ Inv c st' s' /\ Stp c s s' /\ k (.exc j) st'
theorem PostF.later {c : Cx} {s s₁ s' : Shared} {k : Fl -> St -> Prop} {f : Flow} (x : Stp c s s₁) (h : PostF c s₁ k f s') : PostF c s k f s' :=
  by obtain ⟨a, st, p, q, r, t⟩ := h; exact ⟨a, st, p, q, x.trans r, t⟩
theorem young_back {c : Cx} {s s₁ : Shared} (x : Stp c s s₁) {b : Addr} (h : s₁.heap.get? b = none) : s.heap.get? b = none := by
  cases q : s.heap.get? b with
  | none => rfl
  | some o => obtain ⟨o', h', _⟩ := x.heap b o q; rw [h] at h'; cases h'
theorem FlyR.later {c : Cx} {j : Nat} {s s₁ s' : Shared} {e : Addr} (x : Stp c s s₁) (h : FlyR c j s₁ s' e) : FlyR c j s s' e := by
  obtain ⟨y, oe, vs, h1, h2, h3, h4, hv⟩ := h
  refine ⟨young_back x y, oe, vs, h1, h2, h3, h4, ?_⟩
  rcases hv with hv | ⟨T, oT, ts, f, k1, k2, r⟩
  · exact .inl hv
  · exact .inr ⟨T, oT, ts, f, k1, young_back x k2, r⟩
theorem PostX.later {c : Cx} {s s₁ s' : Shared} {k : Fl -> St -> Prop} {v : Value} (x : Stp c s s₁) (h : PostX c s₁ k v s') : PostX c s k v s' :=
  by obtain ⟨e, j, st, p, q, r, t, u, w⟩ := h; exact ⟨e, j, st, p, q, r.later x, t, x.trans u, w⟩
noncomputable def SndS (G : Stat) (O : Orc) (n : Nat) (S : S) : Prop := ∀ c, c.Ok O.lv -> c.Own -> ∀ x, repS c.env.scope S x = true -> ∀ st s (k : Fl -> St -> Prop), Inv c st s -> VS G O n S st k -> wpAny c.M c.A (exec x c.env) (PostF c s k) (PostX c s k) s
noncomputable def SndL (G : Stat) (O : Orc) (n : Nat) (l : List S) : Prop := ∀ c, c.Ok O.lv -> c.Own -> ∀ x, repL c.env.scope l x = true -> ∀ st s (k : Fl -> St -> Prop), Inv c st s -> VL G O n l st k -> wpAny c.M c.A (execs x c.env) (PostF c s k) (PostX c s k) s
section
variable {G : Stat} {O : Orc}
theorem SndE.thenX {e : E} (h : SndE G O e) {c : Cx} (ok : c.Ok O.lv) {x : Expr} (r : rep c.env.scope e x = true) {st : St} {s : Shared} {k : MV -> St -> Prop} (I : Inv c st s) (v : VE G O e st k)
    {Q : Value -> Shared -> Prop} {X : Value -> Shared -> Prop} (next : ∀ y s₁ a st₁, VR c s₁.heap a y -> Inv c st₁ s₁ -> Stp c s s₁ -> k a st₁ -> Q y s₁) : wpAny c.M c.A (eval x c.env) Q X s :=
  wpAny_mono (h c ok x r st s k I v) (fun y s₁ ⟨a, st₁, h1, h2, h3, h4⟩ => next y s₁ a st₁ h1 h2 h3 h4) fun _ _ z => z.elim
theorem SndT.thenX {e : E} (h : SndT G O e) {c : Cx} (ok : c.Ok O.lv) {x : Expr} (r : rep c.env.scope e x = true) {st : St} {s : Shared} {k : Bool -> St -> Prop} (I : Inv c st s) (v : VE G O e st (fun y st => boolM y fun t => k t st))
    {Q : Bool -> Shared -> Prop} {X : Value -> Shared -> Prop} (next : ∀ b s₁ st₁, Inv c st₁ s₁ -> Stp c s s₁ -> k b st₁ -> Q b s₁) : wpAny c.M c.A (isTrue x c.env (eval x c.env)) Q X s :=
  wpAny_mono (h c ok x r st s k I v _ rfl) (fun b s₁ ⟨st₁, h1, h2, h3⟩ => next b s₁ st₁ h1 h2 h3) fun _ _ z => z.elim
theorem loc_store {c : Cx} (ok : c.Ok O.lv) {st : St} {s : Shared} (I : Inv c st s) {n : Nat} {x : MV} {v : Value} (hv : VR c s.heap x v) (h1 : isLoc c.env.scope (nmS n) = true) {E : Value -> Shared -> Prop} {Q : Unit -> Shared -> Prop}
    (q : ∀ s', Inv c { st with loc := upd n x st.loc } s' -> Stp c s s' -> Q () s') : wpAny c.M c.A (storeName c.env (nmS n) v) Q E s :=
  store_loc ok I hv (isLoc_spec h1).1 (fun k y _ e => nm_inj k n e) q
theorem ss_pass {n} : SndS G O (n + 1) .pass := by
  intro c ok own x h st s k I v
  obtain ⟨p, rfl⟩ := rs_pass h
  exact wpAny_Pass ⟨.next, st, trivial, I, StpX.refl _, v⟩
theorem ss_brk {n} : SndS G O (n + 1) .brk := by
  intro c ok own x h st s k I v
  obtain ⟨p, rfl⟩ := rs_brk h
  exact wpAny_Break ⟨.brk, st, trivial, I, StpX.refl _, v⟩
theorem ss_cont {n} : SndS G O (n + 1) .cont := by
  intro c ok own x h st s k I v
  obtain ⟨p, rfl⟩ := rs_cont h
  exact wpAny_Continue ⟨.cont, st, trivial, I, StpX.refl _, v⟩
theorem ss_ex {n e} (he : SndE G O e) : SndS G O (n + 1) (.ex e) := by
  intro c ok own x h st s k I v
  obtain ⟨y, p, rfl, h1⟩ := rs_ex h
  obtain ⟨hn, v⟩ := v
  exact wpAny_Expr_any (he.thenX ok h1 I v fun y s₁ a st₁ hv I₁ S₁ v₁ => ⟨.next, st₁, trivial, I₁, S₁, v₁⟩) (by unfold interactive; rw [ok.kind]; rfl) (swap_no h1 hn)
theorem ss_assert {n e} (he : SndT G O e) : SndS G O (n + 1) (.assert e) := by
  intro c ok own x h st s k I v
  obtain ⟨y, p, rfl, h1⟩ := rs_assert h
  refine wpAny_Assert_holds (he.thenX (k := fun b st => b = true /\ k .next st) ok h1 I v fun b s₁ st₁ I₁ S₁ v₁ => ⟨v₁.1, .next, st₁, trivial, I₁, S₁, v₁.2⟩)
theorem ss_ret {n e} (he : SndE G O e) : SndS G O (n + 1) (.ret e) := by
  intro c ok own x h st s k I v
  obtain ⟨y, p, rfl, h1⟩ := rs_ret h
  exact wpAny_Return_some (he.thenX ok h1 I v fun y s₁ a st₁ hv I₁ S₁ v₁ => ⟨.ret a, st₁, hv, I₁, S₁, v₁⟩)
theorem ss_asg {n w e} (he : SndE G O e) : SndS G O (n + 1) (.asg w e) := by
  intro c ok own x h st s k I v
  obtain ⟨t, y, p, rfl, h1, h2⟩ := rs_asg h
  obtain ⟨hn, v⟩ := v
  obtain ⟨pos, rfl, h3, _⟩ := locName_spec h1
  have hl : isLoc c.env.scope (nmS w) = true := by
    have h1 : (nmS w == nmS w && isLoc c.env.scope (nmS w)) = true := h1
    exact (Bool.and_eq_true_iff.mp h1).2
  exact wpAny_Assign_Name (he.thenX ok h2 I v fun y s₁ a st₁ hv I₁ S₁ v₁ => loc_store ok I₁ hv hl fun s₂ I₂ S₂ => ⟨.next, _, trivial, I₂, S₁.trans S₂, v₁⟩) (swap_no h2 hn)
theorem ss_asgF {n f e} (he : SndE G O e) : SndS G O (n + 1) (.asgF f e) := by
  intro c ok own x h st s k I v
  obtain ⟨o, p', y, p, rfl, h1, h2⟩ := rs_asgF h
  obtain ⟨hn, v⟩ := v
  refine plainObj_wpAny_Assign_Attribute (he.thenX ok h2 I v fun y s₁ a st₁ hv I₁ S₁ v₁ => ?_) (swap_no h2 hn)
  obtain ⟨h0, ob, ob', ho, hp, hk⟩ := v₁
  obtain ⟨p, hg, R⟩ := I₁.inst ho
  refine ld_loc ok h1 I₁ h0 fun z hz => ?_
  rw [self_ref hg hz]
  exact store_fld ok I₁ ho hp hg hv fun s₂ I₂ S₂ => ⟨.next, _, trivial, I₂, S₁.trans S₂, hk⟩
theorem ss_aug {n w op e} (he : SndE G O e) : SndS G O (n + 1) (.aug w op e) := by
  intro c ok own x h st s k I v
  obtain ⟨p', o, y, p, rfl, h1, h2, h3⟩ := rs_aug h
  obtain ⟨a, ha, v⟩ := v
  obtain ⟨m, hm, hb⟩ := I.ns
  obtain ⟨z, hz, hv⟩ := hb w a ha
  refine wpAny_AugAssign_Name (wpAny_loadName_local ok.kind (isLoc_spec h1).1 (by rw [ok.loc]; exact hm) hz ?_)
  refine he.thenX ok h3 I v fun y s₁ b st₁ hw I₁ S₁ v₁ => ?_
  exact ibin_run h2 (hv.stp S₁) hw v₁ fun r v s₂ e hr hk => loc_store ok (I₁.ext e) hr h1 fun s₃ I₃ S₃ => ⟨.next, _, trivial, I₃, (S₁.trans e.stp).trans S₃, hk⟩
theorem ss_augF {n f op e} (he : SndE G O e) : SndS G O (n + 1) (.augF f op e) := by
  intro c ok own x h st s k I v
  obtain ⟨o, p', q, y, p, rfl, h1, h2, h3⟩ := rs_augF h
  obtain ⟨h0, ob, a, ho, ha, v⟩ := v
  obtain ⟨p, hg, R⟩ := I.inst ho
  refine wpAny_AugAssign_AttributeAny (ld_loc ok h1 I h0 fun z hz => ?_)
  rw [self_ref hg hz]
  refine fld_run I.toInv0 ho ha hg fun old s₁ e₁ hold => ?_
  refine he.thenX ok h3 (I.ext e₁) v fun y s₂ b st₂ hw I₂ S₂ v₂ => ?_
  refine ibin_run h2 (hold.stp S₂) hw v₂ fun r v s₃ e hr hk => ?_
  obtain ⟨_, ob1, ob', ho1, hp, hk⟩ := hk
  exact store_fld ok (I₂.ext e) ho1 hp hg hr fun s₄ I₄ S₄ => ⟨.next, _, trivial, I₄, ((e₁.stp.trans S₂).trans e.stp).trans S₄, hk⟩
theorem sl_nil {n} : SndL G O (n + 1) [] := by
  intro c ok own x h st s k I v
  have := rs_nil h; subst this
  exact wpAny_execs_nil ⟨.next, st, trivial, I, StpX.refl _, v⟩
theorem sl_cons {n a r} (ha : SndS G O n a) (hr : SndL G O n r) : SndL G O (n + 1) (a :: r) := by
  intro c ok own x h st s k I v
  obtain ⟨y, q, rfl, h1, h2⟩ := rs_cons h
  refine wpAny_execs_cons (wpAny_mono (ha c ok own y h1 st s _ I v) (fun f s₁ ⟨fl, st₁, hf, I₁, S₁, v₁⟩ => ?_) fun e s₁ ⟨a, j, st₁, p, q, r, t, u, w⟩ => ⟨a, j, st₁, p, q, r, t, u, w⟩)
  cases fl <;> cases f <;> first
    | exact hf.elim
    | exact wpAny_mono (hr c ok own q h2 st₁ s₁ k I₁ v₁) (fun f s₂ h => PostF.later S₁ h) fun e s₂ h => PostX.later S₁ h
    | exact ⟨_, st₁, hf, I₁, S₁, v₁⟩
theorem ss_ite {n t a b} (ht : SndT G O t) (ha : SndL G O n a) (hb : SndL G O n b) : SndS G O (n + 1) (.ite t a b) := by
  intro c ok own x h st s k I v
  obtain ⟨y, l, r, p, rfl, h1, h2, h3⟩ := rs_ite h
  refine wpAny_If (ht.thenX (k := fun u st => pick u (VL G O n a st k) (VL G O n b st k)) ok h1 I v fun u s₁ st₁ I₁ S₁ v₁ => ?_)
  cases u with
  | true => exact wpAny_mono (ha c ok own l h2 st₁ s₁ k I₁ (pick_t v₁)) (fun f s₂ h => PostF.later S₁ h) fun e s₂ h => PostX.later S₁ h
  | false => exact wpAny_mono (hb c ok own r h3 st₁ s₁ k I₁ (pick_f v₁)) (fun f s₂ h => PostF.later S₁ h) fun e s₂ h => PostX.later S₁ h
end
section
variable {G : Stat} {O : Orc}
theorem ss_raise {n j} : SndS G O (n + 1) (.raise j) := by
  intro c ok own x h st s k I v
  obtain ⟨f, p, p', rfl, h1, h2⟩ := rs_raise h
  obtain ⟨np, rfl, h3, h4⟩ := glbName_spec h1
  obtain ⟨nm, q, k0, k2, k3, mN, A⟩ := lab_at I.left h2
  refine wpAny_Raise_call_sub PySem.F.excBase_Exception (C := labC j) (N := labN j) (mN := mN) ok.hand rfl A.ni (ld_glb ok h1 I.left (lab_glb _ h2) ⟨rfl, evalArgs_empty ⟨rfl, Nat.zero_le _, A.cls, A.ns, fun h' e hm => ?_⟩⟩)
  obtain ⟨t, ht, _, _⟩ := hm.there
  have ex : Ext s { s with heap := h' } := ⟨hm.keeps, rfl, rfl⟩
  exact ⟨e, j, st, rfl, h2, ⟨hm.new, _, _, ht, rfl, rfl, show 1 < 6 by decide, .inl rfl⟩, I.ext ex, ex.stp, v⟩
theorem flyH_ne {c : Cx} {j : Nat} {f : Value} {s s₁ : Shared} {e : Addr} (F : FlyH c j f s s₁ e) {A : Around} {E : Value -> Shared -> Prop} {Q : Value -> Shared -> Prop} (q : ∀ T, Q (.ref T) s₁) : wpAny c.M A (field (.ref e) 1) Q E s₁ := by
  obtain ⟨y, oe, vs, T, oT, ts, h1, h2, h3, h4, r⟩ := F
  exact wpAny_field h1 h3 h4 (q T)
theorem noted_on {c : Cx} (ok : c.Ok O.lv) (own : c.Own) {s s₁ : Shared} {k : Fl -> St -> Prop} {v : Value} (L₀ : Base c s) (h : PostX c s k v s₁) : notedBy c.M c.A c.env (cameBackBy c.M c.A c.env (PostX c s k)) v s₁ := by
  obtain ⟨e, j, st, rfl, hj, hF, I, X, hk⟩ := h
  refine note_run own ok I.frs X hF fun s₂ H N => ?_
  unfold cameBackBy
  refine wpAny_bind (flyH_ne H fun T => ?_)
  rw [if_neg (show ¬ ((Value.ref T == Value.none) = true) from by simp)]
  refine flight_run H fun s₃ H3 N3 => ?_
  rw [own.frame] at H3
  have N13 := N.trans N3
  exact ⟨e, j, st, rfl, hj, H3.fly (.inr rfl), I.notes ok L₀ N13, X.notes N13, hk⟩
theorem ss_wh {n t a} (ht : SndT G O t) (ha : ∀ m, m < n + 1 -> SndL G O m a) : SndS G O (n + 1) (.wh t a) := by
  intro c ok own x h st s k I v
  obtain ⟨y, l, p, rfl, h1, h2⟩ := rs_wh h
  refine wpAny_While (codeAny_whileLoop (fun m s' => m <= n + 1 /\ ∃ st', Inv c st' s' /\ Stp c s s' /\ VS G O m (.wh t a) st' k) ?_ (n + 1) ⟨Nat.le_refl _, st, I, StpX.refl _, v⟩)
  rintro m s' ⟨hm, st', I', X', v'⟩
  cases m with
  | zero => exact v'.elim
  | succ m =>
    refine ht.thenX (k := fun u st => pick u (VL G O m a st (turnK (fun st => VS G O m (.wh t a) st k) k)) (k .next st)) ok h1 I' v' fun u s₁ st₁ I₁ S₁ v₁ => ?_
    cases u with
    | false => exact wpAny_execs_nil ⟨.next, st₁, trivial, I₁, X'.trans S₁, pick_f v₁⟩
    | true =>
      refine wpAny_mono (ha m (by first | exact Nat.lt_succ_self _ | lia) c ok own l h2 st₁ s₁ _ I₁ (pick_t v₁)) (fun f s₂ ⟨fl, st₂, hf, I₂, S₂, v₂⟩ => ?_) fun e s₂ hx => ?_
      · cases fl <;> cases f <;> first
          | exact hf.elim
          | exact ⟨m, Nat.lt_succ_self _, by lia, st₂, I₂, (X'.trans S₁).trans S₂, v₂⟩
          | exact ⟨.next, st₂, trivial, I₂, (X'.trans S₁).trans S₂, v₂⟩
          | exact ⟨_, st₂, hf, I₂, (X'.trans S₁).trans S₂, v₂⟩
      · refine noted_on ok own I.base ?_
        obtain ⟨e', j, st₂, q1, q2, q3, q4, q5, q6⟩ := hx
        exact PostX.later (X'.trans S₁) ⟨e', j, st₂, q1, q2, q3, q4, q5, q6⟩
theorem ss_try {n a j} (ha : SndL G O n a) : SndS G O (n + 1) (.tryE a j) := by
  intro c ok own x h st s k I v
  obtain ⟨l, nx, pp, hp, p, rfl, h1, h2, h3⟩ := rs_try h
  refine wpAny_Try_except (wpAny_mono (ha c ok own l h1 st s _ I v) (fun f s₁ ⟨fl, st₁, hf, I₁, S₁, v₁⟩ => ?_) fun e s₁ hx => ?_)
  · cases fl <;> cases f <;> first
      | exact hf.elim
      | exact wpAny_execs_nil ⟨.next, st₁, trivial, I₁, S₁, v₁⟩
      | exact ⟨_, st₁, hf, I₁, S₁, v₁⟩
  · obtain ⟨e, i, st₁, rfl, hi, hF, I₁, X, hk⟩ := hx
    refine note_run own ok I₁.frs X hF fun s₂ H N => ?_
    refine flight_run (fr := none) H fun s₃ H3 N3 => ?_
    have N13 := N.trans N3
    have I₃ := I₁.notes ok I.base N13
    have X₃ := X.notes N13
    obtain ⟨np, rfl, h4, h5⟩ := glbName_spec h2
    refine wpAny_handleBy_cons (codeAny_handlers_test (Calls.Name_function_global ok.kind h4 (Calls.loadGlobal_global (by rw [ok.glo]; exact ns_main I₃.left) (lab_glb _ h3) ?_) h5)) (by intro q; cases q)
    obtain ⟨y, oe, vs, T, oT, ts, g1, g2, g3, g4⟩ := H3
    obtain ⟨nm, q, k0, k2, k3, mN, A⟩ := lab_at I₃.left h3
    obtain ⟨nm', q', k0', k2', k3', mN', A'⟩ := lab_at I₃.left hi
    have hb : (Value.ref (labC i) :: bmE).contains (.ref (labC j)) = decide (i = j) := by
      rw [List.contains_cons]
      have e2 : bmE.contains (.ref (labC j)) = false := by
        unfold bmE
        simp only [List.contains_cons, List.contains_nil, Bool.or_false]
        rfl
      rw [e2, Bool.or_false]
      by_cases hij : i = j
      · subst hij; simp
      · rw [decide_eq_false hij]
        exact beq_eq_false_iff_ne.mpr fun q => lab_ne hi h3 hij (by injection q with q; exact q.symm)
    refine excMatches_own (b := decide (i = j)) A'.cls A.cls g1 g2 (by decide) hb ?_
    have H3' : FlyH c i .none s s₃ e := ⟨y, oe, vs, T, oT, ts, g1, g2, g3, g4⟩
    by_cases hij : i = j
    · subst hij
      rw [decide_eq_true rfl]
      refine codeAny_handlers_suite (flight_run (fr := none) H3' fun s₄ H4 N4 => ?_)
      refine wpAny_execs_cons (wpAny_Pass (wpAny_execs_nil ?_))
      have hk : k .next st₁ := by
        have hk : (if i = i then k .next st₁ else k (.exc i) st₁) := hk
        rwa [if_pos rfl] at hk
      exact ⟨.next, st₁, trivial, I₃.notes ok I.base N4, X₃.notes N4, hk⟩
    · rw [decide_eq_false hij]
      refine wpAny_handleBy_nil ?_
      unfold PySem.passOn
      refine wpAny_bind (flyH_ne H3' fun T => ?_)
      rw [if_neg (show ¬ ((Value.ref T == Value.none) = true) from by simp)]
      refine wpAny_bind (flight_run H3' fun s₄ H4 N4 => wpAny_throw ?_)
      rw [own.frame] at H4
      have hk : k (.exc i) st₁ := by
        have hk : (if i = j then k .next st₁ else k (.exc i) st₁) := hk
        rwa [if_neg hij] at hk
      exact ⟨e, i, st₁, rfl, hi, H4.fly (.inr rfl), I₃.notes ok I.base N4, X₃.notes N4, hk⟩
end
noncomputable def plainMV : MV -> Bool
  | .int _ => true
  | .str _ => true
  | _ => false
theorem plainMV_of {x : MV} (h : plainMV x = true) : (∃ i, x = .int i) \/ ∃ l, x = .str l := by
  cases x <;> first | cases h; done | exact .inl ⟨_, rfl⟩ | exact .inr ⟨_, rfl⟩
set_option genInjectivity false in
set_option genSizeOf false in
structure Itr (c : Cx) (s : Shared) (I : Addr) (r : List MV) (h : Heap) where
  fp : List Addr
  wr : List Addr
  P : Nat -> Value -> Prop
  S : Nat -> Heap -> Prop
  W : Walks prg c.w c.A I fp wr r.length P S
  st : S 0 h
  young : ∀ b ∈ wr, s.heap.get? b = none
  rec_ : ∀ i h, S i h -> ∀ b ∈ wr, ∃ o vs, h.get? b = some o /\ o.data = .fields vs
  safe : ∀ b ∈ fp, c.safe b
  lt : ∀ b ∈ fp, b < h.objs.size
  item : ∀ i x w, r[i]? = some x -> P i w -> plainMV x = true /\ VR c h x w
section
variable {G : Stat} {O : Orc}
theorem Itr.on {c : Cx} {s s₁ s₂ : Shared} {I : Addr} {r : List MV} {h : Heap} (T : Itr c s I r h) {i : Nat} (st : T.S i s₁.heap) (x : Stp c s₁ s₂) : T.S i s₂.heap :=
  T.W.frame i _ _ st fun b hb o ho => x.safe (T.safe b hb) ho
theorem Itr.moved {c : Cx} {s s₁ : Shared} {I : Addr} {r : List MV} {h : Heap} (T : Itr c s I r h) {i : Nat} (st : T.S i s₁.heap) {h' : Heap} {tk : Nat} (k : ∀ b o, b ∉ T.wr -> s₁.heap.get? b = some o -> h'.get? b = some o) : StpN c s s₁ { s₁ with heap := h', toks := tk } :=
  ⟨fun b o hb hn => ⟨o, k b o (fun m => hn (by
    obtain ⟨o', vs, h1, h2⟩ := T.rec_ i _ st b m
    exact ⟨T.young b m, o', vs, h1, h2⟩)) hb, fun _ => rfl, fun _ => Up.refl _⟩, rfl, rfl⟩
theorem for_run {n v : Nat} {a : List S} (ha : ∀ m, m < n + 1 -> SndL G O m a) {c : Cx} (ok : c.Ok O.lv) (own : c.Own) {l : List Stmt} (hl : repL c.env.scope a l = true) (hv : isLoc c.env.scope (nmS v) = true) {pos : Pos} {st : St} {s s₂ : Shared} {k : Fl -> St -> Prop}
    (L₀ : Base c s) (I₂ : Inv c st s₂) (X₂ : Stp c s s₂) {I : Addr} {r : List MV} (T : Itr c s I r s₂.heap) (vv : VI G O n v r a st k) :
    codeAny c.M c.A (.forLoop (.Name (nmS v) pos) (.ref I) l [] c.env) (fun r s' => match r with | .ok f => PostF c s k f s' | .error e => cameBackBy c.M c.A c.env (PostX c s k) e s') s₂ := by
  refine codeAny_forLoop (fun m s' => m <= n /\ ∃ st' i, i <= r.length /\ Inv c st' s' /\ Stp c s s' /\ T.S i s'.heap /\ VI G O m v (r.drop i) a st' k) ?_ n ⟨Nat.le_refl _, st, 0, Nat.zero_le _, I₂, X₂, T.st, vv⟩
  rintro m s' ⟨hm, st', i, hi, I', X', hS, v'⟩
  cases m with
  | zero => exact v'.elim
  | succ m =>
    by_cases hlt : i < r.length
    · rw [List.drop_eq_getElem_cons hlt] at v'
      refine T.W.item i s' _ _ hlt hS fun w h' tk hP hS' hk => ?_
      have N := T.moved (tk := tk) hS hk
      obtain ⟨hp, hw⟩ := T.item i r[i] w (List.getElem?_eq_getElem hlt) hP
      refine wpAny_assign_Name (loc_store ok (I'.notes ok L₀ N) (hw.plain (plainMV_of hp)) hv fun s₃ I₃ S₃ => ?_)
      have X₃ := (X'.notes N).trans S₃
      have hS₃ := T.on (s₁ := { s' with heap := h', toks := tk }) hS' S₃
      refine wpAny_mono (ha m (by first | exact Nat.lt_succ_self _ | lia) c ok own l hl _ s₃ _ I₃ v') (fun f s₄ ⟨fl, st₄, hf, I₄, S₄, v₄⟩ => ?_) fun e s₄ hx => ?_
      · cases fl <;> cases f <;> first
          | exact hf.elim
          | exact ⟨m, Nat.lt_succ_self _, by lia, st₄, i + 1, hlt, I₄, X₃.trans S₄, T.on hS₃ S₄, v₄⟩
          | exact ⟨.next, st₄, trivial, I₄, X₃.trans S₄, v₄⟩
          | exact ⟨_, st₄, hf, I₄, X₃.trans S₄, v₄⟩
      · refine noted_on ok own L₀ ?_
        obtain ⟨e', j, st₄, q1, q2, q3, q4, q5, q6⟩ := hx
        exact PostX.later X₃ ⟨e', j, st₄, q1, q2, q3, q4, q5, q6⟩
    · have hi' : i = r.length := by first | exact Nat.le_antisymm hi (Nat.le_of_not_lt hlt) | lia
      subst hi'
      rw [List.drop_length] at v'
      refine T.W.done s' _ _ hS fun h' tk hk => ?_
      have N := T.moved (tk := tk) hS hk
      exact wpAny_execs_nil ⟨.next, st', trivial, I'.notes ok L₀ N, X'.notes N, v'⟩
theorem rangeL_get {i d : Int} {m q : Nat} {x : MV} (h : (rangeL i d m)[q]? = some x) : x = .int (i + q * d) := by
  induction m generalizing i q with
  | zero => cases h
  | succ m ih =>
    cases q with
    | zero => cases h; simp
    | succ q =>
      have := ih (i := i + d) (q := q) h
      rw [this]
      congr 1
      push_cast
      rw [Int.add_mul]; lia
theorem rangeL_len {i d : Int} {m : Nat} : (rangeL i d m).length = m := by
  induction m generalizing i with
  | zero => rfl
  | succ m ih => show (rangeL (i + d) d m).length + 1 = _; rw [ih]
noncomputable def range_itr {c : Cx} {lv : Nat} (ok : c.Ok lv) {s : Shared} {st : St} {s₁ : Shared} (I₁ : Inv c st s₁) (X : Stp c s s₁) {a d : Int} {m : Nat} :
    Itr c s s₁.heap.objs.size (rangeL a d m) (s₁.heap.push { cls := .type "range_iterator", data := .fields #[rawInt a, rawInt m, rawInt d] }) where
  fp := [s₁.heap.objs.size]
  wr := [s₁.heap.objs.size]
  P := fun i v => ∃ t, v = .int (a + i * d) t
  S := fun i h => IsRangeIter h s₁.heap.objs.size (a + (i : Nat) * d) ((m : Int) - (i : Nat)) d
  W := by rw [rangeL_len]; exact Walks.range ok.hand _ a d m
  st := by
    have : IsRangeIter (s₁.heap.push { cls := .type "range_iterator", data := .fields #[rawInt a, rawInt m, rawInt d] }) s₁.heap.objs.size a m d := Heap.get?_push_size _ rfl
    simpa using this
  young := fun b hb => by
    rw [List.mem_singleton.mp hb]
    exact young_back X (size_none _ _ (Nat.le_refl _))
  rec_ := fun i h hs b hb => by
    rw [List.mem_singleton.mp hb]
    exact ⟨_, _, hs, rfl⟩
  safe := fun b hb => by
    rw [List.mem_singleton.mp hb]
    exact (I₁.fresh (size_none _ _ (Nat.le_refl _))).1
  lt := fun b hb => by
    rw [List.mem_singleton.mp hb]
    show _ < (s₁.heap.objs.push _).size
    rw [Array.size_push]; exact Nat.lt_succ_self _
  item := fun i x w hx hw => by
    rw [rangeL_get hx]
    obtain ⟨t, rfl⟩ := hw
    exact ⟨rfl, vInt⟩
end
section
variable {G : Stat} {O : Orc}
theorem push_size' (h : Heap) (o : Obj) : (h.push o).objs.size = h.objs.size + 1 := by
  show (h.objs.push _).size = _
  rw [Array.size_push]
noncomputable def list_itr {c : Cx} {lv : Nat} (ok : c.Ok lv) {s : Shared} {st : St} {s₁ : Shared} (I₁ : Inv c st s₁) (X : Stp c s s₁) {a : Addr} {vs : List Value} {r : List MV} (sf : c.safe a) (hl : s₁.heap.IsList a ⟨vs⟩) (hz : vs.length = r.length)
    (hi : ∀ (i : Nat) (x : MV) (w : Value), r[i]? = some x -> vs[i]? = some w -> plainMV x = true /\ VR c s₁.heap x w) :
    Itr c s s₁.heap.objs.size r (s₁.heap.push { cls := .type "list_iterator", data := .fields #[.ref a, .int 0 0] }) where
  fp := [s₁.heap.objs.size, a]
  wr := [s₁.heap.objs.size]
  P := fun i v => (⟨vs⟩ : Array Value)[i]? = some v
  S := fun i h => h.IsListIter s₁.heap.objs.size a i /\ h.IsList a ⟨vs⟩
  W := by
    have hne : a ≠ s₁.heap.objs.size := by
      obtain ⟨o, ho, _⟩ := hl
      exact Nat.ne_of_lt (Heap.lt_size ho)
    have := Walks.list (prog := prg) (w := c.w) ok.hand s₁.heap.objs.size a hne ⟨vs⟩
    rw [show (⟨vs⟩ : Array Value).size = r.length from hz] at this
    exact this
  st := ⟨⟨_, Heap.get?_push_size _ rfl, rfl, rfl⟩, let ⟨o, ho, r⟩ := hl; ⟨o, Heap.get?_push_of_some _ ho, r⟩⟩
  young := fun b hb => by
    rw [List.mem_singleton.mp hb]
    exact young_back X (size_none _ _ (Nat.le_refl _))
  rec_ := fun i h hs b hb => by
    rw [List.mem_singleton.mp hb]
    obtain ⟨⟨o, ho, _, hd⟩, _⟩ := hs
    exact ⟨o, _, ho, hd⟩
  safe := fun b hb => by
    rcases List.mem_cons.mp hb with rfl | hb
    · exact (I₁.fresh (size_none _ _ (Nat.le_refl _))).1
    · rw [List.mem_singleton.mp hb]; exact sf
  lt := fun b hb => by
    show _ < (s₁.heap.objs.push _).size
    rw [Array.size_push]
    rcases List.mem_cons.mp hb with rfl | hb
    · exact Nat.lt_succ_self _
    · rw [List.mem_singleton.mp hb]
      obtain ⟨o, ho, _⟩ := hl
      exact Nat.lt_succ_of_lt (Heap.lt_size ho)
  item := fun i x w hx hw => by
    have hw : vs[i]? = some w := by rw [<- List.getElem?_toArray]; exact hw
    obtain ⟨p, q⟩ := hi i x w hx hw
    exact ⟨p, q.plain (plainMV_of p)⟩
noncomputable def str_itr {c : Cx} {lv : Nat} {s : Shared} {st : St} {s₁ : Shared} (I₁ : Inv c st s₁) (X : Stp c s s₁) {l : List Nat} {t : Tok} {ty : String}
    (W : Walks prg c.w c.A s₁.heap.objs.size [s₁.heap.objs.size] [s₁.heap.objs.size] (sLit l).cps.size (SignAt (sLit l)) (fun i h => h.IsStrIter s₁.heap.objs.size ty (sLit l) t i)) :
    Itr c s s₁.heap.objs.size (l.map fun c => .str [c]) (s₁.heap.push { cls := .type ty, data := .fields #[.str (sLit l) t, .int 0 0] }) where
  fp := [s₁.heap.objs.size]
  wr := [s₁.heap.objs.size]
  P := SignAt (sLit l)
  S := fun i h => h.IsStrIter s₁.heap.objs.size ty (sLit l) t i
  W := by rw [List.length_map]; exact W
  st := ⟨_, Heap.get?_push_size _ rfl, rfl, rfl⟩
  young := fun b hb => by
    rw [List.mem_singleton.mp hb]
    exact young_back X (size_none _ _ (Nat.le_refl _))
  rec_ := fun i h hs b hb => by
    rw [List.mem_singleton.mp hb]
    obtain ⟨o, ho, _, hd⟩ := hs
    exact ⟨o, _, ho, hd⟩
  safe := fun b hb => by
    rw [List.mem_singleton.mp hb]
    exact (I₁.fresh (size_none _ _ (Nat.le_refl _))).1
  lt := fun b hb => by
    rw [List.mem_singleton.mp hb]
    show _ < (s₁.heap.objs.push _).size
    rw [Array.size_push]; exact Nat.lt_succ_self _
  item := fun i x w hx hw => by
    rw [List.getElem?_map] at hx
    obtain ⟨n, hn, rfl⟩ := Option.map_eq_some_iff.mp hx
    obtain ⟨m, u, hm, rfl⟩ := hw
    have hm : l[i]? = some m := by rw [<- List.getElem?_toArray]; exact hm
    rw [hn] at hm; cases hm
    exact ⟨rfl, vStr (l := [n])⟩
theorem ints_get : ∀ {ls : List Int} {vs : List Value} {i : Nat} {x : Int}, intsAre ls vs -> ls[i]? = some x -> ∃ t, vs[i]? = some (.int x t)
  | a :: r, b :: q, 0, x, ⟨⟨t, e⟩, _⟩, hx => by
    rw [List.getElem?_cons_zero] at hx; cases hx; subst e; exact ⟨t, rfl⟩
  | a :: r, b :: q, i + 1, x, ⟨_, h⟩, hx => by
    rw [List.getElem?_cons_succ] at hx; rw [List.getElem?_cons_succ]; exact ints_get h hx
set_option tactic.hygienic true in
theorem iter_run {c : Cx} {lv : Nat} (ok : c.Ok lv) {s s₁ : Shared} {st : St} (I₁ : Inv c st s₁) (X : Stp c s s₁) {x : MV} {v : Value} (hv : VR c s₁.heap x v) {r : List MV} (hx : itemsM x = some r) {E Q : Value -> Shared -> Prop}
    (q : ∀ I s₂, Nonempty (Itr c s I r s₂.heap) -> Ext s₁ s₂ -> Q (.ref I) s₂) : wpAny c.M c.A (pyIter v) Q E s₁ := by
  unfold itemsM at hx
  split at hx
  · cases hx
    obtain ⟨a, vs, rfl, sf, hl, h⟩ := hv
    refine wpAny_pyIter_list hl (q _ _ ⟨list_itr ok I₁ X sf hl (by rw [List.length_map, strs_len h]) fun i x w h1 h2 => ?_⟩ (Ext.push _ _ s₁.toks))
    rw [List.getElem?_map] at h1
    obtain ⟨y, hy, rfl⟩ := Option.map_eq_some_iff.mp h1
    obtain ⟨t, e⟩ := strs_get h hy
    rw [h2] at e; cases e
    exact ⟨rfl, vStr⟩
  · cases hx
    obtain ⟨a, vs, rfl, sf, hl, h⟩ := hv
    refine wpAny_pyIter_list hl (q _ _ ⟨list_itr ok I₁ X sf hl (by rw [List.length_map, ints_len h]) fun i x w h1 h2 => ?_⟩ (Ext.push _ _ s₁.toks))
    rw [List.getElem?_map] at h1
    obtain ⟨y, hy, rfl⟩ := Option.map_eq_some_iff.mp h1
    obtain ⟨t, e⟩ := ints_get h hy
    rw [h2] at e; cases e
    exact ⟨rfl, vInt⟩
  · rename_i l
    cases hx
    obtain ⟨t, rfl⟩ := hv
    cases ha : (sLit l).cps.all (· < 128) with
    | false => exact wpAny_pyIter_wide ha (q _ _ ⟨str_itr (lv := lv) I₁ X (Walks.strWide ok.hand _ _ _)⟩ (Ext.push _ _ s₁.toks))
    | true => exact wpAny_pyIter_ascii ha (q _ _ ⟨str_itr (lv := lv) I₁ X (Walks.strAscii ok.hand _ _ _)⟩ (Ext.push _ _ s₁.toks))
  · cases hx
theorem rs_forL {sc : Scope} {x : Stmt} {v : Nat} {e : E} {a : List S} (h : repS sc (.forL v e a) x = true) : ∃ t y l p, x = .For t y l [] p /\ locName sc v t = true /\ rep sc e y = true /\ repL sc a l = true := by
  refine osFor_inv h fun t y l r p h => ?_
  refine on0_inv h fun h => ?_
  refine an2c h fun h1 h => ?_
  refine an2c h fun h2 h => ?_
  exact ⟨_, _, _, _, rfl, h1, h2, h⟩
noncomputable abbrev rangeS : Str := sLit [114, 97, 110, 103, 101]
theorem rs_forR {sc : Scope} {x : Stmt} {v : Nat} {lo hi : E} {a : List S} (h : repS sc (.forR v lo hi a) x = true) : ∃ t f y z q l p, x = .For t (.Call f [y, z] [] q) l [] p /\ locName sc v t = true /\ glbName sc rangeS f = true /\ rep sc lo y = true /\ rep sc hi z = true /\ repL sc a l = true := by
  refine osFor_inv h fun t it l r p h => ?_
  refine onCall_inv h fun f as ks q h => ?_
  refine on2_inv h fun y z h => ?_
  refine on0_inv h fun h => ?_
  refine on0_inv h fun h => ?_
  refine an2c h fun h1 h => ?_
  refine an2c h fun h2 h => ?_
  refine an2c h fun h3 h => ?_
  refine an2c h fun h4 h => ?_
  exact ⟨_, _, _, _, _, _, _, rfl, h1, h2, h3, h4, h⟩
theorem rs_forR1 {sc : Scope} {x : Stmt} {v : Nat} {hi : E} {a : List S} (h : repS sc (.forR1 v hi a) x = true) : ∃ t f z q l p, x = .For t (.Call f [z] [] q) l [] p /\ locName sc v t = true /\ glbName sc rangeS f = true /\ rep sc hi z = true /\ repL sc a l = true := by
  refine osFor_inv h fun t it l r p h => ?_
  refine onCall_inv h fun f as ks q h => ?_
  refine on1_inv h fun z h => ?_
  refine on0_inv h fun h => ?_
  refine on0_inv h fun h => ?_
  refine an2c h fun h1 h => ?_
  refine an2c h fun h2 h => ?_
  refine an2c h fun h3 h => ?_
  exact ⟨_, _, _, _, _, _, rfl, h1, h2, h3, h⟩
theorem rs_forD {sc : Scope} {x : Stmt} {v : Nat} {hi : E} {a : List S} (h : repS sc (.forD v hi a) x = true) : ∃ t f z m1 m2 q l p, x = .For t (.Call f [z, m1, m2] [] q) l [] p /\ locName sc v t = true /\ glbName sc rangeS f = true /\ rep sc hi z = true /\ rep sc .neg1 m1 = true /\ rep sc .neg1 m2 = true /\ repL sc a l = true := by
  refine osFor_inv h fun t it l r p h => ?_
  refine onCall_inv h fun f as ks q h => ?_
  refine on3_inv h fun z m1 m2 h => ?_
  refine on0_inv h fun h => ?_
  refine on0_inv h fun h => ?_
  refine an2c h fun h1 h => ?_
  refine an2c h fun h2 h => ?_
  refine an2c h fun h3 h => ?_
  refine an2c h fun h4 h => ?_
  refine an2c h fun h5 h => ?_
  exact ⟨_, _, _, _, _, _, _, _, rfl, h1, h2, h3, h4, h5, h⟩
theorem folded {e : E} {sc : Scope} {x : Expr} {env : Env} {y : Value} (h : rep sc e x = true) : foldedSetIterable x env y = pure y := by
  have k := rep_ok h
  clear h
  cases x <;> first | rfl | exact Bool.noConfusion k
theorem loc_of {sc : Scope} {v : Nat} {t : Expr} (h : locName sc v t = true) : ∃ pos, t = .Name (nmS v) pos /\ isLoc sc (nmS v) = true := by
  obtain ⟨pos, rfl, _, _⟩ := locName_spec h
  have h1 : (nmS v == nmS v && isLoc sc (nmS v)) = true := h
  exact ⟨pos, rfl, (Bool.and_eq_true_iff.mp h1).2⟩
theorem ss_forL {n v e a} (he : SndE G O e) (ha : ∀ m, m < n + 1 -> SndL G O m a) : SndS G O (n + 1) (.forL v e a) := by
  intro c ok own x h st s k I v'
  obtain ⟨t, y, l, p, rfl, h1, h2, h3⟩ := rs_forL h
  obtain ⟨pos, rfl, h4⟩ := loc_of h1
  refine wpAny_For (he.thenX ok h2 I v' fun y s₁ a st₁ hv I₁ S₁ v₁ => ?_) (fun _ => folded h2)
  obtain ⟨r, hr, _, hk⟩ := v₁
  refine iter_run ok I₁ S₁ hv hr fun J s₂ T e₂ => ?_
  obtain ⟨T⟩ := T
  exact for_run ha ok own h3 h4 I.base (I₁.ext e₂) (S₁.trans e₂.stp) T hk
theorem small_fits {i : Int} (h : small i) : Builtin.Range.rangeFitsLong i = true := by
  unfold small limI at h
  unfold Builtin.Range.rangeFitsLong
  rw [Bool.and_eq_true_iff]
  exact ⟨decide_eq_true (by lia), decide_eq_true (by lia)⟩
theorem fits_of {i : Int} (h1 : -(2 ^ 63) <= i) (h2 : i < 2 ^ 63) : Builtin.Range.rangeFitsLong i = true := by
  unfold Builtin.Range.rangeFitsLong
  rw [Bool.and_eq_true_iff]
  exact ⟨decide_eq_true h1, decide_eq_true h2⟩
theorem range_go {n v : Nat} {a : List S} (ha : ∀ m, m < n + 1 -> SndL G O m a) {c : Cx} (ok : c.Ok O.lv) (own : c.Own) {l : List Stmt} (hl : repL c.env.scope a l = true) (hv : isLoc c.env.scope (nmS v) = true) {pos : Pos} {st : St} {s s₁ : Shared} {k : Fl -> St -> Prop}
    (L₀ : Base c s) (I₁ : Inv c st s₁) (X₁ : Stp c s s₁) {i j d : Int} {t u w : Tok} {m : Nat} (hm : Builtin.Range.rangeSize i j d = m) (hsm : Builtin.Range.small i j d = true) (vv : VI G O n v (rangeL i d m) a st k) {o : Obj} (ho : o = { cls := .type "range", data := .fields #[.int i t, .int j u, .int d w] }) (tk : Nat) :
    wpAny c.M c.A (pyIter (.ref s₁.heap.objs.size)) (fun it s₂ => codeAny c.M c.A (.forLoop (.Name (nmS v) pos) it l [] c.env) (fun r s' => match r with | .ok f => PostF c s k f s' | .error e => cameBackBy c.M c.A c.env (PostX c s k) e s') s₂) (PostX c s k) { s₁ with heap := s₁.heap.push o, toks := tk } := by
  subst ho
  have e1 := Ext.push s₁ ({ cls := .type "range", data := .fields #[.int i t, .int j u, .int d w] } : Obj) tk
  refine wpAny_pyIter_range (IsRange.new s₁.heap i j d t u w) hsm ?_
  rw [hm]
  have I₂ := I₁.ext e1
  have X₂ := X₁.trans e1.stp
  exact for_run ha ok own hl hv L₀ (I₂.ext (Ext.push _ _ tk)) (X₂.trans (Ext.push _ _ tk).stp) (range_itr ok I₂ X₂) vv
theorem ss_forR {n v lo hi a} (hlo : SndE G O lo) (hhi : SndE G O hi) (ha : ∀ m, m < n + 1 -> SndL G O m a) : SndS G O (n + 1) (.forR v lo hi a) := by
  intro c ok own x h st s k I v'
  obtain ⟨t, f, y, z, q, l, p, rfl, h1, h2, h3, h4, h5⟩ := rs_forR h
  obtain ⟨pos, rfl, h6⟩ := loc_of h1
  refine wpAny_For (wpAny_mono (blt_call (Q := fun x s₁ => wpAny c.M c.A (pyIter x) _ (PostX c s k) s₁) ok h2 I (blt_range _) ?_) (fun _ _ z => z) fun _ _ z => z.elim)
  rw [back2 h3 h4]
  refine PyProof.Rows.callWith_type rfl (Calls.evalArgs_plain (Calls.spliced_cons (hlo.then ok h3 I v' fun y s₁ a st₁ hv I₁ S₁ v₁ => Calls.spliced_cons (hhi.then ok h4 I₁ v₁ fun z s₂ b st₂ hw I₂ S₂ v₂ => Calls.spliced_nil ?_))))
  obtain ⟨i, j, rfl, rfl, hi1, hj1, hk⟩ := v₂
  obtain ⟨t, rfl⟩ := hv; obtain ⟨u, rfl⟩ := hw
  have bi := hi1; have bj := hj1
  unfold small limI at bi bj
  refine call_range_2 ?_
  have hm : Builtin.Range.rangeSize i j 1 = ((j - i).toNat : Int) := by
    rw [rangeSize_one]; split <;> lia
  refine range_go ha ok own h5 h6 I.base I₂ (S₁.trans S₂) hm ?_ hk rfl _
  unfold Builtin.Range.small
  rw [hm, small_fits hi1, small_fits hj1, fits_of (i := 1) (by lia) (by lia), fits_of (i := ((j - i).toNat : Int)) (by lia) (by lia)]
  simp only [Bool.true_and, Bool.or_eq_true]
  exact .inr (by rw [if_pos (by decide)]; exact fits_of (by lia) (by lia))
theorem ss_forR1 {n v hi a} (hhi : SndE G O hi) (ha : ∀ m, m < n + 1 -> SndL G O m a) : SndS G O (n + 1) (.forR1 v hi a) := by
  intro c ok own x h st s k I v'
  obtain ⟨t, f, z, q, l, p, rfl, h1, h2, h4, h5⟩ := rs_forR1 h
  obtain ⟨pos, rfl, h6⟩ := loc_of h1
  refine wpAny_For (wpAny_mono (blt_call (Q := fun x s₁ => wpAny c.M c.A (pyIter x) _ (PostX c s k) s₁) ok h2 I (blt_range _) ?_) (fun _ _ z => z) fun _ _ z => z.elim)
  rw [back1 h4]
  refine PyProof.Rows.callWith_type rfl (Calls.evalArgs_plain (Calls.spliced_cons (hhi.then ok h4 I v' fun z s₂ b st₂ hw I₂ S₂ v₂ => Calls.spliced_nil ?_)))
  obtain ⟨j, rfl, hj1, hk⟩ := v₂
  obtain ⟨u, rfl⟩ := hw
  have bj := hj1
  unfold small limI at bj
  refine call_range_1 ?_
  have hm : Builtin.Range.rangeSize 0 j 1 = (j.toNat : Int) := by
    rw [rangeSize_one]; split <;> lia
  refine range_go ha ok own h5 h6 I.base I₂ S₂ hm ?_ hk rfl _
  unfold Builtin.Range.small
  rw [hm, small_fits hj1, fits_of (i := 0) (by lia) (by lia), fits_of (i := 1) (by lia) (by lia), fits_of (i := (j.toNat : Int)) (by lia) (by lia)]
  simp only [Bool.true_and, Bool.or_eq_true]
  exact .inr (by rw [if_pos (by decide)]; exact fits_of (by lia) (by lia))
theorem neg1_run {c : Cx} {x : Expr} (h : rep c.env.scope .neg1 x = true) {s : Shared} {Q : Value -> Shared -> Prop} (q : ∀ t s', Ext s s' -> Q (.int (-1) t) s') : wpAny c.M c.A (eval x c.env) Q No s := by
  obtain ⟨_, _, _, rfl⟩ := rep_neg1 h
  exact wpAny_UnaryOp (wpAny_Constant_int (PyProof.Rows.neg_int (q _ _ ((Ext.toks s _).trans (Ext.toks _ _)))))
theorem ss_forD {n v hi a} (hhi : SndE G O hi) (ha : ∀ m, m < n + 1 -> SndL G O m a) : SndS G O (n + 1) (.forD v hi a) := by
  intro c ok own x h st s k I v'
  obtain ⟨t, f, z, m1, m2, q, l, p, rfl, h1, h2, h4, g1, g2, h5⟩ := rs_forD h
  obtain ⟨pos, rfl, h6⟩ := loc_of h1
  refine wpAny_For (wpAny_mono (blt_call (Q := fun x s₁ => wpAny c.M c.A (pyIter x) _ (PostX c s k) s₁) ok h2 I (blt_range _) ?_) (fun _ _ z => z) fun _ _ z => z.elim)
  rw [back3 h4 g1 g2]
  refine PyProof.Rows.callWith_type rfl (Calls.evalArgs_plain (Calls.spliced_cons (hhi.then ok h4 I v' fun z s₂ b st₂ hw I₂ S₂ v₂ => Calls.spliced_cons (neg1_run g1 fun t1 s₃ e3 => Calls.spliced_cons (neg1_run g2 fun t2 s₄ e4 => Calls.spliced_nil ?_)))))
  obtain ⟨j, rfl, hj1, hk⟩ := v₂
  obtain ⟨u, rfl⟩ := hw
  have bj := hj1
  unfold small limI at bj
  refine call_range_3 (by decide) ?_ (.inl (PyProof.noPylong_small (by decide)))
  have hm : Builtin.Range.rangeSize j (-1) (-1) = ((j + 1).toNat : Int) := by
    unfold Builtin.Range.rangeSize
    rw [if_neg (by decide)]
    split
    · rw [show -(-1 : Int) = 1 by decide, Int.ediv_one]; lia
    · lia
  refine range_go ha ok own h5 h6 I.base ((I₂.ext e3).ext e4) ((S₂.trans e3.stp).trans e4.stp) hm ?_ hk rfl _
  unfold Builtin.Range.small
  rw [hm, small_fits hj1, fits_of (i := -1) (by lia) (by lia), fits_of (i := ((j + 1).toNat : Int)) (by lia) (by lia)]
  simp only [Bool.true_and, Bool.or_eq_true]
  exact .inr (by rw [if_neg (by decide)]; exact fits_of (by lia) (by lia))
end
theorem compKinds {names : List (Str × NameKind)} (h : names.all (fun n => match n.2 with | .local => (match names.lookup n.1 with | some .local => true | _ => false) | .globalImplicit => true | _ => false) = true) :
    (∀ y ∈ names, y.2 ≠ .free) /\ (∀ y ∈ names, y.2 ≠ .cell) /\ ∀ y ∈ names, y.2 = .local -> names.lookup y.1 = some .local := by
  refine ⟨fun y hy e => ?_, fun y hy e => ?_, fun y hy e => ?_⟩ <;> (have := List.all_eq_true.mp h y hy; simp only [e] at this)
  · cases this
  · cases this
  · split at this
    · assumption
    · cases this
theorem rep_comp {sc : Scope} {elt src : E} {v : Nat} {x : Expr} (h : rep sc (.comp elt v src) x = true) : ∃ y px it cs p, x = .ListComp y [⟨.Name (nmS v) px, it, [], 0⟩] cs p /\ isLoc cs (nmS v) = true /\ rep cs elt y = true /\ rep sc src it = true ∧
    ((∀ y ∈ cs.names, y.2 ≠ .free) /\ (∀ y ∈ cs.names, y.2 ≠ .cell) /\ ∀ y ∈ cs.names, y.2 = .local -> cs.names.lookup y.1 = some .local) /\ cs.kind = .function := by
  refine onListComp_inv h fun y gs cs p h => on1_inv h fun g h => onG_inv h fun t it h => onName_inv h fun n q h => an2c h fun h1 h => an2c h fun h2 h => an2c h fun h3 h => an2c h fun h4 h => an2c h fun h5 h6 => ?_
  cases eq_of_beq h1
  refine ⟨_, _, _, _, _, rfl, h2, h3, h4, compKinds h5, ?_⟩
  split at h6
  · assumption
  · cases h6
theorem big_heap {P : Params} {h : Heap} (L : Left P h) : 607 <= h.objs.size := by
  have := L 606 (by decide) (objAt P 606) (by kernel_rfl) (by kernel_rfl)
  exact Heap.lt_size this
noncomputable def Cx.comp (c : Cx) (ce : Env) (C : Addr) : Cx := { c with env := ce, L := C, av := c.L :: c.av }
theorem Cx.Ok.comp {c : Cx} {lv : Nat} (ok : c.Ok lv) {ce : Env} {C : Addr} (hk : ce.scope.kind = .function) (k1 : ce.globals = mainGlobals) (k2 : ce.locals = C) (k3 : ce.builtins = builtinsNs) (hC : 607 <= C) (hg : ∀ p, c.g = some p -> C ≠ p.1 /\ C ≠ p.2) : (c.comp ce C).Ok lv where
  frames := ok.frames
  depth := ok.depth
  units := ok.units
  le := ok.le
  hand := ok.hand
  glo := k1
  loc := k2
  blt := k3
  kind := hk
  hiF := ok.hiF
  hiL := hC
  gx := fun p hp => let ⟨a, b, d, _, _, e, f⟩ := ok.gx p hp; ⟨a, b, d, (hg p hp).1, (hg p hp).2, e, f⟩
  hiA := fun a ha => by
    rcases List.mem_cons.mp ha with rfl | ha
    · exact ok.hiL
    · exact ok.hiA a ha
theorem ObI_iff {c : Cx} {h : Heap} {ob : Option Ob} : ObI c h ob ↔ (c.g = none /\ ob = none) \/ ∃ p o, c.g = some p /\ ob = some o /\ ObR c h p.1 p.2 o := by
  unfold ObI
  cases hg : c.g with
  | none => cases ob with
    | none => simp
    | some o => simp
  | some p => cases ob with
    | none => simp
    | some o => simp
theorem ObR.comp {c : Cx} {ce : Env} {C : Addr} {h : Heap} {x dx : Addr} {o : Ob} : ObR (c.comp ce C) h x dx o ↔ ObR c h x dx o := by
  constructor
  · rintro ⟨h1, m, hn, a, b, d⟩
    refine ⟨h1, m, hn, fun f v hf hv => ?_, b, d⟩
    obtain ⟨y, p, q⟩ := a f v hf hv
    refine ⟨y, p, ?_⟩
    rcases Ob.get_plain hv with ⟨i, rfl⟩ | ⟨l, rfl⟩ <;> exact q
  · rintro ⟨h1, m, hn, a, b, d⟩
    refine ⟨h1, m, hn, fun f v hf hv => ?_, b, d⟩
    obtain ⟨y, p, q⟩ := a f v hf hv
    refine ⟨y, p, ?_⟩
    rcases Ob.get_plain hv with ⟨i, rfl⟩ | ⟨l, rfl⟩ <;> exact q
theorem ObI.comp {c : Cx} {ce : Env} {C : Addr} {h : Heap} {ob : Option Ob} (x : ObI c h ob) : ObI (c.comp ce C) h ob := by
  rw [ObI_iff] at *
  rcases x with ⟨a, b⟩ | ⟨p, o, a, b, d⟩
  · exact .inl ⟨a, b⟩
  · exact .inr ⟨p, o, a, b, ObR.comp.mpr d⟩
theorem ObI.uncomp {c : Cx} {ce : Env} {C : Addr} {h : Heap} {ob : Option Ob} (x : ObI (c.comp ce C) h ob) : ObI c h ob := by
  rw [ObI_iff] at *
  rcases x with ⟨a, b⟩ | ⟨p, o, a, b, d⟩
  · exact .inl ⟨a, b⟩
  · exact .inr ⟨p, o, a, b, ObR.comp.mp d⟩
theorem Inv0.comp {c : Cx} {ce : Env} {C : Addr} {s : Shared} {ob : Option Ob} (x : Inv0 c ob s) (hL : s.heap.get? c.L ≠ none) : Inv0 (c.comp ce C) ob s := ⟨x.left, x.ob.comp, x.frs, fun a ha => by
  rcases List.mem_cons.mp ha with rfl | ha
  · exact hL
  · exact x.avs a ha⟩
theorem Inv0.uncomp {c : Cx} {ce : Env} {C : Addr} {s : Shared} {ob : Option Ob} (x : Inv0 (c.comp ce C) ob s) : Inv0 c ob s := ⟨x.left, x.ob.uncomp, x.frs, fun a ha => x.avs a (List.mem_cons_of_mem _ ha)⟩
theorem Stp.uncomp {c : Cx} {ce : Env} {C : Addr} {s s₁ s₂ : Shared} (X : Stp c s s₁) (x : Stp (c.comp ce C) s₁ s₂) (y : s.heap.get? C = none) : Stp c s s₂ := by
  refine ⟨fun b o hb => ?_, x.gens.trans X.gens, x.os.trans X.os⟩
  obtain ⟨o₁, h1, k1⟩ := X.heap b o hb
  obtain ⟨o₂, h2, k2⟩ := x.heap b o₁ h1
  refine ⟨o₂, h2, fun e1 e2 => ?_⟩
  obtain ⟨a1, a2⟩ := k1 e1 e2
  obtain ⟨b1, b2⟩ := k2 (fun e => by rw [show b = C from e, y] at hb; cases hb) e2
  exact ⟨fun m => (b1 m).trans (a1 m), fun m => (a2 m).trans (b2 m)⟩
theorem Ns.uncomp {c : Cx} {lv : Nat} (ok : c.Ok lv) {ce : Env} {C : Addr} {s₁ s₂ : Shared} (x : Stp (c.comp ce C) s₁ s₂) {m : Str -> Option Value} (hn : s₁.heap.Ns c.L m) (hC : c.L ≠ C) : s₂.heap.Ns c.L m := by
  obtain ⟨o, es, ep, ho, hd, r⟩ := hn
  obtain ⟨o', h1, k⟩ := x.heap _ o ho
  obtain ⟨k1, k2⟩ := k hC (fun p hp e => by obtain ⟨_, _, _, _, e2, _⟩ := ok.gx p hp; exact e2 e)
  by_cases hf : c.L ∈ c.fr
  · exact ⟨o', es, ep, h1, (k2 hf).data.trans hd, r⟩
  · rw [k1 hf] at h1; exact ⟨o, es, ep, h1, hd, r⟩
structure Clear (c : Cx) (D : Addr) : Prop where
  big : 607 <= D
  fr : D ∉ c.fr
  L : D ≠ c.L
  g : ∀ p, c.g = some p -> D ≠ p.1 /\ D ≠ p.2
  a : D ∉ c.av
theorem Inv.clear {c : Cx} {st : St} {s : Shared} (I : Inv c st s) {a : Addr} (h : s.heap.get? a = none) (hb : 607 <= a) : Clear c a := by
  have f := (I.fresh h).1
  refine ⟨hb, f.2.1, f.1, fun p hp => ⟨fun e => ?_, f.2.2.1 p hp⟩, f.2.2.2⟩
  have := I.ob
  rw [ObI_iff] at this
  rcases this with ⟨h1, _⟩ | ⟨p', o, h1, _, h3⟩
  · rw [hp] at h1; cases h1
  · rw [hp] at h1; cases h1
    rw [e, h3.inst] at h; cases h
theorem Inv0.but {c : Cx} {ob : Option Ob} {s s' : Shared} {D : Addr} (I : Inv0 c ob s) (k : Clear c D) (hs : ∀ b o, b ≠ D -> s.heap.get? b = some o -> s'.heap.get? b = some o) : Inv0 c ob s' := by
  refine ⟨fun a ha o ho hl => hs _ _ (fun e => absurd ha (Nat.not_lt.mpr (e ▸ k.big))) (I.left a ha o ho hl), ?_, fun e he => ?_, fun a ha q => ?_⟩
  · have := I.ob
    rw [ObI_iff] at *
    rcases this with ⟨h1, h2⟩ | ⟨p, o, h1, h2, ⟨h3, m, ⟨o', es, ep, ho, r⟩, a, b, d⟩⟩
    · exact .inl ⟨h1, h2⟩
    · refine .inr ⟨p, o, h1, h2, ⟨hs _ _ (k.g p h1).1.symm h3, m, ⟨o', es, ep, hs _ _ (k.g p h1).2.symm ho, r⟩, fun f v hf hv => ?_, b, d⟩⟩
      obtain ⟨y, p, q⟩ := a f v hf hv
      exact ⟨y, p, q.plain (Ob.get_plain hv)⟩
  · obtain ⟨kk, a, o, hf, ho, r⟩ := I.frs e he
    exact ⟨kk, a, o, hf, hs _ _ (fun e' => k.fr (e' ▸ List.mem_filterMap.mpr ⟨e, he, hf⟩)) ho, r⟩
  · obtain ⟨o, ho⟩ := Option.ne_none_iff_exists'.mp (I.avs a ha)
    rw [hs a o (fun e => k.a (e ▸ ha)) ho] at q; cases q
theorem Ns.but {h h' : Heap} {a D : Addr} {m : Str -> Option Value} (x : h.Ns a m) (e : a ≠ D) (hs : ∀ b o, b ≠ D -> h.get? b = some o -> h'.get? b = some o) : h'.Ns a m :=
  let ⟨o, es, ep, ho, r⟩ := x; ⟨o, es, ep, hs _ _ e ho, r⟩
structure CLp (c : Cx) (s₁ : Shared) (C D : Addr) (m₀ : Str -> Option Value) (acc : List (List Nat)) (ob : Option Ob) (s' : Shared) : Prop where
  inv : Inv0 c ob s'
  ns : s'.heap.Ns c.L m₀
  stp : Stp c s₁ s'
  nsC : ∃ m, s'.heap.Ns C m
  lst : ∃ vs, s'.heap.IsList D ⟨vs⟩ /\ strsAre acc vs
theorem strs_snoc : ∀ {l : List (List Nat)} {vs : List Value} {q : List Nat} {t : Tok}, strsAre l vs -> strsAre (l ++ [q]) (vs ++ [.str (sLit q) t])
  | [], [], q, t, _ => ⟨⟨t, rfl⟩, trivial⟩
  | _ :: r, _ :: w, q, t, ⟨a, b⟩ => ⟨a, strs_snoc b⟩
section
variable {G : Stat} {O : Orc}
theorem comp_loop {tr : St -> (MV -> St -> Prop) -> Prop} {c : Cx} (ok : c.Ok O.lv) {cs : Scope} {y it : Expr} {v : Nat} {px pos : Pos}
    {s₁ : Shared} (L₀ : Base c s₁) {C D : Addr} {ce : Env} (okC : (c.comp ce C).Ok O.lv) (hv : isLoc ce.scope (nmS v) = true)
    (he : ∀ x ob s k, Stp c s₁ s -> Inv (c.comp ce C) ⟨[(v, x)], ob⟩ s -> tr ⟨[(v, x)], ob⟩ k -> wpAny c.M c.A (eval y ce) (PostE (c.comp ce C) s k) No s) (kC : Clear c C) (kD : Clear c D) (nC : s₁.heap.get? C = none) (nD : s₁.heap.get? D = none) (hCD : D ≠ C) {m₀ : Str -> Option Value} {I : Addr} {r : List MV} {h₂ : Heap} (T : Itr c s₁ I r h₂) (fC : ∀ b ∈ T.fp, b ≠ C) (fD : ∀ b ∈ T.fp, b ≠ D)
    (hz : r.length <= limS) {kk : List (List Nat) -> Option Ob -> Prop} {ob : Option Ob} {s₅ : Shared} (K : CLp c s₁ C D m₀ [] ob s₅) (hS : T.S 0 s₅.heap) (hc : compL tr v r [] ob kk) {R : Result -> Shared -> Prop}
    (fin : ∀ s' acc ob', CLp c s₁ C D m₀ acc ob' s' -> kk acc ob' -> R (.ok .next) s') :
    codeAny c.M c.A (.compLoop (.ListComp y [⟨.Name (nmS v) px, it, [], 0⟩] cs pos) 0 (.ref I) (.ref D) ce) R s₅ := by
  have sfD : (c.comp ce C).safe D := ⟨hCD, kD.fr, fun p hp => (kD.g p hp).2, fun m => by
    rcases List.mem_cons.mp m with e | m
    · exact kD.L e
    · exact kD.a m⟩
  refine codeAny_compLoop_tests (fun n s' => ∃ i acc ob', i <= r.length /\ n = r.length + 1 - i /\ acc.length = i /\ CLp c s₁ C D m₀ acc ob' s' /\ T.S i s'.heap /\ compL tr v (r.drop i) acc ob' kk) ?_ (r.length + 1) ⟨0, [], ob, Nat.zero_le _, rfl, rfl, K, hS, hc⟩
  rintro n s' ⟨i, acc, ob', hi, rfl, hal, K, hS, hc⟩
  have pI : Inv c ⟨[], ob'⟩ s' := ⟨K.inv, m₀, K.ns, fun _ _ e => by cases e⟩
  have moved : ∀ {h' : Heap} {tk : Nat}, (∀ b o, b ∉ T.wr -> s'.heap.get? b = some o -> h'.get? b = some o) -> CLp c s₁ C D m₀ acc ob' { s' with heap := h', toks := tk } := by
    intro h' tk hk'
    have N := T.moved (tk := tk) hS hk'
    obtain ⟨mC, hmC⟩ := K.nsC
    obtain ⟨vs, ⟨o, ho, hc', n', hd⟩, hvs⟩ := K.lst
    exact ⟨(pI.notes ok L₀ N).toInv0, Ns.notes N K.ns, K.stp.notes N, ⟨mC, Ns.notes N hmC⟩, vs, ⟨o, N.keep ho kD.fr (fun _ q => by rw [hd] at q; cases q), hc', n', hd⟩, hvs⟩
  by_cases hlt : i < r.length
  · rw [List.drop_eq_getElem_cons hlt] at hc
    refine T.W.item i s' _ _ hlt hS fun w h' tk hP hS' hk' => ?_
    have K₂ := moved (tk := tk) hk'
    obtain ⟨hp, hw⟩ := T.item i r[i] w (List.getElem?_eq_getElem hlt) hP
    obtain ⟨mC, hmC⟩ := K₂.nsC
    have IC : Inv (c.comp ce C) ⟨[], ob'⟩ { s' with heap := h', toks := tk } := ⟨K₂.inv.comp (by obtain ⟨o, _, _, ho, _⟩ := K₂.ns; rw [ho]; intro q; cases q), mC, hmC, fun _ _ e => by cases e⟩
    have hwC : VR (c.comp ce C) h' r[i] w := by
      rcases plainMV_of hp with ⟨a, ha⟩ | ⟨a, ha⟩ <;> (rw [ha] at hw ⊢; exact hw)
    refine wpAny_assign_Name (loc_store okC IC hwC hv fun s₃ I₃ S₃ => ?_)
    refine wpAny_tests_nil ?_
    rw [if_pos rfl]
    have hc' : tr ⟨[(v, r[i])], ob'⟩ fun y st => ∃ q, y = .str q /\ compL tr v (r.drop (i + 1)) (acc ++ [q]) st.ob kk := hc
    refine wpAny_mono (he _ _ _ _ (Stp.uncomp K₂.stp S₃ nC) I₃ hc') (fun z s₄ ⟨a, st₄, hz4, I₄, S₄, v₄⟩ => ?_) fun _ _ z => z.elim
    obtain ⟨q, rfl, v₄⟩ := v₄
    obtain ⟨t, rfl⟩ := hz4
    have S34 : Stp (c.comp ce C) { s' with heap := h', toks := tk } s₄ := S₃.trans S₄
    obtain ⟨vs, ⟨o, ho, hcl, n', hd⟩, hvs⟩ := K₂.lst
    have hD4 : s₄.heap.get? D = some o := S34.safe sfD ho
    have hT4 : T.S (i + 1) s₄.heap := T.W.frame _ _ _ hS' fun b hb o ho => S34.safe ⟨fC b hb, (T.safe b hb).2.1, (T.safe b hb).2.2.1, fun m => by
      rcases List.mem_cons.mp m with e | m
      · exact (T.safe b hb).1 e
      · exact (T.safe b hb).2.2.2 m⟩ ho
    have hvz : vs.length <= sizeLine := by rw [strs_len hvs, hal]; exact Nat.le_trans (by lia) limS_line
    refine wpAny_list_append (hsz := hvz) (items := ⟨vs⟩) ⟨o, hD4, hcl, n', hd⟩ fun h₅ hl₅ hs₅ => ?_
    have oth : ∀ b o, b ≠ D -> s₄.heap.get? b = some o -> h₅.get? b = some o := fun b o e hb => (hs₅.2 b e).trans hb
    have st4 : Stp c s₁ s₄ := Stp.uncomp K₂.stp S34 nC
    refine ⟨r.length + 1 - (i + 1), Nat.sub_lt_sub_left (Nat.lt_succ_of_lt hlt) (Nat.lt_succ_self i), i + 1, acc ++ [q], st₄.ob, hlt, rfl, by simp [hal], ⟨?_, ?_, ?_, ?_, ?_⟩, ?_, v₄⟩
    · exact I₄.toInv0.uncomp.but kD oth
    · exact Ns.but (Ns.uncomp ok S34 K₂.ns kC.L.symm) kD.L.symm oth
    · refine ⟨fun b o hb => ?_, st4.gens, st4.os⟩
      obtain ⟨o', h1, k1⟩ := st4.heap b o hb
      exact ⟨o', oth b o' (fun e => by rw [e, nD] at hb; cases hb) h1, k1⟩
    · obtain ⟨mm, hmm, _⟩ := I₄.ns
      exact ⟨mm, Ns.but (a := C) hmm hCD.symm oth⟩
    · refine ⟨vs ++ [.str (sLit q) t], ?_, strs_snoc hvs⟩
      have : (⟨vs⟩ : Array Value).push (.str (sLit q) t) = ⟨vs ++ [.str (sLit q) t]⟩ := by simp
      rw [<- this]; exact hl₅
    · exact T.W.frame _ _ _ hT4 fun b hb o ho => oth b o (fD b hb) ho
  · have hi' : i = r.length := Nat.le_antisymm hi (Nat.le_of_not_lt hlt)
    subst hi'
    rw [List.drop_length] at hc
    exact T.W.done s' _ _ hS fun h' tk hk' => fin _ acc ob' (moved hk') hc
noncomputable def reScope (e : Env) (sc : Scope) : Env := { e with scope := sc }
theorem comp_block {tr : St -> (MV -> St -> Prop) -> Prop} {c : Cx} (ok : c.Ok O.lv) {cs sc' : Scope} {y it : Expr} {v : Nat} {px p : Pos} {cl : List (Str × Addr)} {ceOf : Addr -> Env} (f2 : ∀ y ∈ cs.names, y.2 ≠ .cell) (h4 : cs.kind = .function)
    (hce : ∀ C, reScope (newEnv cs C c.env.globals cl c.env.qual none .none (some c.env) builtinsNs) sc' = ceOf C) (hcl : ∀ C, (ceOf C).locals = C)
    (hok : ∀ C, 607 <= C -> (∀ p, c.g = some p -> C ≠ p.1 /\ C ≠ p.2) -> (c.comp (ceOf C) C).Ok O.lv) (h1 : ∀ C, isLoc (ceOf C).scope (nmS v) = true)
    {st₁ : St} {s₁ s₂ : Shared} (I₁ : Inv c st₁ s₁) (e₂ : Ext s₁ s₂) {J : Addr} {r : List MV} (T : Itr c s₁ J r s₂.heap) (hz : r.length <= limS)
    (he : ∀ C, Clear c C -> ∀ x ob s k, Stp c s₁ s -> Inv (c.comp (ceOf C) C) ⟨[(v, x)], ob⟩ s -> tr ⟨[(v, x)], ob⟩ k -> wpAny c.M c.A (eval y (ceOf C)) (PostE (c.comp (ceOf C) C) s k) No s)
    {kk : List (List Nat) -> Option Ob -> Prop} (hc : compL tr v r [] st₁.ob kk) {RR : Value -> Env -> Result -> Shared -> Prop}
    (fin : ∀ D (ce : Env) s', (∃ m, s'.heap.Ns ce.locals m /\ ∀ h', Heap.SameBut ce.locals s'.heap h' -> ∃ acc ob', VR c h' (.strs acc) (.ref D) /\ Inv c ⟨st₁.loc, ob'⟩ { s' with heap := h' } /\ Stp c s₁ { s' with heap := h' } /\ kk acc ob') -> RR (.ref D) ce (.ok .next) s') :
    wpAny c.M c.A (newList []) (fun acc s₃ => wpAny c.M c.A (newFunctionEnv cs c.env.globals cl [] c.env.qual none .none (some c.env)) (fun cenv s₄ =>
      codeAny c.M c.A (.compStart (.ListComp y [⟨.Name (nmS v) px, it, [], 0⟩] cs p) 0 (.ref J) acc (reScope cenv sc')) (RR acc cenv) s₄) No s₃) No s₂ := by
  have I₂ := I₁.ext e₂
  have X₂ : Stp c s₁ s₂ := e₂.stp
  refine wpAny_newObj_type (hd := by size_fits) (wpAny_newFunctionEnv f2 (by intro y hy; simp at hy) (fun h₁ hns₁ hsb₁ => ?_) h4)
  dsimp only at hns₁ hsb₁ ⊢
  generalize hO : ({ cls := .type "list", dict := none, data := .seq ([] : List Value).toArray } : Obj) = oD at hns₁ hsb₁ ⊢
  have hCs : (s₂.heap.push oD).objs.size = s₂.heap.objs.size + 1 := push_size' _ _
  generalize hC' : (s₂.heap.push oD).objs.size = C at hns₁ hsb₁ hCs ⊢
  have hb₂ := big_heap I₂.left
  have nD2 := size_none s₂.heap _ (Nat.le_refl _)
  have nC2 : s₂.heap.get? C = none := size_none _ _ (by rw [hCs]; exact Nat.le_succ _)
  have kD : Clear c s₂.heap.objs.size := I₂.clear nD2 hb₂
  have kC : Clear c C := I₂.clear nC2 (by rw [hCs]; exact Nat.le_succ_of_le hb₂)
  have okC := hok C kC.big kC.g
  have hCD : s₂.heap.objs.size ≠ C := by rw [hCs]; exact Nat.ne_of_lt (Nat.lt_succ_self _)
  have old : ∀ b o, s₂.heap.get? b = some o -> h₁.get? b = some o := fun b o hb =>
    hsb₁.extBut b o (by rw [hCs]; exact Nat.ne_of_lt (Nat.lt_succ_of_lt (Heap.lt_size hb))) (Heap.get?_push_of_some _ (Heap.get?_push_of_some _ hb))
  have ex : ∀ tk, Ext s₂ { s₂ with heap := h₁, toks := tk } := fun tk => ⟨old, rfl, rfl⟩
  have hlD : h₁.IsList s₂.heap.objs.size ⟨[]⟩ := ⟨oD, hsb₁.extBut _ _ hCD (Heap.get?_push_of_some _ (Heap.get?_push_size _ (by rw [<- hO]; rfl))), by rw [<- hO], 0, by rw [<- hO]⟩
  obtain ⟨m₀, hn, hb⟩ := I₁.ns
  have hn₂ : s₂.heap.Ns c.L m₀ := e₂.ns hn
  have hS₅ : T.S 0 h₁ := T.W.frame _ _ _ T.st fun b _ o ho => old b o ho
  have K : ∀ tk, CLp c s₁ C s₂.heap.objs.size m₀ [] st₁.ob { s₂ with heap := h₁, toks := tk } := fun tk =>
    ⟨(I₂.ext (ex tk)).toInv0, (ex tk).ns hn₂, X₂.trans (ex tk).stp, ⟨_, hns₁⟩, [], hlD, trivial⟩
  have loop : ∀ tk, codeAny c.M c.A (.compLoop (.ListComp y [⟨.Name (nmS v) px, it, [], 0⟩] cs p) 0 (.ref J) (.ref s₂.heap.objs.size) (ceOf C)) (RR (.ref s₂.heap.objs.size) (newEnv cs C c.env.globals cl c.env.qual none .none (some c.env) builtinsNs)) { s₂ with heap := h₁, toks := tk } := fun tk => by
    refine comp_loop (tr := tr) (cs := cs) (it := it) (px := px) (pos := p) ok I₁.base okC (h1 C) (he C kC) kC kD (young_back X₂ nC2) (young_back X₂ nD2) hCD T (fun b hb => Nat.ne_of_lt (by rw [hCs]; exact Nat.lt_succ_of_lt (T.lt b hb))) (fun b hb => Nat.ne_of_lt (T.lt b hb)) hz (K tk) hS₅ hc fun s' acc ob' K' hk => ?_
    refine fin _ _ _ ?_
    obtain ⟨mC, hmC⟩ := K'.nsC
    refine ⟨mC, hmC, fun h' hsb => ?_⟩
    have oth : ∀ b o, b ≠ C -> s'.heap.get? b = some o -> h'.get? b = some o := fun b o e hb => (hsb.2 b e).trans hb
    obtain ⟨vs, ⟨o, ho, r'⟩, hvs⟩ := K'.lst
    have X' : Stp c s₁ { s' with heap := h' } := by
      refine ⟨fun b o hb => ?_, K'.stp.gens, K'.stp.os⟩
      obtain ⟨o', h1, k1⟩ := K'.stp.heap b o hb
      exact ⟨o', oth b o' (fun e => by rw [e, young_back X₂ nC2] at hb; cases hb) h1, k1⟩
    refine ⟨acc, ob', ⟨_, vs, rfl, ⟨kD.L, kD.fr, fun p hp => (kD.g p hp).2, kD.a⟩, ⟨o, oth _ _ hCD ho, r'⟩, hvs⟩, ⟨K'.inv.but kC oth, m₀, Ns.but K'.ns kC.L.symm oth, fun w z hw => ?_⟩, X', hk⟩
    obtain ⟨q, q1, q2⟩ := hb w z hw
    exact ⟨q, q1, q2.stp X'⟩
  have e4 := hce C
  rw [show reScope (newEnv cs C c.env.globals cl c.env.qual none .none (some c.env) builtinsNs) sc' = ceOf C from e4]
  exact codeAny_compStart_list (loop _) (T.W.self 0 _ _ _ hS₅ (loop _))
theorem se_comp {elt src : E} {v : Nat} (he : SndE G O elt) (hs : SndE G O src) : SndE G O (.comp elt v src) := by
  intro c ok x h st s k I v'
  obtain ⟨y, px, it, cs, p, rfl, h1, h2, h3, ⟨f1, f2, f3⟩, h4⟩ := rep_comp h
  refine wpAny_ListComp f1 h4 f3 (hs.then ok h3 I v' fun z s₁ a st₁ hv I₁ S₁ v₁ => ?_) (fun _ => folded h3)
  obtain ⟨r, hr, hz, hc⟩ := v₁
  refine iter_run ok I₁ (StpX.refl s₁) hv hr fun J s₂ T e₂ => ?_
  obtain ⟨T⟩ := T
  refine comp_block (tr := VE G O elt) ok (ceOf := fun C => compEnv cs C c.env) f2 h4 (fun C => rfl) (fun C => rfl) (fun C hb hg => ok.comp h4 ok.glo rfl ok.blt hb hg) (fun C => h1) I₁ e₂ T hz
    (fun C kC x ob s k _ Ic vv => he _ (ok.comp (ce := compEnv cs C c.env) h4 ok.glo rfl ok.blt kC.big kC.g) y h2 _ s k Ic vv) hc
    (RR := fun acc ce r s' => ∃ m, s'.heap.Ns ce.locals m /\ ∀ h', Heap.SameBut ce.locals s'.heap h' -> match r with | .ok _ => PostE c s k acc { s' with heap := h' } | .error x => wpAny c.M c.A (passOn "comprehension.variables-let-go" x (reScope ce cs)) (PostE c s k) No { s' with heap := h' }) ?_
  rintro D ce s' ⟨m, hm, hh⟩
  refine ⟨m, hm, fun h' hsb => ?_⟩
  obtain ⟨acc, ob', q1, q2, q3, q4⟩ := hh h' hsb
  exact ⟨.strs acc, ⟨st₁.loc, ob'⟩, q1, q2, S₁.trans q3, q4⟩
end
noncomputable def E.plainT : E -> Bool
  | .not _ => false
  | .bop _ _ _ => false
  | .cmp _ _ _ => false
  | .ite _ _ _ => false
  | _ => true
noncomputable def plainX (x : Expr) : Bool := match x with
  | .UnaryOp .Not _ _ => false
  | .BoolOp .. => false
  | .Compare .. => false
  | .IfExp .. => false
  | _ => true
theorem plainX_of {sc : Scope} {e : E} {x : Expr} (h : e.plainT = true) : rep sc e x = true -> plainX x = true := by
  cases e with
  | «not» | bop | cmp | ite => exact nomatch h
  | neg1 => exact fun r => onUnaryOp_inv r fun o y p r => an2c r fun h0 _ => isUSub_inv h0 rfl
  | «none» | bool | «int» | «str» => exact fun r => onConstant_inv r fun _ _ _ _ => rfl
  | var | glob => exact fun r => onName_inv r fun _ _ _ => rfl
  | fld | cattr | amgOf => exact fun r => onAttribute_inv r fun _ _ _ _ => rfl
  | «bin» => exact fun r => onBinOp_inv r fun _ _ _ _ _ => rfl
  | idx | slice | sliceLo | sliceHi => exact fun r => onSubscript_inv r fun _ _ _ _ => rfl
  | len | ord | min | max | call0 | call1 | call2 | call3 | meth0 | meth1 | meth3 | ometh1 | endsw | join => exact fun r => onCall_inv r fun _ _ _ _ _ => rfl
  | «strs» | list2 => exact fun r => onList_inv r fun _ _ _ => rfl
  | «dict» => exact fun r => onDict_inv r fun _ _ _ _ => rfl
  | «comp» => exact fun r => onListComp_inv r fun _ _ _ _ _ => rfl
theorem plain_test {e : E} (h : e.plainT = true) (sc : Scope) (x : Expr) (env : Env) (wh : Sem Value) (r : rep sc e x = true) : isTrue x env wh = (do let v ← wh; standAt x.pos; holding [v] (truthy v)) := by
  have k := plainX_of h r
  clear h r
  cases x with
  | UnaryOp op y p => cases op with
    | Not => exact Bool.noConfusion k
    | _ => rfl
  | _ => first | rfl | exact Bool.noConfusion k
section
variable {O : Orc}
theorem SndE.both {e : E} (h : SndE Gst O e) (p : e.plainT = true) : SndE Gst O e /\ SndT Gst O e := ⟨h, h.test (plain_test p)⟩
theorem soundE (H : CallOk O) : ∀ e : E, SndE Gst O e /\ SndT Gst O e
  | .none => se_none.both rfl
  | .bool _ => se_bool.both rfl
  | .int _ => se_int.both rfl
  | .neg1 => se_neg1.both rfl
  | .str _ => se_str.both rfl
  | .var _ => se_var.both rfl
  | .fld _ => se_fld.both rfl
  | .cattr _ => se_cattr.both rfl
  | .glob _ => se_glob.both rfl
  | .amgOf _ _ => se_amgOf.both rfl
  | .bin _ a b => (se_bin (soundE H a).1 (soundE H b).1).both rfl
  | .cmp _ a b => ⟨se_cmp (soundE H a).1 (soundE H b).1, st_cmp (soundE H a).1 (soundE H b).1⟩
  | .bop _ a b => ⟨se_bop (soundE H a).1 (soundE H b).1, st_bop (soundE H a).2 (soundE H b).2⟩
  | .not a => ⟨se_not (soundE H a).1, st_not (soundE H a).2⟩
  | .ite t a b => ⟨se_ite (soundE H t).2 (soundE H a).1 (soundE H b).1, st_ite (soundE H t).2 (soundE H a).2 (soundE H b).2⟩
  | .idx a i => (se_idx (soundE H a).1 (soundE H i).1).both rfl
  | .slice a l h => (se_slice (soundE H a).1 (soundE H l).1 (soundE H h).1).both rfl
  | .sliceLo a l => (se_sliceLo (soundE H a).1 (soundE H l).1).both rfl
  | .sliceHi a h => (se_sliceHi (soundE H a).1 (soundE H h).1).both rfl
  | .len a => (se_len (soundE H a).1).both rfl
  | .ord a => (se_ord (soundE H a).1).both rfl
  | .min a b => (se_min (soundE H a).1 (soundE H b).1).both rfl
  | .max a b => (se_max (soundE H a).1 (soundE H b).1).both rfl
  | .call0 _ => (se_call0 H).both rfl
  | .call1 _ a => (se_call1 H (soundE H a).1).both rfl
  | .call2 _ a b => (se_call2 H (soundE H a).1 (soundE H b).1).both rfl
  | .call3 _ a b d => (se_call3 H (soundE H a).1 (soundE H b).1 (soundE H d).1).both rfl
  | .meth0 _ => (se_meth0 H).both rfl
  | .meth1 _ a => (se_meth1 H (soundE H a).1).both rfl
  | .meth3 _ a b d => (se_meth3 H (soundE H a).1 (soundE H b).1 (soundE H d).1).both rfl
  | .ometh1 _ _ a => (se_ometh1 H (soundE H a).1).both rfl
  | .endsw a b => (se_endsw (soundE H a).1 (soundE H b).1).both rfl
  | .strs _ => se_strs.both rfl
  | .dict _ => se_dict.both rfl
  | .list2 a b => (se_list2 (soundE H a).1 (soundE H b).1).both rfl
  | .comp e _ s => (se_comp (soundE H e).1 (soundE H s).1).both rfl
  | .join a => (se_join (soundE H a).1).both rfl
theorem soundS (H : CallOk O) (n : Nat) : (∀ a : S, SndS Gst O n a) /\ ∀ l : List S, SndL Gst O n l := by
  induction n using Nat.strongRecOn with
  | ind n ih =>
    cases n with
    | zero => exact ⟨fun a c ok own x h st s k I v => v.elim, fun a c ok own x h st s k I v => v.elim⟩
    | succ n =>
      have eE := fun e => (soundE H e).1
      have eT := fun e => (soundE H e).2
      have iS := (ih n (Nat.lt_succ_self n)).1
      have iL := (ih n (Nat.lt_succ_self n)).2
      have iB : ∀ a m, m < n + 1 -> SndL Gst O m a := fun a m hm => (ih m hm).2 a
      refine ⟨fun a => ?_, fun l => ?_⟩
      · cases a with
        | pass => exact ss_pass
        | asg v e => exact ss_asg (eE e)
        | asgF f e => exact ss_asgF (eE e)
        | aug v op e => exact ss_aug (eE e)
        | augF f op e => exact ss_augF (eE e)
        | ite t a b => exact ss_ite (eT t) (iL a) (iL b)
        | wh t a => exact ss_wh (eT t) (iB a)
        | forR v lo hi a => exact ss_forR (eE lo) (eE hi) (iB a)
        | forR1 v hi a => exact ss_forR1 (eE hi) (iB a)
        | forD v hi a => exact ss_forD (eE hi) (iB a)
        | forL v e a => exact ss_forL (eE e) (iB a)
        | tryE a j => exact ss_try (iL a)
        | raise j => exact ss_raise
        | ret e => exact ss_ret (eE e)
        | brk => exact ss_brk
        | cont => exact ss_cont
        | assert e => exact ss_assert (eT e)
        | ex e => exact ss_ex (eE e)
      · cases l with
        | nil => exact sl_nil
        | cons a r => exact sl_cons (iS a) (iL r)
end
noncomputable def fdAt (P : Params) (f : Nat) : FuncData := match (objAt P (fnA f)).data with | .func fd => fd | _ => default
noncomputable def fldsOf (o : Obj) : Array Value := match o.data with | .fields vs => vs | _ => #[]
noncomputable def codeB (P : Params) (f : Nat) : Bool :=
  isE (fdAt P f).code (.ref (tokV (fdAt P f).code)) (okAt P (tokV (fdAt P f).code) && (Nat.beq (objAt P (tokV (fdAt P f).code)).data.ctorIdx 9 &&
    isE ((fldsOf (objAt P (tokV (fdAt P f).code))).toList[1]?) (some (.str (fdAt P f).qualname (tokV (((fldsOf (objAt P (tokV (fdAt P f).code))).toList[1]?).getD .none)))) true))
theorem flds_of {o : Obj} (h : Nat.beq o.data.ctorIdx 9 = true) : o.data = .fields (fldsOf o) := by
  unfold fldsOf
  exact @Data.fields.elim (fun d => d = .fields (match d with | .fields vs => vs | _ => #[])) o.data (Nat.eq_of_beq_eq_true h) fun vs => rfl
theorem codeB_of {P : Params} {h : Heap} (L : Left P h) {f : Nat} (e : codeB P f = true) : h.CodeRec (fdAt P f).code (fdAt P f).qualname :=
  isE_inv e fun e0 e => an2c e fun h1 e => an2c e fun h2 e => isE_inv e fun e3 _ =>
    have ⟨k1, k2, k3⟩ := okAt_of h1
    ⟨_, _, _, _, e0, L _ k1 _ k2 k3, flds_of h2, (Array.getElem?_toList ..).symm.trans e3⟩
noncomputable def noCell (l : List (Str × NameKind)) : Bool := l.all fun x => match x.2 with | .cell => false | _ => true
theorem noCell_of {l : List (Str × NameKind)} (h : noCell l = true) : ∀ x ∈ l, x.2 ≠ .cell := fun x hx e => by
  have := List.all_eq_true.mp h x hx
  rw [e] at this; cases this
structure FnF (P : Params) (f : Nat) (ps : List Nat) (b : List S) : Prop where
  data : (objAt P (fnA f)).data = .func (fdAt P f)
  body : ∃ bd, (fdAt P f).body = .stmts bd /\ repL (fdAt P f).scope b bd = true
  kind : (fdAt P f).scope.kind = .function
  co : (fdAt P f).scope.isCoroutine = false
  gen : (fdAt P f).scope.isGenerator = false
  cell : noCell (fdAt P f).scope.names = true
  glo : (fdAt P f).globals = mainGlobals
  blt : (fdAt P f).builtins = builtinsNs
  code : codeB P f = true
  bind : ∀ vs : List Value, vs.length = ps.length -> bindArgs (fdAt P f) ⟨vs, []⟩ = pure ((ps.map nmS).zip vs)
  locs : ∀ n ∈ ps, (fdAt P f).scope.names.lookup (nmS n) = some .local
  nodup : ps.Nodup
theorem lookup_mem {α β : Type} [BEq α] [LawfulBEq α] {l : List (α × β)} (n : (l.map (·.1)).Nodup) {k : α} {v : β} (h : (k, v) ∈ l) : l.lookup k = some v := by
  induction l with
  | nil => cases h
  | cons p r ih =>
    obtain ⟨a, b⟩ := p
    rw [List.map_cons, List.nodup_cons] at n
    rw [List.lookup_cons]
    rcases List.mem_cons.mp h with e | h
    · cases e; simp
    · have : (k == a) = false := beq_eq_false_iff_ne.mpr fun e => n.1 (e ▸ List.mem_map_of_mem (f := (·.1)) h)
      rw [this]; exact ih n.2 h
set_option tactic.hygienic true in
theorem mem_lookup {α β : Type} [BEq α] [LawfulBEq α] {l : List (α × β)} {k : α} {v : β} (h : l.lookup k = some v) : (k, v) ∈ l := by
  induction l with
  | nil => cases h
  | cons p r ih =>
    obtain ⟨a, b⟩ := p
    rw [List.lookup_cons] at h
    split at h
    · rename_i e; cases h; rw [beq_iff_eq.mp e]; exact List.mem_cons_self ..
    · exact List.mem_cons_of_mem _ (ih h)
theorem zip_vals {c : Cx} {h : Heap} : ∀ {ps : List Nat} {ms : List MV} {vs : List Value}, valsAre c h ms vs -> ∀ {n x}, (n, x) ∈ ps.zip ms -> ∃ y, (nmS n, y) ∈ (ps.map nmS).zip vs /\ VR c h x y
  | [], _, _, _, _, _, hm => by simp at hm
  | _ :: _, [], _, _, _, _, hm => by simp at hm
  | p :: ps, m :: ms, [], hv, _, _, _ => hv.elim
  | p :: ps, m :: ms, v :: vs, ⟨a, b⟩, n, x, hm => by
    rw [List.zip_cons_cons] at hm
    rcases List.mem_cons.mp hm with e | hm
    · cases e; exact ⟨v, by rw [List.map_cons, List.zip_cons_cons]; exact List.mem_cons_self .., a⟩
    · obtain ⟨y, h1, h2⟩ := zip_vals b hm
      exact ⟨y, by rw [List.map_cons, List.zip_cons_cons]; exact List.mem_cons_of_mem _ h1, h2⟩
theorem vals_len {c : Cx} {h : Heap} : ∀ {ms : List MV} {vs : List Value}, valsAre c h ms vs -> vs.length = ms.length
  | [], [], _ => rfl
  | _ :: _, _ :: _, ⟨_, b⟩ => by rw [List.length_cons, List.length_cons, vals_len b]
theorem zip_keys {vs : List Value} : ∀ {ps : List Nat}, ps.Nodup -> (((ps.map nmS).zip vs).map (·.1)).Nodup := by
  intro ps hn
  have : (ps.map nmS).Nodup := List.Pairwise.map _ (fun a b h e => h (nm_inj a b e)) hn
  exact List.Nodup.sublist (by
    have : ∀ (l : List Str) (vs : List Value), ((l.zip vs).map (·.1)).Sublist l := by
      intro l
      induction l with
      | nil => intro vs; simp
      | cons a l ih => intro vs; cases vs with
        | nil => simp
        | cons v vs => rw [List.zip_cons_cons, List.map_cons]; exact (ih vs).cons_cons a
    exact this _ _) this
noncomputable def full (f : Nat) (args : List MV) : List MV := if 18 <= f then .obj :: args else args
noncomputable def endK (r : MV) (ob' : Option Ob) : Fl -> St -> Prop := fun fl st => st.ob = ob' /\ (fl = .ret r \/ (fl = .next /\ r = .none))
theorem nolimit {P : Params} {h : Heap} (L : Left P h) : h.NoLimit :=
  ⟨nsFind (dictAt P 2), ns_top L (a := 2) (by decide) (by kernel_rfl) (by kernel_rfl) (by kernel_rfl) (by kernel_rfl), by kernel_rfl⟩
noncomputable def Cx.call (c : Cx) (env : Env) (L : Addr) : Cx := { c with A := c.A.deeper env, env := env, L := L, fl := env :: c.fl, av := c.L :: c.av }
theorem VR.safeIn {c : Cx} {env : Env} {L : Addr} {s : Shared} (nL : s.heap.get? L = none) (hf : env.frame = some L) {a : Addr} {o : Obj} (sf : c.safe a) (ho : s.heap.get? a = some o) : (c.call env L).safe a := by
  have ne : a ≠ L := fun e => by rw [e, nL] at ho; cases ho
  refine ⟨ne, fun m => ?_, sf.2.2.1, fun m => ?_⟩
  · have m : a ∈ (env :: c.fl).filterMap (·.frame) := m
    rw [List.filterMap_cons, hf] at m
    rcases List.mem_cons.mp m with e | m
    · exact ne e
    · exact sf.2.1 m
  · rcases List.mem_cons.mp m with e | m
    · exact sf.1 e
    · exact sf.2.2.2 m
theorem VR.enter {c : Cx} {env : Env} {L : Addr} {s : Shared} (nL : s.heap.get? L = none) (hf : env.frame = some L) {m : MV} {v : Value} (r : VR c s.heap m v) : VR (c.call env L) s.heap m v := VR.map (fun _ e => e) (fun sf ho _ => ⟨VR.safeIn nL hf sf ho, ho⟩) r
theorem VR.safeOut {c : Cx} {env : Env} {L : Addr} (hf : env.frame = some L) {a : Addr} (sf : (c.call env L).safe a) : c.safe a :=
  ⟨fun e => sf.2.2.2 (e ▸ List.mem_cons_self ..), fun m => sf.2.1 (by
    show a ∈ (env :: c.fl).filterMap (·.frame)
    rw [List.filterMap_cons, hf]; exact List.mem_cons_of_mem _ m), sf.2.2.1, fun m => sf.2.2.2 (List.mem_cons_of_mem _ m)⟩
theorem VR.leave {c : Cx} {env : Env} {L : Addr} {h : Heap} (hf : env.frame = some L) {m : MV} {v : Value} (r : VR (c.call env L) h m v) : VR c h m v := VR.map (c := c.call env L) (fun _ e => e) (fun sf ho _ => ⟨VR.safeOut hf sf, ho⟩) r
theorem ObR.enter {c : Cx} {env : Env} {L : Addr} {h : Heap} {x dx : Addr} {o : Ob} : ObR (c.call env L) h x dx o ↔ ObR c h x dx o := by
  constructor
  · rintro ⟨h1, m, hn, a, b, d⟩
    refine ⟨h1, m, hn, fun f v hf hv => ?_, b, d⟩
    obtain ⟨y, p, q⟩ := a f v hf hv
    refine ⟨y, p, ?_⟩
    rcases Ob.get_plain hv with ⟨i, rfl⟩ | ⟨l, rfl⟩ <;> exact q
  · rintro ⟨h1, m, hn, a, b, d⟩
    refine ⟨h1, m, hn, fun f v hf hv => ?_, b, d⟩
    obtain ⟨y, p, q⟩ := a f v hf hv
    refine ⟨y, p, ?_⟩
    rcases Ob.get_plain hv with ⟨i, rfl⟩ | ⟨l, rfl⟩ <;> exact q
theorem ObI.enter {c : Cx} {env : Env} {L : Addr} {h : Heap} {ob : Option Ob} : ObI (c.call env L) h ob ↔ ObI c h ob := by
  rw [ObI_iff, ObI_iff]
  constructor
  · rintro (⟨a, b⟩ | ⟨p, o, a, b, d⟩)
    · exact .inl ⟨a, b⟩
    · exact .inr ⟨p, o, a, b, ObR.enter.mp d⟩
  · rintro (⟨a, b⟩ | ⟨p, o, a, b, d⟩)
    · exact .inl ⟨a, b⟩
    · exact .inr ⟨p, o, a, b, ObR.enter.mpr d⟩
theorem Cx.Ok.call {c : Cx} {lv f : Nat} (ok : c.Ok lv) (hf : f < lv) {st : St} {s : Shared} (I : Inv c st s) {env : Env} (h1 : env.frame = some s.heap.objs.size) (h2 : env.locals = s.heap.objs.size) (h3 : env.globals = mainGlobals) (h4 : env.builtins = builtinsNs) (h5 : env.scope.kind = .function) :
    (c.call env s.heap.objs.size).Ok f := by
  have hb := big_heap I.left
  have nL := size_none s.heap _ (Nat.le_refl _)
  have k := I.clear nL hb
  have d := ok.depth
  have u := ok.units
  have l := ok.le
  refine ⟨?_, ?_, ?_, by lia, ok.hand, h3, h2, h4, h5, fun a ha => ?_, hb, fun p hp => ?_, fun a ha => ?_⟩
  · show c.A.frames.map (env :: ·) = _
    rw [ok.frames]; rfl
  · show c.A.depth + 1 <= _
    lia
  · show c.A.units + 3 <= _
    lia
  · have ha : a ∈ (env :: c.fl).filterMap (·.frame) := ha
    rw [List.filterMap_cons, h1] at ha
    rcases List.mem_cons.mp ha with rfl | ha
    · exact hb
    · exact ok.hiF a ha
  · obtain ⟨a, b, d, _, _, e, f⟩ := ok.gx p hp
    have fr : ∀ x, x ≠ s.heap.objs.size -> x ∉ c.fr -> x ∉ (c.call env s.heap.objs.size).fr := fun x hx hn hm => by
      have hm : x ∈ (env :: c.fl).filterMap (·.frame) := hm
      rw [List.filterMap_cons, h1] at hm
      rcases List.mem_cons.mp hm with q | hm
      · exact hx q
      · exact hn hm
    exact ⟨a, b, d, (k.g p hp).1, (k.g p hp).2, fr _ (k.g p hp).1.symm e, fr _ (k.g p hp).2.symm f⟩
  · rcases List.mem_cons.mp ha with rfl | ha
    · exact ok.hiL
    · exact ok.hiA a ha
noncomputable def BodyOk (ans : Nat -> List MV -> Option Ob -> Option (MV × Option Ob)) (f : Nat) (ps : List Nat) (b : List S) : Prop :=
  ∀ args ob r ob', ans f args ob = some (r, ob') -> (full f args).length = ps.length /\ ∃ n, VL Gst ⟨f, ans⟩ n b ⟨ps.zip (full f args), ob⟩ (endK r ob')
theorem call_leave {c : Cx} {lv : Nat} (ok : c.Ok lv) {st : St} {s s₁ s₂ : Shared} (I : Inv c st s) {env : Env} (e1 : env.frame = some s.heap.objs.size) (ex : Ext s s₁) {st₂ : St} (I₂ : Inv (c.call env s.heap.objs.size) st₂ s₂) (S₂ : Stp (c.call env s.heap.objs.size) s₁ s₂) :
    Inv c { st with ob := st₂.ob } s₂ /\ Stp c s s₂ := by
  have nL := size_none s.heap _ (Nat.le_refl _)
  have S0 : Stp c s s₂ := by
    refine ⟨fun bb o hb => ?_, S₂.gens.trans ex.gens, S₂.os.trans ex.os⟩
    obtain ⟨o', h1, k1⟩ := S₂.heap bb o (ex.heap _ _ hb)
    refine ⟨o', h1, fun n1 n2 => ?_⟩
    obtain ⟨a1, a2⟩ := k1 (fun q => by rw [show bb = s.heap.objs.size from q, nL] at hb; cases hb) n2
    refine ⟨fun hn => a1 fun hm => ?_, fun hm => a2 ?_⟩
    · have hm : bb ∈ (env :: c.fl).filterMap (·.frame) := hm
      rw [List.filterMap_cons, e1] at hm
      rcases List.mem_cons.mp hm with q | hm
      · rw [q, nL] at hb; cases hb
      · exact hn hm
    · show bb ∈ (env :: c.fl).filterMap (·.frame)
      rw [List.filterMap_cons, e1]; exact List.mem_cons_of_mem _ hm
  refine ⟨⟨⟨I₂.left, ObI.enter.mp I₂.ob, fun e he => I₂.frs e (List.mem_cons_of_mem _ he), fun a ha => I₂.avs a (List.mem_cons_of_mem _ ha)⟩, ?_⟩, S0⟩
  obtain ⟨m, ⟨o, es, ep, ho, hd, rr⟩, hb⟩ := I.ns
  obtain ⟨o', h1, k1⟩ := S₂.heap _ o (ex.heap _ _ ho)
  have sd : o'.data = o.data := by
    obtain ⟨a1, a2⟩ := k1 (fun q => by rw [show c.L = s.heap.objs.size from q, nL] at ho; cases ho) (fun p hp q => by
      obtain ⟨_, _, _, _, e2, _⟩ := ok.gx p hp; exact e2 q)
    by_cases hm : c.L ∈ (c.call env s.heap.objs.size).fr
    · exact (a2 hm).data
    · rw [a1 hm]
  exact ⟨m, ⟨o', es, ep, h1, sd.trans hd, rr⟩, fun k x hx => let ⟨y, p, q⟩ := hb k x hx; ⟨y, p, q.stp S0⟩⟩
theorem fn_okC {ans : Nat -> List MV -> Option Ob -> Option (MV × Option Ob)} {f : Nat} {ps : List Nat} {b : List S} (hf40 : f < 40) (F : ∀ P, FnF P f ps b) (H : CallOk ⟨f, ans⟩) (V : BodyOk ans f ps b) {lv : Nat} (hf : f < lv) :
    ∀ (c : Cx), c.Ok lv -> ∀ (st : St) (s : Shared) (args : List MV) (vs first : List Value) (r : MV) (ob' : Option Ob), Inv c st s -> valsAre c s.heap args vs -> ans f args st.ob = some (r, ob') -> FirstOk c f first →
      codeAny c.M c.A (.call (.ref (fnA f)) ⟨first ++ vs, []⟩) (fun q s' => match q with | .ok (.ret v) => VR c s'.heap r v /\ Inv c { st with ob := ob' } s' /\ Stp c s s' | .ok _ => False | .error e => No e s') s := by
  intro c ok st s args vs first r ob' I hv ha hfirst
  obtain ⟨hlen, n, hV⟩ := V args st.ob r ob' ha
  have FF := F c.P
  obtain ⟨bd, hbd, hrep⟩ := FF.body
  have hall : valsAre c s.heap (full f args) (first ++ vs) := by
    unfold full
    by_cases h18 : 18 <= f
    · obtain ⟨p, hp, rfl⟩ := hfirst.1 h18
      rw [if_pos h18]
      exact ⟨⟨p, hp, rfl⟩, hv⟩
    · rw [hfirst.2 (by lia), if_neg h18]; exact hv
  have hvl : (first ++ vs).length = ps.length := by rw [vals_len hall, hlen]
  obtain ⟨o, fd, g1, g2, rfl⟩ := fn_func I.left hf40
  have nL := size_none s.heap _ (Nat.le_refl _)
  refine codeAny_call_def (fd := fdAt c.P f) (body := bd) (binds := (ps.map nmS).zip (first ++ vs)) ?_ g1 FF.data (nolimit I.left) (codeB_of I.left FF.code) hbd (BindsTo.of_eq (FF.bind _ hvl)) (noCell_of FF.cell) ?_ (fun h₀ hns keep => ?_) FF.co FF.gen FF.kind
  · have d := ok.depth
    have e : recursionLimit = 1000 := rfl
    lia
  · intro x hx
    have : x.1 ∈ ps.map nmS := (List.of_mem_zip (a := x.1) (b := x.2) hx).1
    obtain ⟨k, hk, e⟩ := List.mem_map.mp this
    rw [<- e]; exact FF.locs k hk
  · generalize henv : callEnv (fdAt c.P f) s.heap.objs.size (fnA f) = env
    have e1 : env.frame = some s.heap.objs.size := by rw [<- henv]; rfl
    have e2 : env.locals = s.heap.objs.size := by rw [<- henv]; rfl
    have e3 : env.globals = mainGlobals := by rw [<- henv]; exact FF.glo
    have e4 : env.builtins = builtinsNs := by rw [<- henv]; exact FF.blt
    have e5 : env.scope = (fdAt c.P f).scope := by rw [<- henv]; rfl
    have okc : (c.call env s.heap.objs.size).Ok f := ok.call hf I e1 e2 e3 e4 (by rw [e5]; exact FF.kind)
    have own : (c.call env s.heap.objs.size).Own := ⟨⟨c.fl, rfl⟩, e1⟩
    have ex : Ext s { s with heap := h₀, toks := s.toks + ((ps.map nmS).zip (first ++ vs)).length } := ⟨keep, rfl, rfl⟩
    generalize hs₁ : ({ s with heap := h₀, toks := s.toks + ((ps.map nmS).zip (first ++ vs)).length } : Shared) = s₁ at ex ⊢
    have hh : s₁.heap = h₀ := by rw [<- hs₁]
    have I₁ := I.ext ex
    have Ic : Inv (c.call env s.heap.objs.size) ⟨ps.zip (full f args), st.ob⟩ s₁ := by
      refine ⟨⟨I₁.left, ObI.enter.mpr I₁.ob, fun e he => ?_, fun a ha q => ?_⟩, _, by rw [hh]; exact hns, fun k x hx => ?_⟩
      · rcases List.mem_cons.mp he with rfl | he
        · obtain ⟨o, es, ep, ho, hd, _⟩ := hns
          exact ⟨(by rw [e5, FF.kind]; intro q; cases q), _, o, e1, by rw [hh]; exact ho, es, ep, hd⟩
        · exact I₁.frs e he
      · rcases List.mem_cons.mp ha with rfl | ha
        · obtain ⟨m, ⟨o, _, _, ho, _⟩, _⟩ := I₁.ns
          rw [ho] at q; cases q
        · exact I₁.avs a ha q
      · obtain ⟨y, h1, h2⟩ := zip_vals hall (mem_lookup hx)
        refine ⟨y, lookup_mem ?_ (List.mem_reverse.mpr h1), ?_⟩
        · rw [List.map_reverse]; exact List.pairwise_reverse.mpr ((zip_keys FF.nodup).imp fun h e => h e.symm)
        · have := VR.enter (env := env) nL e1 h2
          exact VR.ext ex this
    have run := (soundS H n).2 b (c.call env s.heap.objs.size) okc own bd (by rw [show (c.call env s.heap.objs.size).env.scope = (fdAt c.P f).scope from e5]; exact hrep) _ s₁ _ Ic hV
    refine wpAny_mono run (fun fl s₂ ⟨q, st₂, hq, I₂, S₂, hk⟩ => ?_) fun e s₂ ⟨e', j, st₂, _, _, _, _, _, hk⟩ => ?_
    · obtain ⟨hob, hk⟩ := hk
      obtain ⟨Iout, S0⟩ := call_leave ok I e1 ex I₂ S₂
      rw [hob] at Iout
      rcases hk with rfl | ⟨rfl, rfl⟩
      · cases fl <;> first | exact hq.elim | exact ⟨VR.leave e1 hq, Iout, S0⟩
      · cases fl <;> first | exact hq.elim | exact ⟨rfl, Iout, S0⟩
    · obtain ⟨_, hk | ⟨hk, _⟩⟩ := hk <;> cases hk
theorem fn_ok {ans : Nat -> List MV -> Option Ob -> Option (MV × Option Ob)} {f : Nat} {ps : List Nat} {b : List S} (hf40 : f < 40) (F : ∀ P, FnF P f ps b) (H : CallOk ⟨f, ans⟩) (V : BodyOk ans f ps b) {lv : Nat} (hf : f < lv) :
    ∀ (c : Cx), c.Ok lv -> ∀ (st : St) (s : Shared) (args : List MV) (vs first : List Value) (r : MV) (ob' : Option Ob), Inv c st s -> valsAre c s.heap args vs -> ans f args st.ob = some (r, ob') -> FirstOk c f first →
      wpAny c.M c.A (call (.ref (fnA f)) (first ++ vs)) (fun v s' => VR c s'.heap r v /\ Inv c { st with ob := ob' } s' /\ Stp c s s') No s :=
  fun c ok st s args vs first r ob' I hv ha hfirst => wpAny_runValue (fn_okC hf40 F H V hf c ok st s args vs first r ob' I hv ha hfirst)
structure FnH (P : Params) (f : Nat) (ps : List Nat) (b : List S) (stt : Stmt) : Prop where
  h1 : (objAt P (fnA f)).data = .func (fdAt P f)
  h2 : (fdAt P f).body = .stmts (dB stt)
  h3 : (fdAt P f).scope = dS stt
  h5 : (dS stt).kind = .function
  h6 : (dS stt).isCoroutine = false
  h7 : (dS stt).isGenerator = false
  h8 : noCell (dS stt).names = true
  h9 : (fdAt P f).globals = mainGlobals
  h10 : (fdAt P f).builtins = builtinsNs
  h11 : codeB P f = true
  h13 : (ps.all fun n => match (dS stt).names.lookup (nmS n) with | some .local => true | _ => false) = true
theorem FnF.of {P : Params} {f : Nat} {ps : List Nat} {b : List S} (stt : Stmt) (h4 : repL (dS stt) b (dB stt) = true) (h : FnH P f ps b stt)
    (h12 : ∀ vs : List Value, vs.length = ps.length -> bindArgs (fdAt P f) ⟨vs, []⟩ = pure ((ps.map nmS).zip vs)) (h14 : ps.Nodup) : FnF P f ps b :=
  ⟨h.h1, ⟨_, h.h2, by rw [h.h3]; exact h4⟩, by rw [h.h3]; exact h.h5, by rw [h.h3]; exact h.h6, by rw [h.h3]; exact h.h7, by rw [h.h3]; exact h.h8, h.h9, h.h10, h.h11, h12, (fun n hn => by
    have := List.all_eq_true.mp h.h13 n hn
    rw [h.h3]
    split at this
    · assumption
    · cases this), h14⟩
@[elab_as_elim] theorem len0 {C : List Value -> Prop} {vs : List Value} (h : vs.length = 0) (K : C []) : C vs := by cases vs with | nil => exact K | cons a r => exact nomatch h
@[elab_as_elim] theorem lenS {C : List Value -> Prop} {n : Nat} {vs : List Value} (h : vs.length = n + 1) (K : ∀ a r, r.length = n -> C (a :: r)) : C vs := by cases vs with | nil => exact nomatch h | cons a r => exact K a r (Nat.succ.inj h)
@[elab_as_elim] theorem len1 {C : List Value -> Prop} {vs : List Value} (h : vs.length = 1) (K : ∀ a, C [a]) : C vs := lenS h fun a r h => len0 h (K a)
@[elab_as_elim] theorem len2 {C : List Value -> Prop} {vs : List Value} (h : vs.length = 2) (K : ∀ a b, C [a, b]) : C vs := lenS h fun a r h => len1 h fun b => K a b
@[elab_as_elim] theorem len3 {C : List Value -> Prop} {vs : List Value} (h : vs.length = 3) (K : ∀ a b c, C [a, b, c]) : C vs := lenS h fun a r h => len2 h fun b c => K a b c
@[elab_as_elim] theorem len4 {C : List Value -> Prop} {vs : List Value} (h : vs.length = 4) (K : ∀ a b c d, C [a, b, c, d]) : C vs := lenS h fun a r h => len3 h fun b c d => K a b c d
theorem fnf0 (P : Params) : FnF P 0 [1] b0 := FnF.of (top 23) rep0 (by constructor <;> kernel_rfl) (fun vs h => len1 h fun a => by kernel_rfl) (by decide)
theorem fnf1 (P : Params) : FnF P 1 [] b1 := FnF.of (top 17) rep1 (by constructor <;> kernel_rfl) (fun vs h => len0 h (by kernel_rfl)) (by decide)
theorem fnf2 (P : Params) : FnF P 2 [] b2 := FnF.of (top 18) rep2 (by constructor <;> kernel_rfl) (fun vs h => len0 h (by kernel_rfl)) (by decide)
theorem fnf3 (P : Params) : FnF P 3 [] b3 := FnF.of (top 19) rep3 (by constructor <;> kernel_rfl) (fun vs h => len0 h (by kernel_rfl)) (by decide)
theorem fnf4 (P : Params) : FnF P 4 [] b4 := FnF.of (top 21) rep4 (by constructor <;> kernel_rfl) (fun vs h => len0 h (by kernel_rfl)) (by decide)
theorem fnf5 (P : Params) : FnF P 5 [] b5 := FnF.of (top 22) rep5 (by constructor <;> kernel_rfl) (fun vs h => len0 h (by kernel_rfl)) (by decide)
theorem fnf6 (P : Params) : FnF P 6 [] b6 := FnF.of (top 12) rep6 (by constructor <;> kernel_rfl) (fun vs h => len0 h (by kernel_rfl)) (by decide)
theorem fnf7 (P : Params) : FnF P 7 [4] b7 := FnF.of (top 24) rep7 (by constructor <;> kernel_rfl) (fun vs h => len1 h fun a => by kernel_rfl) (by decide)
theorem fnf8 (P : Params) : FnF P 8 [4, 3] b8 := FnF.of (top 25) rep8 (by constructor <;> kernel_rfl) (fun vs h => len2 h fun a b => by kernel_rfl) (by decide)
theorem fnf9 (P : Params) : FnF P 9 [4] b9 := FnF.of (top 26) rep9 (by constructor <;> kernel_rfl) (fun vs h => len1 h fun a => by kernel_rfl) (by decide)
theorem fnf10 (P : Params) : FnF P 10 [4, 3] b10 := FnF.of (top 27) rep10 (by constructor <;> kernel_rfl) (fun vs h => len2 h fun a b => by kernel_rfl) (by decide)
theorem fnf11 (P : Params) : FnF P 11 [4, 10] b11 := FnF.of (top 28) rep11 (by constructor <;> kernel_rfl) (fun vs h => len2 h fun a b => by kernel_rfl) (by decide)
theorem fnf12 (P : Params) : FnF P 12 [4, 12] b12 := FnF.of (top 29) rep12 (by constructor <;> kernel_rfl) (fun vs h => len2 h fun a b => by kernel_rfl) (by decide)
theorem fnf13 (P : Params) : FnF P 13 [4, 12] b13 := FnF.of (top 30) rep13 (by constructor <;> kernel_rfl) (fun vs h => len2 h fun a b => by kernel_rfl) (by decide)
theorem fnf14 (P : Params) : FnF P 14 [4, 12, 14] b14 := FnF.of (top 31) rep14 (by constructor <;> kernel_rfl) (fun vs h => len3 h fun a b c => by kernel_rfl) (by decide)
theorem fnf15 (P : Params) : FnF P 15 [4] b15 := FnF.of (top 32) rep15 (by constructor <;> kernel_rfl) (fun vs h => len1 h fun a => by kernel_rfl) (by decide)
theorem fnf16 (P : Params) : FnF P 16 [4] b16 := FnF.of (top 33) rep16 (by constructor <;> kernel_rfl) (fun vs h => len1 h fun a => by kernel_rfl) (by decide)
theorem fnf17 (P : Params) : FnF P 17 [20, 19] b17 := FnF.of (top 34) rep17 (by constructor <;> kernel_rfl) (fun vs h => len2 h fun a b => by kernel_rfl) (by decide)
theorem fnf18 (P : Params) : FnF P 18 [0, 21] b18 := FnF.of (sub 2 1) rep18 (by constructor <;> kernel_rfl) (fun vs h => len2 h fun a b => by kernel_rfl) (by decide)
theorem fnf19 (P : Params) : FnF P 19 [0] b19 := FnF.of (sub 2 2) rep19 (by constructor <;> kernel_rfl) (fun vs h => len1 h fun a => by kernel_rfl) (by decide)
theorem fnf20 (P : Params) : FnF P 20 [0, 22] b20 := FnF.of (sub 2 4) rep20 (by constructor <;> kernel_rfl) (fun vs h => len2 h fun a b => by kernel_rfl) (by decide)
theorem fnf21 (P : Params) : FnF P 21 [0, 22] b21 := FnF.of (sub 2 5) rep21 (by constructor <;> kernel_rfl) (fun vs h => len2 h fun a b => by kernel_rfl) (by decide)
theorem fnf22 (P : Params) : FnF P 22 [0, 22] b22 := FnF.of (sub 2 6) rep22 (by constructor <;> kernel_rfl) (fun vs h => len2 h fun a b => by kernel_rfl) (by decide)
theorem fnf23 (P : Params) : FnF P 23 [0, 22] b23 := FnF.of (sub 2 9) rep23 (by constructor <;> kernel_rfl) (fun vs h => len2 h fun a b => by kernel_rfl) (by decide)
theorem fnf24 (P : Params) : FnF P 24 [0, 22] b24 := FnF.of (sub 2 13) rep24 (by constructor <;> kernel_rfl) (fun vs h => len2 h fun a b => by kernel_rfl) (by decide)
theorem fnf25 (P : Params) : FnF P 25 [0, 25] b25 := FnF.of (sub 2 14) rep25 (by constructor <;> kernel_rfl) (fun vs h => len2 h fun a b => by kernel_rfl) (by decide)
theorem fnf26 (P : Params) : FnF P 26 [0, 25] b26 := FnF.of (sub 2 15) rep26 (by constructor <;> kernel_rfl) (fun vs h => len2 h fun a b => by kernel_rfl) (by decide)
theorem fnf27 (P : Params) : FnF P 27 [0, 38, 37, 22] b27 := FnF.of (sub 2 16) rep27 (by constructor <;> kernel_rfl) (fun vs h => len4 h fun a b c d => by kernel_rfl) (by decide)
theorem fnf28 (P : Params) : FnF P 28 [0, 22] b28 := FnF.of (sub 2 17) rep28 (by constructor <;> kernel_rfl) (fun vs h => len2 h fun a b => by kernel_rfl) (by decide)
theorem fnf29 (P : Params) : FnF P 29 [0] b29 := FnF.of (sub 2 18) rep29 (by constructor <;> kernel_rfl) (fun vs h => len1 h fun a => by kernel_rfl) (by decide)
theorem fnf30 (P : Params) : FnF P 30 [0] b30 := FnF.of (sub 6 9) rep30 (by constructor <;> kernel_rfl) (fun vs h => len1 h fun a => by kernel_rfl) (by decide)
theorem fnf31 (P : Params) : FnF P 31 [0] b31 := FnF.of (sub 6 10) rep31 (by constructor <;> kernel_rfl) (fun vs h => len1 h fun a => by kernel_rfl) (by decide)
theorem fnf32 (P : Params) : FnF P 32 [0] b32 := FnF.of (sub 6 6) rep32 (by constructor <;> kernel_rfl) (fun vs h => len1 h fun a => by kernel_rfl) (by decide)
theorem fnf33 (P : Params) : FnF P 33 [0] b33 := FnF.of (sub 6 7) rep33 (by constructor <;> kernel_rfl) (fun vs h => len1 h fun a => by kernel_rfl) (by decide)
theorem fnf34 (P : Params) : FnF P 34 [0] b34 := FnF.of (sub 6 8) rep34 (by constructor <;> kernel_rfl) (fun vs h => len1 h fun a => by kernel_rfl) (by decide)
theorem fnf35 (P : Params) : FnF P 35 [0] b35 := FnF.of (sub 6 11) rep35 (by constructor <;> kernel_rfl) (fun vs h => len1 h fun a => by kernel_rfl) (by decide)
theorem fnf36 (P : Params) : FnF P 36 [0] b36 := FnF.of (sub 6 12) rep36 (by constructor <;> kernel_rfl) (fun vs h => len1 h fun a => by kernel_rfl) (by decide)
theorem fnf37 (P : Params) : FnF P 37 [0, 4] b37 := FnF.of (sub 2 22) rep37 (by constructor <;> kernel_rfl) (fun vs h => len2 h fun a b => by kernel_rfl) (by decide)
theorem fnf39 (P : Params) : FnF P 39 [0] b39 := FnF.of (sub 2 0) rep39 (by constructor <;> kernel_rfl) (fun vs h => len1 h fun a => by kernel_rfl) (by decide)
noncomputable def Clause (ans : Nat -> List MV -> Option Ob -> Option (MV × Option Ob)) (f lv : Nat) : Prop :=
    ∀ (c : Cx), c.Ok lv -> ∀ (st : St) (s : Shared) (args : List MV) (vs first : List Value) (r : MV) (ob' : Option Ob), Inv c st s -> valsAre c s.heap args vs -> ans f args st.ob = some (r, ob') -> FirstOk c f first →
      wpAny c.M c.A (call (.ref (fnA f)) (first ++ vs)) (fun v s' => VR c s'.heap r v /\ Inv c { st with ob := ob' } s' /\ Stp c s s') No s
theorem callOk_all {ans : Nat -> List MV -> Option Ob -> Option (MV × Option Ob)} (K : ∀ f, f < 40 -> CallOk ⟨f, ans⟩ -> ∀ lv, f < lv -> Clause ans f lv) : ∀ lv, lv <= 40 -> CallOk ⟨lv, ans⟩ := by
  intro lv
  induction lv using Nat.strongRecOn with
  | ind lv ih =>
    intro hlv f hf c ok
    have hf : f < lv := hf
    exact K f (Nat.lt_of_lt_of_le hf hlv) (ih f hf (Nat.le_trans (Nat.le_of_lt hf) hlv)) lv hf c ok
noncomputable def csW : Scope := { kind := .function, names := [(sLit [46, 48], .local), (nmS 4, .local), (nmS 0, .free)], isGenerator := false, isCoroutine := false, more := [] }
noncomputable def eltW : Expr := .Call (.Attribute (.Name (nmS 0) ⟨201, 16, 201, 20⟩) (fnS 37) ⟨201, 16, 201, 29⟩) [.Name (nmS 4) ⟨201, 30, 201, 34⟩] [] ⟨201, 16, 201, 35⟩
noncomputable def compW : Expr := .ListComp eltW [⟨.Name (nmS 4) ⟨201, 40, 201, 44⟩, .Name (nmS 51) ⟨201, 48, 201, 53⟩, [], 0⟩] csW ⟨201, 15, 201, 54⟩
theorem sw_body : dB (sub 2 23) = [.Return (some compW) ⟨201, 8, 201, 54⟩] := by kernel_rfl
theorem sw_fd (P : Params) : (objAt P (fnA 38)).data = .func (fdAt P 38) /\ (fdAt P 38).body = .stmts (dB (sub 2 23)) /\ (fdAt P 38).scope = dS (sub 2 23) /\ (fdAt P 38).globals = mainGlobals /\ (fdAt P 38).builtins = builtinsNs /\ codeB P 38 = true /\ (fdAt P 38).closure = [] :=
  ⟨by kernel_rfl, by kernel_rfl, by kernel_rfl, by kernel_rfl, by kernel_rfl, by kernel_rfl, by kernel_rfl⟩
theorem sw_sc : (dS (sub 2 23)).kind = .function /\ (dS (sub 2 23)).isCoroutine = false /\ (dS (sub 2 23)).isGenerator = false /\ (dS (sub 2 23)).names = [(nmS 0, .cell), (nmS 51, .local)] := ⟨by kernel_rfl, by kernel_rfl, by kernel_rfl, by kernel_rfl⟩
theorem sw_bind (P : Params) (a b : Value) : bindArgs (fdAt P 38) ⟨[a, b], []⟩ = pure [(nmS 0, a), (nmS 51, b)] := by kernel_rfl
noncomputable def envW (P : Params) (L : Addr) : Env := callEnvC (fdAt P 38) L (fnA 38)
noncomputable def scW : Scope := { csW with names := [(sLit [46, 48], .local), (nmS 4, .local), (nmS 0, .cell)] }
theorem env_scope (P : Params) (L : Addr) : (envW P L).scope = dS (sub 2 23) := (sw_fd P).2.2.1
theorem env_kind (P : Params) (L : Addr) : (envW P L).scope.kind = .function := by rw [env_scope]; exact sw_sc.1
theorem env_names (P : Params) (L : Addr) : (envW P L).scope.names = [(nmS 0, .cell), (nmS 51, .local)] := by rw [env_scope]; exact sw_sc.2.2.2
theorem env_cells (P : Params) (L : Addr) : (envW P L).cells = [(nmS 0, L + 1)] := by
  show cellsFrom (L + 1) (fdAt P 38).scope.names [] = _
  rw [(sw_fd P).2.2.1, sw_sc.2.2.2]
  rfl
theorem kind0 (P : Params) (L : Addr) : (envW P L).kindOf (nmS 0) = some .cell := by
  show (envW P L).scope.names.lookup (nmS 0) = _
  rw [env_names]; kernel_rfl
theorem kind51 (P : Params) (L : Addr) : (envW P L).kindOf (nmS 51) = some .local := by
  show (envW P L).scope.names.lookup (nmS 51) = _
  rw [env_names]; kernel_rfl
theorem relabel_W (P : Params) (L : Addr) : relabel csW (envW P L) = scW := by
  unfold relabel
  rw [env_kind]
  show ({ csW with names := csW.names.map _ } : Scope) = _
  have e : csW.names = [(sLit [46, 48], .local), (nmS 4, .local), (nmS 0, .free)] := rfl
  rw [e]
  simp only [List.map_cons, List.map_nil, kind0]
  rfl
theorem clos_W (P : Params) (L : Addr) : closureFor csW (envW P L) = pure [(nmS 0, L + 1)] := by
  have h : cellOf (envW P L) (nmS 0) = pure (L + 1) := by
    unfold cellOf
    rw [env_cells]
    have : List.lookup (nmS 0) [(nmS 0, L + 1)] = some (L + 1) := by kernel_rfl
    rw [this]
  have e : csW.names = [(sLit [46, 48], .local), (nmS 4, .local), (nmS 0, .free)] := rfl
  simp only [closureFor, e, List.forIn_cons, List.forIn_nil, h]
  rfl
noncomputable def trW (O : Orc) (st : St) (k : MV -> St -> Prop) : Prop := ∃ x, st.loc.lookup 4 = some x /\ st.ob.isSome = true /\ callM O 37 [x] st k
noncomputable def StWOk (ans : Nat -> List MV -> Option Ob -> Option (MV × Option Ob)) : Prop := ∀ args ob r ob', ans 38 args ob = some (r, ob') →
  ∃ l, args = [.strs l] /\ l.length <= limS /\ compL (trW ⟨38, ans⟩) 4 (l.map .str) [] ob fun acc o => r = .strs acc /\ ob' = o
noncomputable def ceW (P : Params) (L C : Addr) : Env := reScope (newEnv csW C (envW P L).globals [(nmS 0, L + 1)] (envW P L).qual none .none (some (envW P L)) builtinsNs) scW
theorem locW0 : isLoc scW (nmS 4) = true := by kernel_rfl
theorem locW1 (P : Params) (L : Addr) : locName (envW P L).scope 51 (.Name (nmS 51) ⟨201, 48, 201, 53⟩) = true := by
  show (nmS 51 == nmS 51 && isLoc (envW P L).scope (nmS 51)) = true
  rw [env_scope]
  kernel_rfl
theorem nm_dbg : (nmS 0 == ("__debug__" : Str)) = false := by decide +kernel
theorem elt_W {ans : Nat -> List MV -> Option Ob -> Option (MV × Option Ob)} (H : CallOk ⟨38, ans⟩) {c : Cx} (ok : c.Ok 38) (hs : c.env.scope = scW) {X : Addr} (hX : c.env.cells = [(nmS 0, X)]) {p : Addr × Addr} (hp : c.g = some p) {x : MV} {ob : Option Ob} {s : Shared}
    (hc : s.heap.IsCell X (some (.ref p.1))) (I : Inv c ⟨[(4, x)], ob⟩ s) {k : MV -> St -> Prop} (v : trW ⟨38, ans⟩ ⟨[(4, x)], ob⟩ k) : wpAny c.M c.A (eval eltW c.env) (PostE c s k) No s := by
  obtain ⟨x', hx', hob, v⟩ := v
  cases hx'
  have hrep : rep c.env.scope (.var 4) (.Name (nmS 4) ⟨201, 30, 201, 34⟩) = true := by rw [hs]; kernel_rfl
  have hl0 : c.env.kindOf (nmS 0) = some .cell := by
    show c.env.scope.names.lookup (nmS 0) = _
    rw [hs]; kernel_rfl
  have hb1 := back1 (env := c.env) (pos := ⟨201, 16, 201, 35⟩) hrep
  refine meth_run (Q := PostE c s k) (E := No) (o := .Name (nmS 0) ⟨201, 16, 201, 20⟩) rfl rfl (by rw [hb1]; rfl) (wpAny_Name (wpAny_loadName_cell ok.kind hl0 (by rw [hX]; kernel_rfl) hc fun pl => ?_) nm_dbg)
  refine mth_run I.toInv0 hp (by decide) (by decide) hob ?_
  rw [hb1]
  exact call_go (O := ⟨38, ans⟩) H ok (by decide) (first_mth (by decide) hp) (args_cons (G := Gst) (O := ⟨38, ans⟩) ok se_var hrep I (kk := fun y st => callM ⟨38, ans⟩ 37 [y] st k) ⟨x, rfl, v⟩ fun y st s' I v => args0 I v) (fun e => by cases e) (by simp)
set_option tactic.hygienic true in
set_option maxHeartbeats 4000000 in
theorem stw_ok {ans : Nat -> List MV -> Option Ob -> Option (MV × Option Ob)} (H : CallOk ⟨38, ans⟩) (V : StWOk ans) {lv : Nat} (hf : 38 < lv) : Clause ans 38 lv := by
  intro c ok st s args vs first r ob' I hv ha hfirst
  obtain ⟨l, rfl, hl, hc⟩ := V args st.ob r ob' ha
  obtain ⟨p, hp, rfl⟩ := hfirst.1 (by decide)
  obtain ⟨v, rfl, hv1⟩ : ∃ v, vs = [v] /\ VR c s.heap (.strs l) v := by
    cases vs with
    | nil => exact hv.elim
    | cons v q => cases q with
      | nil => exact ⟨v, rfl, hv.1⟩
      | cons _ _ => exact hv.2.elim
  obtain ⟨o, fd, g1, g2, rfl⟩ := fn_func I.left (f := 38) (by decide)
  obtain ⟨F1, F2, F3, F4, F5, F6, F7⟩ := sw_fd c.P
  have nL := size_none s.heap _ (Nat.le_refl _)
  have nX := size_none s.heap (s.heap.objs.size + 1) (Nat.le_succ _)
  have hbig := big_heap I.left
  refine wpAny_runValue (codeAny_call_cells (fd := fdAt c.P 38) (body := dB (sub 2 23)) (binds := [(nmS 0, .ref p.1), (nmS 51, v)]) ?_ g1 F1 (nolimit I.left) (codeB_of I.left F6) F2 (sw_bind _ _ _) F7 ?_ (fun s₁ x => ?_) (by rw [F3]; exact sw_sc.2.1) (by rw [F3]; exact sw_sc.2.2.1) (by rw [F3]; exact sw_sc.1))
  · have d := ok.depth
    have e : recursionLimit = 1000 := rfl
    lia
  · intro y hy
    rw [F3, sw_sc.2.2.2]
    simp only [List.mem_cons, List.not_mem_nil, or_false] at hy
    rcases hy with rfl | rfl
    · exact .inr ⟨by kernel_rfl, by kernel_rfl⟩
    · exact .inl (by kernel_rfl)
  · change InCallC s (envW c.P s.heap.objs.size).locals (bindL (envW c.P s.heap.objs.size).kindOf _ fun _ => none) (envW c.P s.heap.objs.size).cells (bindC (envW c.P s.heap.objs.size).kindOf _ fun _ => none) s₁ at x
    show wpAny _ (c.A.deeper (envW c.P s.heap.objs.size)) (execs (dB (sub 2 23)) (envW c.P s.heap.objs.size)) _ (fun e s' => wpAny _ (c.A.deeper (envW c.P s.heap.objs.size)) (leaving (envW c.P s.heap.objs.size) e) _ _ s') s₁
    generalize hL : s.heap.objs.size = L at x nL nX hbig ⊢
    have e1 : (envW c.P L).frame = some L := rfl
    have e2 : (envW c.P L).locals = L := rfl
    have e3 : (envW c.P L).globals = mainGlobals := F4
    have e4 : (envW c.P L).builtins = builtinsNs := F5
    have okc : (c.call (envW c.P L) L).Ok 38 := by
      have := ok.call hf I (env := envW c.P L) (by rw [hL]; exact e1) (by rw [hL]; exact e2) e3 e4 (env_kind _ _)
      rw [hL] at this; exact this
    obtain ⟨h₁, tk, hs1⟩ := x.toInCall.same
    have ex : Ext s s₁ := ⟨x.toInCall.keep, by rw [hs1], by rw [hs1]⟩
    have I₁ := I.ext ex
    have kX : Clear c (L + 1) := I.clear nX (Nat.le_succ_of_le hbig)
    have hcell : s₁.heap.IsCell (L + 1) (some (.ref p.1)) := by
      have := x.cell (nmS 0) (L + 1) (by rw [env_cells]; kernel_rfl)
      have e : bindC (envW c.P L).kindOf [(nmS 0, .ref p.1), (nmS 51, v)] (fun _ => none) (nmS 0) = some (.ref p.1) := by
        unfold bindC
        rw [if_neg (by rw [kind0]; decide)]
        unfold bindC
        rw [if_pos (kind51 _ _)]
        unfold bindC
        show (if nmS 0 = nmS 0 then some (Value.ref p.1) else none) = some (.ref p.1)
        rw [if_pos rfl]
      rw [e] at this; exact this
    have hm51 : bindL (envW c.P L).kindOf [(nmS 0, .ref p.1), (nmS 51, v)] (fun _ => none) (nmS 51) = some v := by
      unfold bindL
      rw [if_neg (by rw [kind0]; decide)]
      unfold bindL
      rw [if_pos (kind51 _ _)]
      unfold bindL
      show (if nmS 51 = nmS 51 then some v else none) = some v
      rw [if_pos rfl]
    have Ic : Inv (c.call (envW c.P L) L) ⟨[(51, .strs l)], st.ob⟩ s₁ := by
      refine ⟨⟨I₁.left, ObI.enter.mpr I₁.ob, fun e he => ?_, fun a ha q => ?_⟩, _, x.toInCall.ns, fun k y hy => ?_⟩
      · rcases List.mem_cons.mp he with rfl | he
        · obtain ⟨o, es, ep, ho, hd, _⟩ := x.toInCall.ns
          exact ⟨(by rw [env_kind]; intro q; cases q), _, o, e1, ho, es, ep, hd⟩
        · exact I₁.frs e he
      · rcases List.mem_cons.mp ha with rfl | ha
        · obtain ⟨m, ⟨o, _, _, ho, _⟩, _⟩ := I₁.ns
          rw [ho] at q; cases q
        · exact I₁.avs a ha q
      · rw [List.lookup_cons] at hy
        split at hy
        · rename_i e
          have := beq_iff_eq.mp e; subst this
          cases hy
          exact ⟨v, hm51, VR.ext ex (VR.enter nL e1 hv1)⟩
        · cases hy
    have run : wpAny c.M (c.A.deeper (envW c.P L)) (eval compW (envW c.P L)) (fun z s₂ => ∃ acc ob₂, VR (c.call (envW c.P L) L) s₂.heap (.strs acc) z /\ Inv (c.call (envW c.P L) L) ⟨[(51, .strs l)], ob₂⟩ s₂ /\ Stp (c.call (envW c.P L) L) s₁ s₂ /\ r = .strs acc /\ ob' = ob₂) No s₁ := by
      unfold compW
      rw [eval_ListComp]
      refine wpAny_comprehension_free (use := none) rfl (fun _ => rfl) (clos_W _ _) rfl ?_ (ld_loc okc (locW1 _ _) Ic (a := .strs l) rfl fun z hz => ?_)
      · intro y hy
        have e : csW.names = [(sLit [46, 48], .local), (nmS 4, .local), (nmS 0, .free)] := rfl
        rw [e] at hy ⊢
        simp only [List.mem_cons, List.not_mem_nil, or_false] at hy
        rcases hy with rfl | rfl | rfl
        · intro _; kernel_rfl
        · intro _; kernel_rfl
        · intro q; cases q
      · refine iter_run okc Ic (StpX.refl s₁) hz rfl fun J s₂ T e₂ => ?_
        obtain ⟨T⟩ := T
        rw [relabel_W]
        refine comp_block (O := ⟨38, ans⟩) (c := c.call (envW c.P L) L) (tr := trW ⟨38, ans⟩) (kk := fun acc o => r = .strs acc /\ ob' = o) okc (v := 4) (cl := [(nmS 0, L + 1)]) (sc' := scW) (ceOf := ceW c.P L)
          ?_ rfl (fun C => rfl) (fun C => rfl) (fun C hb hg => okc.comp rfl e3 rfl e4 hb hg) (fun C => locW0) Ic e₂ T (by rw [List.length_map]; exact hl)
          (fun C kC y ob s₃ k S₃ I₃ vv => ?_) hc (RR := fun acc ce => compPost c.M (c.A.deeper (envW c.P L)) No none _ acc ce.locals) ?_
        · intro y hy
          have e : csW.names = [(sLit [46, 48], .local), (nmS 4, .local), (nmS 0, .free)] := rfl
          rw [e] at hy
          simp only [List.mem_cons, List.not_mem_nil, or_false] at hy
          rcases hy with rfl | rfl | rfl <;> intro q <;> cases q
        · have sfX : (c.call (envW c.P L) L).safe (L + 1) := ⟨Nat.succ_ne_self L, fun m => by
            have m : L + 1 ∈ (envW c.P L :: c.fl).filterMap (·.frame) := m
            rw [List.filterMap_cons, e1] at m
            rcases List.mem_cons.mp m with e | m
            · exact Nat.succ_ne_self L e
            · exact kX.fr m, fun q hq => (kX.g q hq).2, fun m => by
            rcases List.mem_cons.mp m with e | m
            · exact kX.L e
            · exact kX.a m⟩
          obtain ⟨oX, hoX, hdX⟩ := hcell
          exact elt_W (c := (c.call (envW c.P L) L).comp (ceW c.P L C) C) H (okc.comp rfl e3 rfl e4 kC.big kC.g) rfl rfl (p := p) hp ⟨oX, S₃.safe sfX hoX, hdX⟩ I₃ vv
        · rintro D ce s' ⟨m, hm, hh⟩
          refine ⟨m, hm, fun h' hsb => ?_⟩
          obtain ⟨acc, ob₂, q1, q2, q3, q4⟩ := hh h' hsb
          exact ⟨acc, ob₂, q1, q2, q3, q4⟩
    rw [sw_body]
    refine wpAny_execs_cons (wpAny_Return_some (wpAny_mono run (fun z s₂ ⟨acc, ob₂, q1, I₂, S₂, q4, q5⟩ => ?_) fun _ _ z => z.elim))
    subst q4 q5
    obtain ⟨Iout, S0⟩ := call_leave ok I (env := envW c.P L) (by rw [hL]; exact e1) ex (by rw [hL]; exact I₂) (by rw [hL]; exact S₂)
    exact ⟨VR.leave e1 q1, Iout, S0⟩
theorem has_int {R : WRecords} {x : WData} (h : WShape.has R x .int = true) : ∃ i, x = .int i := by
  cases x <;> first | exact ⟨_, rfl⟩ | exact Bool.noConfusion h
theorem has_ints {R : WRecords} : ∀ {xs : List WData}, WShape.hasItems R xs .int = true -> ∃ l : List Int, xs = l.map .int
  | [], _ => ⟨[], rfl⟩
  | x :: xs, h => by
    have h : (WShape.has R x .int && WShape.hasItems R xs .int) = true := h
    obtain ⟨h1, h2⟩ := Bool.and_eq_true_iff.mp h
    obtain ⟨i, rfl⟩ := has_int h1
    obtain ⟨l, rfl⟩ := has_ints h2
    exact ⟨i :: l, rfl⟩
theorem has_list {R : WRecords} {x : WData} (h : WShape.has R x (.list .int) = true) : ∃ l : List Int, x = .list (l.map .int) := by
  cases x with
  | list xs =>
    have h : (WShape.hasItems R xs .int || false) = true := h
    obtain ⟨l, rfl⟩ := has_ints (by rw [Bool.or_false] at h; exact h)
    exact ⟨l, rfl⟩
  | _ => exact Bool.noConfusion h
theorem script_of {args : List WData} (h : lw.row.toRowW.claim.pre args = true) : ∃ l : List Int, args = [.list (l.map .int)] /\ l.length <= 63 := by
  obtain ⟨h1, h2⟩ := pre_splitW h
  have h1 : WShape.hasAll [] args [.list .int] = true := h1
  match args, h1 with
  | [], h1 => exact Bool.noConfusion h1
  | [x], h1 =>
    have h1 : (WShape.has [] x (.list .int) && true) = true := h1
    obtain ⟨l, rfl⟩ := has_list (Bool.and_eq_true_iff.mp h1).1
    refine ⟨l, rfl, ?_⟩
    have h2 : WTm.holds [] (.and (.not (.lt (.lit (.int 63)) (.len (.arg 0)))) (.lit (.bool true))) { args := [.list (l.map .int)] } = true := h2
    by_cases q : l.length <= 63
    · exact q
    · exfalso
      have a : WTm.value [] (.not (.lt (.lit (.int 63)) (.len (.arg 0)))) { args := [.list (l.map .int)] } = some (.bool false) := by
        show some (WData.bool (!(decide ((63 : Int) < ((l.map WData.int).length : Int))))) = _
        rw [decide_eq_true (by rw [List.length_map]; lia)]; rfl
      have h2 : (match (match WTm.value [] (.not (.lt (.lit (.int 63)) (.len (.arg 0)))) { args := [.list (l.map .int)] } with
        | some (.bool false) => some (WData.bool false)
        | some (.bool true) => (match WTm.value [] (.lit (.bool true)) { args := [.list (l.map .int)] } with
          | some (.bool x) => some (.bool x)
          | _ => none)
        | _ => none) with
        | some (.bool true) => true
        | _ => false) = true := h2
      rw [a] at h2; exact Bool.noConfusion h2
  | x :: y :: r, h1 => exact Bool.noConfusion (Bool.and_eq_true_iff.mp (show (WShape.has [] x (.list .int) && false) = true from h1)).2
noncomputable def s1L : S := .asg 4 (.call2 17 (.sliceHi (.var 52) (.int 20)) (.int 20))
noncomputable def s2L : S := .asg 53 (.list2 (.call2 17 (.slice (.var 52) (.int 20) (.int 28)) (.int 8)) (.sliceHi (.var 4) (.int 4)))
noncomputable def b40 : List S := [.ite (.cmp .ne (.ometh1 54 37 (.var 4)) (.call1 16 (.var 4))) [.ret (.bool false)] [], .ret (.cmp .eq (.ometh1 54 38 (.var 53)) (.comp (.call1 16 (.var 55)) 55 (.var 53)))]
noncomputable def gName : Expr := .Name (sLit [71, 101, 114, 109, 97, 110, 83, 116, 101, 109, 109, 101, 114]) ⟨688, 14, 688, 27⟩
noncomputable def mkE : Expr := .Call gName [] [] ⟨688, 14, 688, 29⟩
noncomputable def mkS : Stmt := .Assign [.Name (nmS 54) ⟨688, 4, 688, 11⟩] mkE ⟨688, 4, 688, 29⟩
noncomputable def lawX (i : Nat) : Stmt := ((dB (top 35))[i]?).getD (.Pass ⟨0, 0, 0, 0⟩)
theorem law_body : dB (top 35) = lawX 0 :: lawX 1 :: mkS :: [lawX 3, lawX 4] := by kernel_rfl
theorem rep_s1 : repS (dS (top 35)) s1L (lawX 0) = true := by kernel_rfl
theorem rep_s2 : repS (dS (top 35)) s2L (lawX 1) = true := by kernel_rfl
theorem rep_40 : repL (dS (top 35)) b40 [lawX 3, lawX 4] = true := by kernel_rfl
theorem rep_G : glbName (dS (top 35)) (sLit [71, 101, 114, 109, 97, 110, 83, 116, 101, 109, 109, 101, 114]) gName = true := by kernel_rfl
theorem loc54 : isLoc (dS (top 35)) (nmS 54) = true := by kernel_rfl
noncomputable def fdL (P : Params) : FuncData := match (objAt P 606).data with | .func fd => fd | _ => default
theorem law_fd (P : Params) : (objAt P 606).data = .func (fdL P) /\ (fdL P).body = .stmts (dB (top 35)) /\ (fdL P).scope = dS (top 35) /\ (fdL P).globals = mainGlobals /\ (fdL P).builtins = builtinsNs :=
  ⟨by kernel_rfl, by kernel_rfl, by kernel_rfl, by kernel_rfl, by kernel_rfl⟩
theorem law_sc : (dS (top 35)).kind = .function /\ (dS (top 35)).isCoroutine = false /\ (dS (top 35)).isGenerator = false /\ noCell (dS (top 35)).names = true /\ (dS (top 35)).names.lookup (nmS 52) = some .local := ⟨by kernel_rfl, by kernel_rfl, by kernel_rfl, by kernel_rfl, by kernel_rfl⟩
theorem law_bind (P : Params) (v : Value) : bindArgs (fdL P) ⟨[v], []⟩ = pure [(nmS 52, v)] := by kernel_rfl
theorem law_at (P : Params) : okAt P 606 = true := by kernel_rfl
theorem law_glb (P : Params) : nsFind (dictAt P 3) (PySem.Str.ofString "law") = some (.ref 606) := by kernel_rfl
theorem mk_ok (P : Params) : makesIn (KF P) 431 = true := by kernel_rfl
theorem mk_init (P : Params) : findIn (KF P) (.ref 431) "__init__" = some (some (.ref (fnA 39))) := by kernel_rfl
theorem mk_typ (P : Params) : typeIn (KF P) (.ref (fnA 39)) = some (.type "function") := by kernel_rfl
theorem mk_keep (P : Params) : keepIn (KF P) (.ref 431) = true := by kernel_rfl
noncomputable def Cx.re (c : Cx) (A : Around) (g : Option (Addr × Addr)) : Cx := { c with A := A, g := g }
theorem VR.reSafe {c : Cx} {A : Around} {g : Option (Addr × Addr)} {h : Heap} (h2 : ∀ p, g = some p -> c.g = some p \/ h.get? p.2 = none) {a : Addr} {o : Obj} (sf : c.safe a) (ho : h.get? a = some o) : (c.re A g).safe a :=
  ⟨sf.1, sf.2.1, (fun p hp e => by
    rcases h2 p hp with q | q
    · exact sf.2.2.1 p q e
    · rw [e, q] at ho; cases ho), sf.2.2.2⟩
theorem VR.re {c : Cx} {A : Around} {g : Option (Addr × Addr)} {h : Heap} (h1 : ∀ p, c.g = some p -> g = some p) (h2 : ∀ p, g = some p -> c.g = some p \/ h.get? p.2 = none) {m : MV} {v : Value} (r : VR c h m v) : VR (c.re A g) h m v := VR.map h1 (fun sf ho _ => ⟨VR.reSafe h2 sf ho, ho⟩) r
theorem ObI.re {c : Cx} {A : Around} {h : Heap} {ob : Option Ob} (x : ObI c h ob) : ObI (c.re A c.g) h ob := by
  rw [ObI_iff] at *
  rcases x with ⟨a, b⟩ | ⟨p, o, a, b, ⟨h1, m, hn, a', b', d⟩⟩
  · exact .inl ⟨a, b⟩
  · refine .inr ⟨p, o, a, b, ⟨h1, m, hn, fun f v hf hv => ?_, b', d⟩⟩
    obtain ⟨y, p, q⟩ := a' f v hf hv
    refine ⟨y, p, ?_⟩
    rcases Ob.get_plain hv with ⟨i, rfl⟩ | ⟨l, rfl⟩ <;> exact q
theorem Inv.re {c : Cx} {A : Around} {st : St} {s : Shared} (I : Inv c st s) : Inv (c.re A c.g) st s :=
  ⟨⟨I.left, I.ob.re, I.frs, I.avs⟩, let ⟨m, a, b⟩ := I.ns; ⟨m, a, fun v x hv => let ⟨y, p, q⟩ := b v x hv; ⟨y, p, VR.re (fun _ e => e) (fun _ e => .inl e) q⟩⟩⟩
noncomputable def ob0 : Ob := ⟨none, none, none, none, none, none, 0, 0⟩
theorem Inv.made {c : Cx} {A : Around} {st : St} {s : Shared} (I : Inv c st s) (hg : c.g = none) {tk : Nat} :
    Inv (c.re A (some (s.heap.objs.size + 1, s.heap.objs.size))) ⟨st.loc, some ob0⟩ { s with heap := (s.heap.push emptyDict).push (instObj 431 s.heap.objs.size), toks := tk } := by
  have nD := size_none s.heap _ (Nat.le_refl _)
  have ex : Ext s { s with heap := (s.heap.push emptyDict).push (instObj 431 s.heap.objs.size), toks := tk } := ⟨fun b o e => Heap.get?_push_of_some _ (Heap.get?_push_of_some _ e), rfl, rfl⟩
  have I₁ := I.ext ex
  have hx : ((s.heap.push emptyDict).push (instObj 431 s.heap.objs.size)).get? (s.heap.objs.size + 1) = some (instObj 431 s.heap.objs.size) := by heap_get
  have hd : ((s.heap.push emptyDict).push (instObj 431 s.heap.objs.size)).get? s.heap.objs.size = some emptyDict := by heap_get
  refine ⟨⟨I₁.left, ?_, I₁.frs, I₁.avs⟩, ?_⟩
  · rw [ObI_iff]
    refine .inr ⟨_, ob0, rfl, rfl, hx, fun _ => none, ?_, fun f v hf hv => ?_, fun f hf => ?_, fun n v e => by cases e⟩
    · exact Heap.Ns1.of_empty ⟨emptyDict, #[], 0, hd, rfl, fun e he => by simp at he, fun n => rfl⟩
    · exfalso
      match f, hf with
      | 0, _ => cases hv
      | 1, _ => cases hv
      | 2, _ => cases hv
      | 3, _ => cases hv
      | 4, _ => cases hv
      | 5, _ => cases hv
    · rcases hf with rfl | rfl
      · exact .inl ⟨rfl, rfl⟩
      · exact .inl ⟨rfl, rfl⟩
  · obtain ⟨m, a, b⟩ := I.ns
    refine ⟨m, ex.ns a, fun v x hv => ?_⟩
    obtain ⟨y, p, q⟩ := b v x hv
    exact ⟨y, p, VR.ext ex (VR.re (fun _ e => by rw [hg] at e; cases e) (fun p hp => by cases hp; exact .inr nD) q)⟩
noncomputable def LawOk (ans : Nat -> List MV -> Option Ob -> Option (MV × Option Ob)) : Prop := ∀ script : List Int, script.length <= 63 -> ∃ w row ob1,
  (∃ n, VS Gst ⟨40, ans⟩ n s1L ⟨[(52, .ints script)], none⟩ fun fl st => fl = .next /\ st = ⟨[(52, .ints script), (4, .str w)], none⟩) ∧
  (∃ n, VS Gst ⟨40, ans⟩ n s2L ⟨[(52, .ints script), (4, .str w)], none⟩ fun fl st => fl = .next /\ st = ⟨[(52, .ints script), (4, .str w), (53, .strs row)], none⟩) ∧
  ans 39 [] (some ob0) = some (.none, some ob1) ∧
  ∃ n, VL Gst ⟨40, ans⟩ n b40 ⟨[(52, .ints script), (4, .str w), (53, .strs row), (54, .obj)], some ob1⟩ fun fl _ => fl = .ret (.bool true)
theorem ints_reads {R : WRecords} {cl : Str -> Option Addr} {h : Heap} : ∀ {l : List Int} {vs : List Value} {as : List Addr}, ReadsAllW R cl h vs (l.map .int) as -> intsAre l vs
  | [], _, _, .nil => trivial
  | i :: l, _, _, h => by
    cases h with
    | cons r1 r2 =>
      cases r1
      exact ⟨⟨_, rfl⟩, ints_reads r2⟩
theorem Ns_eq {h : Heap} {a : Addr} {m m' : Str -> Option Value} (x : h.Ns a m) (y : h.Ns a m') (n : Str) : m n = m' n := by
  obtain ⟨o, es, ep, h1, h2, h3, h4⟩ := x
  obtain ⟨o', es', ep', k1, k2, k3, k4⟩ := y
  rw [h1] at k1; cases k1
  rw [h2] at k2; cases k2
  rw [<- h4, <- k4]
theorem make_run {ans : Nat -> List MV -> Option Ob -> Option (MV × Option Ob)} (H39 : CallOk ⟨39, ans⟩) (V39 : BodyOk ans 39 [0] b39) {c : Cx} (ok : c.Ok 40) (hsc : c.env.scope = dS (top 35)) (hg : c.g = none) (hA : c.A.depth <= 302 /\ c.A.units <= 7) (hAl : c.av = []) {st : St} {s : Shared} (I : Inv c st s) {ob1 : Ob}
    (h39 : ans 39 [] (some ob0) = some (.none, some ob1)) : wpAny c.M c.A (eval mkE c.env) (fun v s' => ∃ p : Addr × Addr, v = .ref p.1 /\ s.heap.get? p.2 = none /\ (c.re c.A (some p)).Ok 40 /\ Inv (c.re c.A (some p)) ⟨st.loc, some ob1⟩ s' /\ StpX c.fr (some p) (· = c.L) s s') No s := by
  have he : eval (.Call gName [] [] ⟨688, 14, 688, 29⟩) c.env = (do callWith ⟨688, 14, 688, 29⟩ (← eval gName c.env) [] (backTo ⟨688, 14, 688, 29⟩ (starEach [] c.env)) (backToKw ⟨688, 14, 688, 29⟩ (keywordEach [] c.env))) := rfl
  have X := I.left.frag
  have hbig := big_heap I.left
  have nD := size_none s.heap _ (Nat.le_refl _)
  have nX := size_none s.heap (s.heap.objs.size + 1) (Nat.le_succ _)
  have kD := I.clear nD hbig
  have kX := I.clear nX (Nat.le_succ_of_le hbig)
  refine Call_ (ld_glb ok (by rw [hsc]; exact rep_G) I.left (glb_German _) (callWith_K0 X (mk_keep _) ?_)) he
  obtain ⟨hh, gg, dd, tt, oo⟩ := s
  refine wpAny_runValue (make_core (makes_of X (mk_ok _)) (looks_findIn X (mk_init _)) (fun self => bind_fn X self (mk_typ _)) (.inl rfl) ?_)
  generalize hAA : c.A.under (.builtin "type.__call__" ⟨.ref 431 :: [], []⟩) = AA
  have okr : ∀ A : Around, A.frames = some c.fl -> A.depth <= 310 + (41 - 40) * 8 -> A.units <= 40 + (41 - 40) * 100 -> A.handled = none -> (c.re A (some (hh.objs.size + 1, hh.objs.size))).Ok 40 := fun A a1 a2 a3 a4 =>
    ⟨a1, a2, a3, Nat.le_refl _, a4, ok.glo, ok.loc, ok.blt, ok.kind, ok.hiF, ok.hiL, fun p hp => by
      cases hp
      exact ⟨kX.big, kD.big, Nat.succ_ne_self _, kX.L.symm, kD.L.symm, kX.fr, kD.fr⟩, ok.hiA⟩
  have okA : (c.re AA (some (hh.objs.size + 1, hh.objs.size))).Ok 40 := by
    refine okr AA ?_ ?_ ?_ ?_
    · rw [<- hAA]; unfold Around.under; rw [ok.frames]; rfl
    · rw [<- hAA]; show c.A.depth + (Code.builtin "type.__call__" _).weight <= _
      have : (Code.builtin "type.__call__" ⟨.ref 431 :: [], []⟩).weight <= 10 := by decide +kernel
      lia
    · rw [<- hAA]; show c.A.units + (Code.builtin "type.__call__" _).cUnits <= _
      have : (Code.builtin "type.__call__" ⟨.ref 431 :: [], []⟩).cUnits <= 50 := by decide +kernel
      lia
    · rw [<- hAA]; exact ok.hand
  have okc := okr c.A ok.frames (by lia) (by lia) ok.hand
  have I3 := Inv.made (A := AA) I hg (tk := tt)
  have cl := fn_okC (f := 39) (by decide) fnf39 H39 V39 (lv := 40) (by decide) _ okA ⟨st.loc, some ob0⟩ _ [] [] [.ref (hh.objs.size + 1)] .none (some ob1) I3 trivial h39 ⟨fun _ => ⟨_, rfl, rfl⟩, fun h => absurd h (by decide)⟩
  subst hAA
  refine codeAny_mono cl fun q s' hq => ?_
  rcases q with e | (v | _ | _ | _) <;> first | exact hq.elim | skip
  obtain ⟨q1, q2, q3⟩ := hq
  refine ⟨q1, (hh.objs.size + 1, hh.objs.size), rfl, nD, okc, Inv.re (c := c.re (c.A.under (.builtin "type.__call__" ⟨.ref 431 :: [], []⟩)) (some (hh.objs.size + 1, hh.objs.size))) (A := c.A) q2, ?_⟩
  have ex : Ext ⟨hh, gg, dd, tt, oo⟩ ⟨(hh.push emptyDict).push (instObj 431 hh.objs.size), gg, dd, tt, oo⟩ := ⟨fun b o e => Heap.get?_push_of_some _ (Heap.get?_push_of_some _ e), rfl, rfl⟩
  exact ex.stp.trans q3
theorem post_true (args : List WData) : lw.row.toRowW.claim.post args (.bool true) args = true := by
  show (_ : Bool) = true
  kernel_rfl
set_option tactic.hygienic true in
noncomputable abbrev CxL (w : World) (env : Env) (L : Addr) : Cx := ⟨w, callerA.deeper env, env, L, [env], none, []⟩
theorem PostX.no {c : Cx} {s s' : Shared} {k : Fl -> St -> Prop} {v : Value} (hk : ∀ j st, ¬ k (.exc j) st) (h : PostX c s k v s') : False := by
  obtain ⟨e, j, st, _, _, _, _, _, q⟩ := h
  exact hk _ _ q
theorem PostF.at' {c : Cx} {s s' : Shared} {f : Flow} {fl₀ : Fl} {k : Fl -> St -> Prop} (hk : ∀ fl st, k fl st -> fl = fl₀) (h : PostF c s k f s') : ∃ st, flowOk c s'.heap fl₀ f /\ Inv c st s' /\ Stp c s s' /\ k fl₀ st := by
  obtain ⟨fl, st, a, b, d, q⟩ := h
  cases hk _ _ q
  exact ⟨st, a, b, d, q⟩
theorem flow_next {c : Cx} {h : Heap} {f : Flow} (x : flowOk c h .next f) : f = .next := by cases f <;> first | rfl | exact x.elim
theorem flow_ret {c : Cx} {h : Heap} {f : Flow} {b : Bool} (x : flowOk c h (.ret (.bool b)) f) : f = .ret (.bool b) := by cases f <;> first | exact x.elim | exact congrArg Flow.ret x
theorem law_run {ans : Nat -> List MV -> Option Ob -> Option (MV × Option Ob)} (H : CallOk ⟨40, ans⟩) (H39 : CallOk ⟨39, ans⟩) (V39 : BodyOk ans 39 [0] b39) (V : LawOk ans) {c : Cx} (ok : c.Ok 40) (own : c.Own) {l : List Int} (hl : l.length <= 63) {s₁ s₂ : Shared}
    (hsc : c.env.scope = dS (top 35)) (hcg : c.g = none) (hcav : c.av = []) (hcA : c.A.depth <= 302 /\ c.A.units <= 7) (old : ∀ x o, s₁.heap.get? x = some o -> x ≠ c.L /\ x ∉ c.fr) (ex : Ext s₁ s₂) (I₂ : Inv c ⟨[(52, .ints l)], none⟩ s₂) :
    wpAny c.M c.A (execs (dB (top 35)) c.env) (fun f s' => f = .ret (.bool true) /\ (∀ b o, s₁.heap.get? b = some o -> s'.heap.get? b = some o) /\ s'.gens = s₁.gens /\ s'.os = s₁.os) No s₂ := by
  obtain ⟨wd, row, ob1, ⟨n1, V1⟩, ⟨n2, V2⟩, V3, n4, V4⟩ := V l hl
  rw [law_body]
  refine wpAny_execs_cons (wpAny_mono ((soundS (O := ⟨40, ans⟩) H n1).1 s1L c ok own (lawX 0) (by rw [hsc]; exact rep_s1) _ s₂ _ I₂ V1) (fun f s₃ h => ?_) fun e s₃ h => h.no fun _ _ q => nomatch q.1)
  obtain ⟨st, hf, I₃, S₃, _, rfl⟩ := h.at' fun _ _ q => q.1
  cases flow_next hf
  refine wpAny_execs_cons (wpAny_mono ((soundS (O := ⟨40, ans⟩) H n2).1 s2L c ok own (lawX 1) (by rw [hsc]; exact rep_s2) _ s₃ _ I₃ V2) (fun f s₄ h => ?_) fun e s₃ h => h.no fun _ _ q => nomatch q.1)
  obtain ⟨st, hf, I₄, S₄, _, rfl⟩ := h.at' fun _ _ q => q.1
  cases flow_next hf
  refine wpAny_execs_cons ?_
  refine wpAny_Assign_Name (wpAny_mono (make_run H39 V39 ok hsc hcg hcA hcav I₄ V3) (fun y s₅ h => ?_) fun _ _ z => z.elim) rfl
  obtain ⟨p, rfl, nD, ok5, I₅, S₅⟩ := h
  have own5 : (c.re c.A (some p)).Own := ⟨own.fl, own.frame⟩
  refine loc_store (O := ⟨40, ans⟩) ok5 I₅ (x := .obj) ⟨p, rfl, rfl⟩ (by show isLoc c.env.scope _ = true; rw [hsc]; exact loc54) fun s₆ I₆ S₆ => ?_
  refine wpAny_mono ((soundS (O := ⟨40, ans⟩) H n4).2 b40 (c.re c.A (some p)) ok5 own5 [lawX 3, lawX 4] (by show repL c.env.scope _ _ = true; rw [hsc]; exact rep_40) _ s₆ _ I₆ V4) (fun f s₇ h => ?_) fun e s₇ h => h.no fun _ _ q => nomatch q
  obtain ⟨st, hf, _, S₇, _⟩ := h.at' fun _ _ q => q
  have S24 : Stp c s₂ s₄ := S₃.trans S₄
  have S47 : StpX c.fr (some p) (· = c.L) s₄ s₇ := S₅.trans (S₆.trans S₇)
  refine ⟨flow_ret hf, fun b o hb => ?_, S47.gens.trans (S24.gens.trans ex.gens), S47.os.trans (S24.os.trans ex.os)⟩
  have h4 := S24.same (ex.heap _ _ hb) (old b o hb).1 (fun p hp => by rw [hcg] at hp; cases hp) (old b o hb).2
  exact S47.same h4 (old b o hb).1 (fun q hq => Option.some.inj hq ▸ fun e => by rw [e, nD] at h4; cases h4) (old b o hb).2
set_option maxHeartbeats 4000000 in
theorem law_walk {ans : Nat -> List MV -> Option Ob -> Option (MV × Option Ob)} (H : CallOk ⟨40, ans⟩) (H39 : CallOk ⟨39, ans⟩) (V39 : BodyOk ans 39 [0] b39) (V : LawOk ans) : lw.Holds := by
  refine head fun d kwd hd => ?_
  intro w s₀ s₁ mg mb G Y a o pm cd doc dV kV ho hod hcd hdf hmg hgens args vals as hpre hlay hrd hwell hlow
  have Y : Left w.params s₁.heap := Y
  have hname := defOf_name hd
  have ha : a = 606 := by
    have h1 := Ns_eq G.T.g (ns_main Y) d.name
    rw [hmg, hname, law_glb] at h1
    cases h1; rfl
  subst ha
  obtain ⟨k1, k2, k3⟩ := okAt_of (law_at w.params)
  have ho' := Y 606 k1 _ k2 k3
  rw [ho] at ho'; cases ho'
  obtain ⟨F1, F2, F3, F4, F5⟩ := law_fd w.params
  have hcode : s₁.heap.CodeRec (fdL w.params).code (fdL w.params).qualname := by
    have e : fdL w.params = { Calls.docDef d.name d.params d.body d.scope pm cd doc with defaults := dV, kwdefaults := kV } := by
      rw [F1] at hod; injection hod
    rw [e]; exact hcd
  obtain ⟨l, rfl, hl⟩ := script_of hpre
  obtain ⟨v, rfl, b, vs, rfl, hls, hints⟩ : ∃ v, vals = [v] /\ ∃ b vs, v = .ref b /\ s₁.heap.IsList b ⟨vs⟩ /\ intsAre l vs := by
    cases hrd with
    | cons r1 r2 =>
      cases r2
      cases r1 with
      | list h1 h2 h3 h4 => exact ⟨_, rfl, _, _, rfl, ⟨_, h1, h2, _, by rw [h3]⟩, ints_reads h4⟩
  have nL := size_none s₁.heap _ (Nat.le_refl _)
  have hbig := big_heap Y
  show wpAny (model prg w) callerA (PySem.call (.ref 606) [.ref b]) _ _ s₁
  refine wpAny_runValue (codeAny_call_def (fd := fdL w.params) (body := dB (top 35)) (binds := [(nmS 52, .ref b)]) (by decide +kernel) ho F1 (nolimit Y) hcode F2 (BindsTo.of_eq (law_bind _ _)) (by rw [F3]; exact noCell_of law_sc.2.2.2.1) ?_ (fun h₀ hns keep => ?_) (by rw [F3]; exact law_sc.2.1) (by rw [F3]; exact law_sc.2.2.1) (by rw [F3]; exact law_sc.1))
  · intro x hx
    rw [List.mem_singleton.mp hx, F3]; exact law_sc.2.2.2.2
  · generalize henv : callEnv (fdL w.params) s₁.heap.objs.size 606 = env
    have e1 : env.frame = some s₁.heap.objs.size := by rw [<- henv]; rfl
    have e2 : env.locals = s₁.heap.objs.size := by rw [<- henv]; rfl
    have e3 : env.globals = mainGlobals := by rw [<- henv]; exact F4
    have e4 : env.builtins = builtinsNs := by rw [<- henv]; exact F5
    have e5 : env.scope = dS (top 35) := by rw [<- henv]; exact F3
    generalize hL : s₁.heap.objs.size = L at hns nL hbig e1 e2
    have ok : (CxL w env L).Ok 40 := by
      refine ⟨rfl, (show (302 : Nat) <= 318 by decide), (show (7 : Nat) <= 140 by decide), Nat.le_refl _, rfl, e3, e2, e4, (by rw [e5]; exact law_sc.1), fun x hx => ?_, hbig, (fun p hp => by cases hp), fun x hx => by cases hx⟩
      have hx : x ∈ [env].filterMap (·.frame) := hx
      rw [List.filterMap_cons, e1] at hx
      rcases List.mem_cons.mp hx with rfl | hx
      · exact hbig
      · cases hx
    have own : (CxL w env L).Own := by exact ⟨⟨[], rfl⟩, e1⟩
    have ex : Ext s₁ { s₁ with heap := h₀, toks := s₁.toks + [(nmS 52, Value.ref b)].length } := ⟨keep, rfl, rfl⟩
    generalize hs₂ : ({ s₁ with heap := h₀, toks := s₁.toks + [(nmS 52, Value.ref b)].length } : Shared) = s₂ at ex ⊢
    have hh : s₂.heap = h₀ := by rw [<- hs₂]
    have old : ∀ x o, s₁.heap.get? x = some o -> x ≠ (CxL w env L).L /\ x ∉ (CxL w env L).fr := fun x o hx => by
      have : x ≠ L := fun q => by rw [q, nL] at hx; cases hx
      refine ⟨this, fun hm => ?_⟩
      have hm : x ∈ [env].filterMap (·.frame) := hm
      rw [List.filterMap_cons, e1] at hm
      rcases List.mem_cons.mp hm with q | hm
      · exact this q
      · cases hm
    have I₂ : Inv (CxL w env L) ⟨[(52, .ints l)], none⟩ s₂ := by
      refine ⟨⟨?_, ?_, ?_, ?_⟩, ?_⟩
      · exact fun x hx o ho hl => ex.heap _ _ (Y x hx o ho hl)
      · rw [ObI_iff]; exact .inl ⟨rfl, rfl⟩
      · intro e he
        have he : e ∈ [env] := he
        rw [List.mem_singleton.mp he]
        obtain ⟨o, es, ep, ho, hd, _⟩ := hns
        exact ⟨(by rw [e5, law_sc.1]; intro q; cases q), _, o, e1, by rw [hh]; exact ho, es, ep, hd⟩
      · intro x hx; cases hx
      · refine ⟨_, by rw [hh]; exact hns, fun k x hx => ?_⟩
        rw [List.lookup_cons] at hx
        split at hx
        · rename_i e
          have := beq_iff_eq.mp e; subst this
          cases hx
          obtain ⟨o, ho, r⟩ := hls
          refine ⟨.ref b, by kernel_rfl, b, vs, rfl, ⟨?_, (old b o ho).2, ?_, ?_⟩, ⟨o, ex.heap _ _ ho, r⟩, hints⟩
          · have := (old b o ho).1
            exact this
          · intro p hp; cases hp
          · intro hm; cases hm
        · cases hx
    refine wpAny_mono (law_run H H39 V39 V ok own hl e5 rfl rfl ⟨(show (302 : Nat) <= 302 by decide), (show (7 : Nat) <= 7 by decide)⟩ old ex I₂) (fun f s' h => ?_) fun _ _ z => z.elim
    obtain ⟨rfl, hk, hgn, hos⟩ := h
    exact ⟨.inl ⟨.bool true, .bool true, [], rfl, fun _ => rfl, ReadsW.bool true, post_true _, fun _ => ⟨List.nodup_nil, fun a ha => by cases ha⟩⟩, OldK.of_keep hk, hos, AllBare.of_eq (hgn.trans hgens)⟩
end
section
open PySem
structure Sim (O O' : Orc) : Prop where
  lv : O'.lv = O.lv
  ans : ∀ f, f < O.lv -> O'.ans f = O.ans f
theorem Sim.refl (O : Orc) : Sim O O := ⟨rfl, fun _ _ => rfl⟩
theorem Sim.symm {O O' : Orc} (s : Sim O O') : Sim O' O := ⟨s.lv.symm, fun f hf => (s.ans f (s.lv ▸ hf)).symm⟩
def One {α : Type} (T : (α -> Prop) -> Prop) : Prop := ∀ k, T k -> ∀ {C : Prop}, (∀ r, k r -> (∀ k' : α -> Prop, k' r -> T k') -> (∀ k' : α -> Prop, T k' -> k' r) -> C) -> C
theorem some_at {β : Type} {o : Option β} {x y : β} {P : β -> Prop} (h : o = some x) (e : o = some y) (q : P y) : P x := Option.some.inj (e.symm.trans h) ▸ q
theorem One.ret {α : Type} {r : α} : One fun k => k r := fun _ h _ K => K r h (fun _ q => q) fun _ q => q
theorem One.guard {α : Type} {p : Prop} {T : (α -> Prop) -> Prop} (t : One T) : One fun k => p /\ T k := fun k h _ K => t k h.2 fun r h1 h2 h3 => K r h1 (fun k' q => ⟨h.1, h2 k' q⟩) fun k' q => h3 k' q.2
theorem One.look {α β : Type} {o : Option β} {T : β -> (α -> Prop) -> Prop} (t : ∀ x, One (T x)) : One fun k => ∃ x, o = some x /\ T x k := fun k h _ K => h.elim fun x h => t x k h.2 fun r h1 h2 h3 =>
  K r h1 (fun k' q => ⟨x, h.1, h2 k' q⟩) fun k' q => q.elim fun _ q => h3 k' (some_at (P := fun x => T x k') h.1 q.1 q.2)
theorem One.no {α : Type} : One fun _ : α -> Prop => False := fun _ h => h.elim
theorem One.sing {α β : Type} {l : List β} {T : β -> (α -> Prop) -> Prop} (t : ∀ x, One (T x)) : One fun k => ∃ x, l = [x] /\ T x k := fun k h _ K => h.elim fun x h => t x k h.2 fun r h1 h2 h3 =>
  K r h1 (fun k' q => ⟨x, h.1, h2 k' q⟩) fun k' q => q.elim fun _ q => h3 k' (some_at (P := fun x => T x k') (congrArg List.head? h.1) (congrArg List.head? q.1) q.2)
theorem binM_det {op a b} : One (fun k => binM op a b k) := by
  cases a with
  | «int» => cases b with
    | «int» => cases op <;> first | exact .ret | exact .guard .ret
    | _ => exact .no
  | «str» => cases b with
    | «str» => exact .guard (.guard (.guard .ret))
    | _ => exact .no
  | _ => exact .no
theorem cmpN_det {op b} : One (fun k => cmpN op b k) := by
  cases op <;> first | exact .ret | exact .no
theorem cmpM_det {op a b} : One (fun k => cmpM op a b k) := by
  cases a with
  | «int» => cases b with
    | «int» => cases op <;> first | exact .ret | exact .no
    | _ => exact .no
  | «str» => cases b with
    | «str» => cases op <;> first | exact .ret | exact .no
    | «strs» => exact cmpN_det
    | «set» => exact .sing fun _ => .guard cmpN_det
    | «dict» => exact .guard .ret
    | _ => exact .no
  | «strs» => cases b with
    | «strs» => exact .guard (.guard (.guard .ret))
    | _ => exact .no
  | _ => exact .no
theorem idxM_det {a i} : One (fun k => idxM a i k) := by
  cases i with
  | «int» => cases a with
    | «str» | «strs» | «tab» => exact .guard (.guard (.look fun _ => .ret))
    | _ => exact .no
  | «str» => cases a with
    | «dict» => exact .look fun _ => .ret
    | _ => exact .no
  | _ => exact .no
theorem partI_det {α : Type} {o : Option MV} {T : Option Int -> (α -> Prop) -> Prop} (t : ∀ i, One (T i)) : One fun k => partI o fun i => T i k := by
  cases o with
  | none => exact t _
  | some x => cases x with
    | «int» => exact .guard (.guard (t _))
    | _ => exact .no
theorem sliceM_det {a lo hi} : One (fun k => sliceM a lo hi k) := by
  cases a with
  | «str» =>
    refine .guard (partI_det fun i => partI_det fun j => ?_)
    cases i <;> cases j <;> first | exact .ret | exact .no
  | «ints» =>
    refine .guard (partI_det fun i => partI_det fun j => ?_)
    cases i <;> cases j <;> first | exact .ret | exact .no
  | _ => exact .no
theorem lenM_det {a} : One (fun k => lenM a k) := by
  cases a with
  | «str» | «tab» => exact .guard .ret
  | _ => exact .no
theorem amgM_det {f a} : One (fun k => amgM f a k) := by
  cases a with
  | «amg» =>
    intro k h C K
    rcases h with ⟨rfl, h⟩ | ⟨rfl, h⟩ | ⟨rfl, h⟩
    · exact K _ h (fun _ q => .inl ⟨rfl, q⟩) fun _ q => by rcases q with ⟨_, q⟩ | ⟨e, _⟩ | ⟨e, _⟩ <;> first | exact q | cases e
    · exact K _ h (fun _ q => .inr (.inl ⟨rfl, q⟩)) fun _ q => by rcases q with ⟨e, _⟩ | ⟨_, q⟩ | ⟨e, _⟩ <;> first | exact q | cases e
    · exact K _ h (fun _ q => .inr (.inr ⟨rfl, q⟩)) fun _ q => by rcases q with ⟨e, _⟩ | ⟨e, _⟩ | ⟨_, q⟩ <;> first | exact q | cases e
  | _ => exact .no
theorem boolM_det {a} : One (fun k => boolM a k) := by
  cases a with
  | «bool» => exact .ret
  | _ => exact .no
theorem pick_det {b p q} (h : pick b p q) : (b = true /\ p) \/ (b = false /\ q) := by
  cases b
  · exact .inr ⟨rfl, h.2 rfl⟩
  · exact .inl ⟨rfl, h.1 rfl⟩
theorem pickT {b p q} (e : b = true) (h : p) : pick b p q := ⟨fun _ => h, fun e' => by rw [e] at e'; cases e'⟩
theorem pickF {b p q} (e : b = false) (h : q) : pick b p q := ⟨fun e' => absurd (e.symm.trans e') Bool.false_ne_true, fun _ => h⟩
def Dt (T : Orc -> (MV -> St -> Prop) -> Prop) (O : Orc) : Prop := ∀ k, T O k -> ∀ {C : Prop}, (∀ v st', k v st' -> (∀ O' k', Sim O O' -> k' v st' -> T O' k') -> (∀ k', T O k' -> k' v st') -> C) -> C
section
variable {O : Orc}
theorem Dt.seq {A : Orc -> (MV -> St -> Prop) -> Prop} {B : MV -> St -> Orc -> (MV -> St -> Prop) -> Prop} (a : Dt A O) (b : ∀ x st, Dt (B x st) O) : Dt (fun O k => A O fun x st => B x st O k) O := fun k h _ K =>
  a _ h fun x s1 h1 r1 u1 => b x s1 k h1 fun y s2 h2 r2 u2 => K y s2 h2 (fun O' k' s q => r1 O' _ s (r2 O' k' s q)) fun k' q => u2 k' (u1 _ q)
theorem Dt.ret {v : MV} {st : St} : Dt (fun _ k => k v st) O := fun _ h _ K => K v st h (fun _ _ _ q => q) fun _ q => q
theorem Dt.guard {p : Prop} {T : Orc -> (MV -> St -> Prop) -> Prop} (t : Dt T O) : Dt (fun O k => p /\ T O k) O := fun k h _ K =>
  t k h.2 fun v st h1 h2 h3 => K v st h1 (fun O' k' s q => ⟨h.1, h2 O' k' s q⟩) fun k' q => h3 k' q.2
theorem Dt.look {β : Type} {o : Option β} {T : β -> Orc -> (MV -> St -> Prop) -> Prop} (t : ∀ x, Dt (T x) O) : Dt (fun O k => ∃ x, o = some x /\ T x O k) O := fun k h _ K => h.elim fun x h =>
  t x k h.2 fun v st h1 h2 h3 => K v st h1 (fun O' k' s q => ⟨x, h.1, h2 O' k' s q⟩) fun k' q => q.elim fun _ q => h3 k' (some_at (P := fun x => T x O k') h.1 q.1 q.2)
theorem Dt.is {β : Type} {f : β -> MV} (inj : ∀ a b, f a = f b -> a = b) {x : MV} {T : β -> Orc -> (MV -> St -> Prop) -> Prop} (t : ∀ y, Dt (T y) O) : Dt (fun O k => ∃ y, x = f y /\ T y O k) O := fun k h _ K => h.elim fun y h =>
  t y k h.2 fun v st h1 h2 h3 => K v st h1 (fun O' k' s q => ⟨y, h.1, h2 O' k' s q⟩) fun k' q => q.elim fun _ q => h3 k' (inj _ _ (q.1.symm.trans h.1) ▸ q.2)
theorem Dt.is2 {β : Type} {f : β -> MV} (inj : ∀ a b, f a = f b -> a = b) {x x' : MV} {T : β -> β -> Orc -> (MV -> St -> Prop) -> Prop} (t : ∀ y z, Dt (T y z) O) : Dt (fun O k => ∃ y z, x = f y /\ x' = f z /\ T y z O k) O := fun k h _ K => h.elim fun y h => h.elim fun z h =>
  t y z k h.2.2 fun v st h1 h2 h3 => K v st h1 (fun O' k' s q => ⟨y, z, h.1, h.2.1, h2 O' k' s q⟩) fun k' q => q.elim fun _ q => q.elim fun _ q => h3 k' (inj _ _ (q.1.symm.trans h.1) ▸ inj _ _ (q.2.1.symm.trans h.2.1) ▸ q.2.2)
theorem Dt.one {α : Type} {T : (α -> Prop) -> Prop} (t : One T) (f : α -> MV) {st : St} : Dt (fun _ k => T fun r => k (f r) st) O := fun _ h _ K =>
  t _ h fun r h1 h2 h3 => K (f r) st h1 (fun _ _ _ q => h2 _ q) fun _ q => h3 _ q
theorem pick_el {b : Bool} {p q C : Prop} (h : pick b p q) (kt : b = true -> p -> C) (kf : b = false -> q -> C) : C := by
  cases b
  · exact kf rfl (h.2 rfl)
  · exact kt rfl (h.1 rfl)
theorem Dt.ifb {x : MV} {P Q : Bool -> Orc -> (MV -> St -> Prop) -> Prop} (p : ∀ u, Dt (P u) O) (q : ∀ u, Dt (Q u) O) : Dt (fun O k => boolM x fun u => pick u (P u O k) (Q u O k)) O := fun k h _ K =>
  boolM_det _ h fun u h2 r2 u2 => pick_el h2
    (fun e h3 => p u k h3 fun v st h4 r4 u4 => K v st h4 (fun O' k' s z => r2 _ (pickT e (r4 O' k' s z))) fun k' z => u4 k' ((u2 _ z).1 e))
    fun e h3 => q u k h3 fun v st h4 r4 u4 => K v st h4 (fun O' k' s z => r2 _ (pickF e (r4 O' k' s z))) fun k' z => u4 k' ((u2 _ z).2 e)
theorem callM_det (O : Orc) (f : Nat) (args : List MV) (st : St) : Dt (fun O k => callM O f args st k) O := fun k h _ K => by
  obtain ⟨h1, r, o', h2, h3⟩ := h
  refine K r _ h3 (fun O' k' s q => ⟨by rw [s.lv]; exact h1, r, o', by rw [s.ans f h1]; exact h2, q⟩) fun k' q => ?_
  obtain ⟨_, r', o'', h4, q⟩ := q
  rw [h2] at h4; cases h4; exact q
end
variable {G : Stat}
theorem compL_det {O : Orc} {tr : Orc -> St -> (MV -> St -> Prop) -> Prop} (he : ∀ st, Dt (fun O k => tr O st k) O) {v : Nat} : ∀ (l : List MV) (acc : List (List Nat)) (ob : Option Ob) (k : List (List Nat) -> Option Ob -> Prop), compL (tr O) v l acc ob k →
    ∃ r ob', k r ob' /\ (∀ O' (k' : List (List Nat) -> Option Ob -> Prop), Sim O O' -> k' r ob' -> compL (tr O') v l acc ob k') /\ ∀ (k' : List (List Nat) -> Option Ob -> Prop), compL (tr O) v l acc ob k' -> k' r ob' := by
  intro l
  induction l with
  | nil => exact fun acc ob k h => ⟨acc, ob, h, fun O' k' s q => q, fun k' q => q⟩
  | cons x r ih =>
    intro acc ob k h
    refine he _ _ h fun y st hq h3 u3 => ?_
    obtain ⟨q, rfl, h2⟩ := hq
    obtain ⟨r', ob', h4, h5, u5⟩ := ih _ _ _ h2
    exact ⟨r', ob', h4, fun O' k' s z => h3 O' _ s ⟨q, rfl, h5 O' k' s z⟩, fun k' z => by
      obtain ⟨q', e, z'⟩ := u3 _ z
      cases e
      exact u5 _ z'⟩
theorem str_inj (a b : List Nat) (h : MV.str a = .str b) : a = b := by cases h; rfl
theorem chr_inj (a b : Nat) (h : MV.str [a] = .str [b]) : a = b := by cases h; rfl
theorem int_inj (a b : Int) (h : MV.int a = .int b) : a = b := by cases h; rfl
theorem strs_inj (a b : List (List Nat)) (h : MV.strs a = .strs b) : a = b := by cases h; rfl
theorem VE_det (O : Orc) : ∀ (e : E) (st : St), Dt (fun O k => VE G O e st k) O
  | .none, _ => .ret
  | .bool _, _ => .ret
  | .int _, _ => .ret
  | .neg1, _ => .ret
  | .str _, _ => .ret
  | .var _, _ => .look fun _ => .ret
  | .fld _, _ => .guard fun k h _ K => h.elim fun o h => h.elim fun x h => K _ _ h.2.2 (fun O' k' s q => ⟨o, x, h.1, h.2.1, q⟩) fun k' q => q.elim fun o' q => q.elim fun y q => some_at (P := fun x => k' x _) h.2.1 (some_at (P := fun o => Ob.get o _ = some y) h.1 q.1 q.2.1) q.2.2
  | .cattr _, _ => .look fun _ => .ret
  | .glob _, _ => .look fun _ => .ret
  | .amgOf _ _, _ => .look fun _ => .one amgM_det id
  | .bin _ a b, st => (VE_det O a st).seq fun _ s => (VE_det O b s).seq fun _ _ => .one binM_det id
  | .cmp _ a b, st => (VE_det O a st).seq fun _ s => (VE_det O b s).seq fun _ _ => .one cmpM_det .bool
  | .bop true a b, st => (VE_det O a st).seq fun _ s => .ifb (fun _ => (VE_det O b s).seq fun _ _ => .one boolM_det .bool) fun _ => .ret
  | .bop false a b, st => (VE_det O a st).seq fun _ s => .ifb (fun _ => .ret) fun _ => (VE_det O b s).seq fun _ _ => .one boolM_det .bool
  | .not a, st => (VE_det O a st).seq fun _ _ => .one boolM_det fun t => .bool (!t)
  | .ite t a b, st => (VE_det O t st).seq fun _ s => .ifb (fun _ => VE_det O a s) fun _ => VE_det O b s
  | .idx a i, st => (VE_det O a st).seq fun _ s => (VE_det O i s).seq fun _ _ => .one idxM_det id
  | .slice a l u, st => (VE_det O a st).seq fun _ s => (VE_det O l s).seq fun _ s => (VE_det O u s).seq fun _ _ => .one sliceM_det id
  | .sliceLo a l, st => (VE_det O a st).seq fun _ s => (VE_det O l s).seq fun _ _ => .one sliceM_det id
  | .sliceHi a l, st => (VE_det O a st).seq fun _ s => (VE_det O l s).seq fun _ _ => .one sliceM_det id
  | .len a, st => (VE_det O a st).seq fun _ _ => .one lenM_det id
  | .ord a, st => (VE_det O a st).seq fun _ _ => .is (f := fun c => .str [c]) chr_inj fun _ => .ret
  | .min a b, st => (VE_det O a st).seq fun _ s => (VE_det O b s).seq fun _ _ => .is2 int_inj fun _ _ => .ret
  | .max a b, st => (VE_det O a st).seq fun _ s => (VE_det O b s).seq fun _ _ => .is2 int_inj fun _ _ => .ret
  | .call0 _, _ => .guard (callM_det O _ _ _)
  | .call1 _ a, st => .guard ((VE_det O a st).seq fun _ _ => callM_det O _ _ _)
  | .call2 _ a b, st => .guard ((VE_det O a st).seq fun _ s => (VE_det O b s).seq fun _ _ => callM_det O _ _ _)
  | .call3 _ a b c, st => .guard ((VE_det O a st).seq fun _ s => (VE_det O b s).seq fun _ s => (VE_det O c s).seq fun _ _ => callM_det O _ _ _)
  | .meth0 _, _ => .guard (.guard (.guard (callM_det O _ _ _)))
  | .meth1 _ a, st => .guard (.guard (.guard ((VE_det O a st).seq fun _ _ => callM_det O _ _ _)))
  | .meth3 _ a b c, st => .guard (.guard (.guard ((VE_det O a st).seq fun _ s => (VE_det O b s).seq fun _ s => (VE_det O c s).seq fun _ _ => callM_det O _ _ _)))
  | .ometh1 _ _ a, st => .guard (.guard (.guard ((VE_det O a st).seq fun _ _ => callM_det O _ _ _)))
  | .endsw a b, st => (VE_det O a st).seq fun _ s => .is str_inj fun _ => (VE_det O b s).seq fun _ _ => .is str_inj fun _ => .ret
  | .strs _, _ => .guard .ret
  | .dict _, _ => .guard (.guard (.guard .ret))
  | .list2 a b, st => (VE_det O a st).seq fun _ s => (VE_det O b s).seq fun _ _ => .is2 str_inj fun _ _ => .ret
  | .comp elt _ src, st => (VE_det O src st).seq fun _ s => .look fun l => .guard fun k h _ K => by
    obtain ⟨r, ob', h2, r2, u2⟩ := compL_det (tr := fun O => VE G O elt) (VE_det O elt) _ _ _ _ h
    exact K _ _ h2 (fun O' k' s q => r2 O' _ s q) fun k' q => u2 _ q
  | .join a, st => (VE_det O a st).seq fun _ _ => .is strs_inj fun _ => .guard (.guard .ret)
def DtS (T : Orc -> Nat -> (Fl -> St -> Prop) -> Prop) (O : Orc) (n : Nat) : Prop := ∀ k, T O n k -> ∀ {C : Prop}, (∀ fl st', k fl st' -> (∀ O' k' m, Sim O O' -> n <= m -> k' fl st' -> T O' m k') -> (∀ k', T O n k' -> k' fl st') -> C) -> C
theorem turn_det {on : St -> Prop} {k : Fl -> St -> Prop} {fl : Fl} {st : St} (h : turnK on k fl st) : (on st /\ ∀ (on' : St -> Prop) (k' : Fl -> St -> Prop), turnK on' k' fl st ↔ on' st) ∨
    ∃ fl', k fl' st /\ ∀ (on' : St -> Prop) (k' : Fl -> St -> Prop), turnK on' k' fl st ↔ k' fl' st := by
  cases fl with
  | next => exact .inl ⟨h, fun on' k' => Iff.rfl⟩
  | cont => exact .inl ⟨h, fun on' k' => Iff.rfl⟩
  | brk => exact .inr ⟨_, h, fun on' k' => Iff.rfl⟩
  | ret v => exact .inr ⟨_, h, fun on' k' => Iff.rfl⟩
  | exc v => exact .inr ⟨_, h, fun on' k' => Iff.rfl⟩
theorem seq_det {on : St -> Prop} {k : Fl -> St -> Prop} {fl : Fl} {st : St} (h : seqK on k fl st) : (on st /\ ∀ (on' : St -> Prop) (k' : Fl -> St -> Prop), seqK on' k' fl st ↔ on' st) ∨
    (k fl st /\ ∀ (on' : St -> Prop) (k' : Fl -> St -> Prop), seqK on' k' fl st ↔ k' fl st) := by
  cases fl with
  | next => exact .inl ⟨h, fun on' k' => Iff.rfl⟩
  | cont => exact .inr ⟨h, fun on' k' => Iff.rfl⟩
  | brk => exact .inr ⟨h, fun on' k' => Iff.rfl⟩
  | ret v => exact .inr ⟨h, fun on' k' => Iff.rfl⟩
  | exc v => exact .inr ⟨h, fun on' k' => Iff.rfl⟩
theorem catch_det {j : Nat} {k : Fl -> St -> Prop} {fl : Fl} {st : St} (h : catchK j k fl st) : ∃ fl', k fl' st /\ ∀ (k' : Fl -> St -> Prop), catchK j k' fl st ↔ k' fl' st := by
  cases fl with
  | next => exact ⟨_, h, fun k' => Iff.rfl⟩
  | cont => exact ⟨_, h, fun k' => Iff.rfl⟩
  | brk => exact ⟨_, h, fun k' => Iff.rfl⟩
  | ret v => exact ⟨_, h, fun k' => Iff.rfl⟩
  | exc i =>
    have h : if i = j then k .next st else k (.exc i) st := h
    by_cases e : i = j
    · rw [if_pos e] at h
      exact ⟨_, h, fun k' => show (if i = j then k' .next st else k' (.exc i) st) ↔ _ by rw [if_pos e]⟩
    · rw [if_neg e] at h
      exact ⟨_, h, fun k' => show (if i = j then k' .next st else k' (.exc i) st) ↔ _ by rw [if_neg e]⟩
section
variable {O : Orc} {n : Nat}
theorem DtS.ret {fl : Fl} {st : St} : DtS (fun _ _ k => k fl st) O n := fun _ h _ K => K fl st h (fun _ _ _ _ _ q => q) fun _ q => q
theorem DtS.seq {A : Orc -> (MV -> St -> Prop) -> Prop} {B : MV -> St -> Orc -> Nat -> (Fl -> St -> Prop) -> Prop} (a : Dt A O) (b : ∀ x st, DtS (B x st) O n) : DtS (fun O n k => A O fun x st => B x st O n k) O n := fun k h _ K =>
  a _ h fun x s1 h1 r1 u1 => b x s1 k h1 fun y s2 h2 r2 u2 => K y s2 h2 (fun O' k' m s hm q => r1 O' _ s (r2 O' k' m s hm q)) fun k' q => u2 k' (u1 _ q)
theorem DtS.guard {p : Prop} {T : Orc -> Nat -> (Fl -> St -> Prop) -> Prop} (t : DtS T O n) : DtS (fun O n k => p /\ T O n k) O n := fun k h _ K =>
  t k h.2 fun v st h1 h2 h3 => K v st h1 (fun O' k' m s hm q => ⟨h.1, h2 O' k' m s hm q⟩) fun k' q => h3 k' q.2
theorem DtS.look {β : Type} {o : Option β} {T : β -> Orc -> Nat -> (Fl -> St -> Prop) -> Prop} (t : ∀ x, DtS (T x) O n) : DtS (fun O n k => ∃ x, o = some x /\ T x O n k) O n := fun k h _ K => h.elim fun x h =>
  t x k h.2 fun v st h1 h2 h3 => K v st h1 (fun O' k' m s hm q => ⟨x, h.1, h2 O' k' m s hm q⟩) fun k' q => q.elim fun _ q => h3 k' (some_at (P := fun x => T x O n k') h.1 q.1 q.2)
theorem DtS.is {β : Type} {f : β -> MV} (inj : ∀ a b, f a = f b -> a = b) {x : MV} {T : β -> Orc -> Nat -> (Fl -> St -> Prop) -> Prop} (t : ∀ y, DtS (T y) O n) : DtS (fun O n k => ∃ y, x = f y /\ T y O n k) O n := fun k h _ K => h.elim fun y h =>
  t y k h.2 fun v st h1 h2 h3 => K v st h1 (fun O' k' m s hm q => ⟨y, h.1, h2 O' k' m s hm q⟩) fun k' q => q.elim fun _ q => h3 k' (inj _ _ (q.1.symm.trans h.1) ▸ q.2)
theorem DtS.is2 {β : Type} {f : β -> MV} (inj : ∀ a b, f a = f b -> a = b) {x x' : MV} {T : β -> β -> Orc -> Nat -> (Fl -> St -> Prop) -> Prop} (t : ∀ y z, DtS (T y z) O n) : DtS (fun O n k => ∃ y z, x = f y /\ x' = f z /\ T y z O n k) O n := fun k h _ K => h.elim fun y h => h.elim fun z h =>
  t y z k h.2.2 fun v st h1 h2 h3 => K v st h1 (fun O' k' m s hm q => ⟨y, z, h.1, h.2.1, h2 O' k' m s hm q⟩) fun k' q => q.elim fun _ q => q.elim fun _ q => h3 k' (inj _ _ (q.1.symm.trans h.1) ▸ inj _ _ (q.2.1.symm.trans h.2.1) ▸ q.2.2)
theorem DtS.one {α : Type} {T : (α -> Prop) -> Prop} (t : One T) {B : α -> Orc -> Nat -> (Fl -> St -> Prop) -> Prop} (b : ∀ r, DtS (B r) O n) : DtS (fun O n k => T fun r => B r O n k) O n := fun k h _ K =>
  t _ h fun r h1 h2 h3 => b r k h1 fun v st h4 h5 h6 => K v st h4 (fun O' k' m s hm q => h2 _ (h5 O' k' m s hm q)) fun k' q => h6 k' (h3 _ q)
theorem DtS.ifb {x : MV} {P Q : Orc -> Nat -> (Fl -> St -> Prop) -> Prop} (p : DtS P O n) (q : DtS Q O n) : DtS (fun O n k => boolM x fun u => pick u (P O n k) (Q O n k)) O n := fun k h _ K =>
  boolM_det _ h fun u h2 r2 u2 => pick_el h2
    (fun e h3 => p k h3 fun v st h4 r4 u4 => K v st h4 (fun O' k' m s hm z => r2 _ (pickT e (r4 O' k' m s hm z))) fun k' z => u4 k' ((u2 _ z).1 e))
    fun e h3 => q k h3 fun v st h4 r4 u4 => K v st h4 (fun O' k' m s hm z => r2 _ (pickF e (r4 O' k' m s hm z))) fun k' z => u4 k' ((u2 _ z).2 e)
theorem DtS.turn {A : Orc -> Nat -> (Fl -> St -> Prop) -> Prop} {B : St -> Orc -> Nat -> (Fl -> St -> Prop) -> Prop} (a : DtS A O n) (b : ∀ st, DtS (B st) O n) : DtS (fun O n k => A O n (turnK (fun st => B st O n k) k)) O n := fun k h _ K =>
  a _ h fun fl s1 h1 r1 u1 => (turn_det h1).elim
    (fun h2 => b s1 k h2.1 fun fl' s2 h3 r3 u3 => K fl' s2 h3 (fun O' k' m s hm q => r1 O' _ m s hm ((h2.2 _ _).mpr (r3 O' k' m s hm q))) fun k' q => u3 k' ((h2.2 _ _).mp (u1 _ q)))
    fun h2 => h2.elim fun fl' h2 => K fl' s1 h2.1 (fun O' k' m s hm q => r1 O' _ m s hm ((h2.2 _ _).mpr q)) fun k' q => (h2.2 _ _).mp (u1 _ q)
theorem DtS.then {A : Orc -> Nat -> (Fl -> St -> Prop) -> Prop} {B : St -> Orc -> Nat -> (Fl -> St -> Prop) -> Prop} (a : DtS A O n) (b : ∀ st, DtS (B st) O n) : DtS (fun O n k => A O n (seqK (fun st => B st O n k) k)) O n := fun k h _ K =>
  a _ h fun fl s1 h1 r1 u1 => (seq_det h1).elim
    (fun h2 => b s1 k h2.1 fun fl' s2 h3 r3 u3 => K fl' s2 h3 (fun O' k' m s hm q => r1 O' _ m s hm ((h2.2 _ _).mpr (r3 O' k' m s hm q))) fun k' q => u3 k' ((h2.2 _ _).mp (u1 _ q)))
    fun h2 => K fl s1 h2.1 (fun O' k' m s hm q => r1 O' _ m s hm ((h2.2 _ _).mpr q)) fun k' q => (h2.2 _ _).mp (u1 _ q)
theorem DtS.catch {A : Orc -> Nat -> (Fl -> St -> Prop) -> Prop} {j : Nat} (a : DtS A O n) : DtS (fun O n k => A O n (catchK j k)) O n := fun k h _ K =>
  a _ h fun fl s1 h1 r1 u1 => (catch_det h1).elim fun fl' h2 => K fl' s1 h2.1 (fun O' k' m s hm q => r1 O' _ m s hm ((h2.2 _).mpr q)) fun k' q => (h2.2 _).mp (u1 _ q)
theorem DtS.tick {T T' : Orc -> Nat -> (Fl -> St -> Prop) -> Prop} (e : ∀ O m k, T O (m + 1) k = T' O m k) (t : DtS T' O n) : DtS T O (n + 1) := fun k h _ K => by
  rw [e] at h
  refine t k h fun v st h1 h2 h3 => K v st h1 (fun O' k' m s hm q => ?_) fun k' q => h3 k' (by rw [<- e]; exact q)
  cases m with
  | zero => exact absurd hm (Nat.not_succ_le_zero _)
  | succ m => rw [e]; exact h2 O' k' m s (Nat.le_of_succ_le_succ hm) q
theorem put_det {o : Option Ob} {f : Nat} {x : MV} {loc : List (Nat × MV)} : DtS (fun _ _ k => ∃ a b, o = some a /\ a.put f x = some b /\ k .next ⟨loc, some b⟩) O n := fun k h _ K => h.elim fun a h => h.elim fun b h =>
  K _ _ h.2.2 (fun O' k' m s hm q => ⟨a, b, h.1, h.2.1, q⟩) fun k' q => q.elim fun a' q => q.elim fun b' q => some_at (P := fun b => k' .next ⟨loc, some b⟩) h.2.1 (some_at (P := fun a => a.put f x = some b') h.1 q.1 q.2.1) q.2.2
end
theorem VA_det (O : Orc) (n : Nat) : (∀ s st, DtS (fun O n k => VS G O n s st k) O n) /\ (∀ l st, DtS (fun O n k => VL G O n l st k) O n) /\ ∀ v r a st, DtS (fun O n k => VI G O n v r a st k) O n := by
  induction n with
  | zero => exact ⟨fun s st k h => h.elim, fun s st k h => h.elim, fun v r a st k h => h.elim⟩
  | succ n ih =>
    obtain ⟨dS, dL, dI⟩ := ih
    refine ⟨fun s st => ?_, fun l st => ?_, fun v r a st => ?_⟩
    · cases s with
      | pass => exact .tick (fun _ _ _ => rfl) .ret
      | asg v e => exact .tick (fun _ _ _ => rfl) (.guard (.seq (VE_det O e st) fun _ _ => .ret))
      | asgF f e => exact .tick (fun _ _ _ => rfl) (.guard (.seq (VE_det O e st) fun _ s => .guard put_det))
      | aug v op e => exact .tick (fun _ _ _ => rfl) (.look fun _ => .seq (VE_det O e st) fun _ _ => .one binM_det fun _ => .ret)
      | augF f op e =>
        refine .tick (fun _ _ _ => rfl) (.guard fun k h C K => ?_)
        obtain ⟨o, x, h1, h2, h3⟩ := h
        refine (DtS.seq (VE_det (G := G) O e st) fun y s => DtS.one (binM_det (op := op) (a := x) (b := y)) fun r => DtS.guard (p := s.loc.lookup 0 = some .obj) (put_det (o := s.ob) (f := f) (x := r) (loc := s.loc)) : DtS _ O n) k h3 fun v st' h4 h5 h6 => K v st' h4 (fun O' k' m s hm q => ⟨o, x, h1, h2, h5 O' k' m s hm q⟩) fun k' q => ?_
        obtain ⟨o', x', e1, e2, q⟩ := q
        rw [h1] at e1; cases e1; rw [h2] at e2; cases e2; exact h6 k' q
      | ite t a b => exact .tick (fun _ _ _ => rfl) (.seq (VE_det O t st) fun _ s => .ifb (dL a s) (dL b s))
      | wh t a => exact .tick (fun _ _ _ => rfl) (.seq (VE_det O t st) fun _ s => .ifb (.turn (dL a s) fun s => dS _ s) .ret)
      | forR v lo hi a => exact .tick (fun _ _ _ => rfl) (.seq (VE_det O lo st) fun _ s => .seq (VE_det O hi s) fun _ s => .is2 int_inj fun _ _ => .guard (.guard (dI _ _ _ s)))
      | forR1 v hi a => exact .tick (fun _ _ _ => rfl) (.seq (VE_det O hi st) fun _ s => .is int_inj fun _ => .guard (dI _ _ _ s))
      | forD v hi a => exact .tick (fun _ _ _ => rfl) (.seq (VE_det O hi st) fun _ s => .is int_inj fun _ => .guard (dI _ _ _ s))
      | forL v e a => exact .tick (fun _ _ _ => rfl) (.seq (VE_det O e st) fun _ s => .look fun _ => .guard (dI _ _ _ s))
      | tryE a j => exact .tick (fun _ _ _ => rfl) (.catch (dL a st))
      | raise j => exact .tick (fun _ _ _ => rfl) .ret
      | ret e => exact .tick (fun _ _ _ => rfl) (.seq (VE_det O e st) fun _ _ => .ret)
      | brk => exact .tick (fun _ _ _ => rfl) .ret
      | cont => exact .tick (fun _ _ _ => rfl) .ret
      | assert e => exact .tick (fun _ _ _ => rfl) (.seq (VE_det O e st) fun _ _ => .one boolM_det fun _ => .guard .ret)
      | ex e => exact .tick (fun _ _ _ => rfl) (.guard (.seq (VE_det O e st) fun _ _ => .ret))
    · cases l with
      | nil => exact .tick (fun _ _ _ => rfl) .ret
      | cons s r => exact .tick (fun _ _ _ => rfl) (.then (dS s st) fun st => dL r st)
    · cases r with
      | nil => exact .tick (fun _ _ _ => rfl) .ret
      | cons x r => exact .tick (fun _ _ _ => rfl) (.turn (dL a _) fun st => dI v r a st)
noncomputable def psL : List (List Nat) := [[1], [], [], [], [], [], [], [4], [4, 3], [4], [4, 3], [4, 10], [4, 12], [4, 12], [4, 12, 14], [4], [4], [20, 19], [0, 21], [0], [0, 22], [0, 22], [0, 22], [0, 22], [0, 22], [0, 25], [0, 25], [0, 38, 37, 22], [0, 22], [0], [0], [0], [0], [0], [0], [0], [0], [0, 4], [], [0]]
noncomputable def bodyL : List (List S) := [b0, b1, b2, b3, b4, b5, b6, b7, b8, b9, b10, b11, b12, b13, b14, b15, b16, b17, b18, b19, b20, b21, b22, b23, b24, b25, b26, b27, b28, b29, b30, b31, b32, b33, b34, b35, b36, b37, [], b39]
noncomputable def psOf (f : Nat) : List Nat := (psL[f]?).getD []
noncomputable def bodyOf (f : Nat) : List S := (bodyL[f]?).getD []
noncomputable def Den (O : Orc) (f : Nat) (args : List MV) (ob : Option Ob) (K : MV -> Option Ob -> Prop) : Prop :=
  if f = 38 then ∃ l, args = [.strs l] /\ l.length <= limS /\ compL (trW O) 4 (l.map .str) [] ob fun acc o => K (.strs acc) o
  else (full f args).length = (psOf f).length /\ ∃ n, VL Gst O n (bodyOf f) ⟨(psOf f).zip (full f args), ob⟩ fun fl st => ∃ r, (fl = .ret r \/ (fl = .next /\ r = .none)) /\ K r st.ob
theorem trW_det (O : Orc) (st : St) : Dt (fun O k => trW O st k) O := fun k h C K => by
  obtain ⟨x, h1, h2, h3⟩ := h
  refine callM_det O _ _ _ _ h3 fun y s1 h4 r4 u4 => K _ _ h4 (fun O' k' s q => ⟨x, h1, h2, r4 O' _ s q⟩) fun k' q => ?_
  obtain ⟨x', h1', _, q⟩ := q
  rw [h1] at h1'; cases h1'; exact u4 _ q
theorem Den_det {O : Orc} {f : Nat} {args : List MV} {ob : Option Ob} {K : MV -> Option Ob -> Prop} (h : Den O f args ob K) : ∃ r ob', K r ob' /\ (∀ O' K', Sim O O' -> K' r ob' -> Den O' f args ob K') /\ ∀ K', Den O f args ob K' -> K' r ob' := by
  unfold Den at h
  by_cases hf : f = 38
  · rw [if_pos hf] at h
    obtain ⟨l, e, hl, h⟩ := h
    obtain ⟨acc, ob', h1, r1, u1⟩ := compL_det (trW_det O) _ _ _ _ h
    refine ⟨_, ob', h1, fun O' K' s q => ?_, fun K' q => ?_⟩
    · unfold Den; rw [if_pos hf]; exact ⟨l, e, hl, r1 O' _ s q⟩
    · unfold Den at q; rw [if_pos hf] at q
      obtain ⟨l', e', _, q⟩ := q
      rw [e] at e'; cases e'
      exact u1 _ q
  · rw [if_neg hf] at h
    obtain ⟨hl, n, h⟩ := h
    refine (VA_det O n).2.1 _ _ _ h fun fl st hd r1 u1 => ?_
    obtain ⟨r, hr, hk⟩ := hd
    refine ⟨r, st.ob, hk, fun O' K' s q => ?_, fun K' q => ?_⟩
    · unfold Den; rw [if_neg hf]; exact ⟨hl, n, r1 O' _ n s (Nat.le_refl _) ⟨r, hr, q⟩⟩
    · unfold Den at q; rw [if_neg hf] at q
      obtain ⟨_, m, q⟩ := q
      have h' := r1 O (fun a b => a = fl /\ b = st) (max n m) (Sim.refl O) (Nat.le_max_left ..) ⟨rfl, rfl⟩
      refine (VA_det O m).2.1 _ _ _ q fun fl2 st2 q1 r2 u2 => ?_
      have q' := r2 O (fun a b => a = fl2 /\ b = st2) (max n m) (Sim.refl O) (Nat.le_max_right ..) ⟨rfl, rfl⟩
      refine (VA_det O (max n m)).2.1 _ _ _ h' fun fl3 st3 _ _ u3 => ?_
      obtain ⟨a1, a2⟩ := u3 _ h'
      obtain ⟨c1, c2⟩ := u3 _ q'
      have e1 : fl = fl2 := a1.symm.trans c1
      have e2 : st = st2 := a2.symm.trans c2
      subst e1 e2
      obtain ⟨r', hr', hk'⟩ := q1
      have : r = r' := by
        rcases hr with h | ⟨h, h2⟩ <;> rcases hr' with h' | ⟨h', h2'⟩
        · rw [h] at h'; cases h'; rfl
        · rw [h] at h'; cases h'
        · rw [h] at h'; cases h'
        · rw [h2, h2']
      rw [this]; exact hk'
noncomputable abbrev ansL (f : Nat) (a : ∀ g, g < f -> List MV -> Option Ob -> Option (MV × Option Ob)) : Orc := ⟨f, fun g => if h : g < f then a g h else fun _ _ => none⟩
open Classical in
noncomputable def ansF (f : Nat) (a : ∀ g, g < f -> List MV -> Option Ob -> Option (MV × Option Ob)) (args : List MV) (ob : Option Ob) : Option (MV × Option Ob) :=
  if h : ∃ p : MV × Option Ob, Den (ansL f a) f args ob fun r o => r = p.1 /\ o = p.2 then some h.choose else none
noncomputable def ans : Nat -> List MV -> Option Ob -> Option (MV × Option Ob) := WellFounded.fix Nat.lt_wfRel.wf ansF
theorem ans_eq (f : Nat) : ans f = ansF f fun g _ => ans g := WellFounded.fix_eq ..
theorem sim_ans (f : Nat) : Sim (ansL f fun g _ => ans g) ⟨f, ans⟩ := ⟨rfl, fun g hg => by
  show ans g = if _h : g < f then ans g else _
  rw [dif_pos hg]⟩
theorem ans_den {f : Nat} {args : List MV} {ob ob' : Option Ob} {r : MV} (h : ans f args ob = some (r, ob')) : Den ⟨f, ans⟩ f args ob fun r2 o2 => r2 = r /\ o2 = ob' := by
  rw [ans_eq] at h
  unfold ansF at h
  by_cases hp : ∃ p : MV × Option Ob, Den (ansL f fun g _ => ans g) f args ob fun r o => r = p.1 /\ o = p.2
  · rw [dif_pos hp] at h
    have := hp.choose_spec
    rw [Option.some.inj h] at this
    obtain ⟨r2, o2, h1, h2, _⟩ := Den_det this
    exact h2 _ _ (sim_ans f) h1
  · rw [dif_neg hp] at h; cases h
noncomputable def Sp (f : Nat) (args : List MV) (ob : Option Ob) (Q : MV -> Option Ob -> Prop) : Prop := ∃ r ob', ans f args ob = some (r, ob') /\ Q r ob'
theorem Sp.of {f : Nat} {args : List MV} {ob : Option Ob} {Q : MV -> Option Ob -> Prop} (h : Den ⟨f, ans⟩ f args ob Q) : Sp f args ob Q := by
  obtain ⟨r, ob', hq, h2, u2⟩ := Den_det h
  have ex : ∃ p : MV × Option Ob, Den (ansL f fun g _ => ans g) f args ob fun r o => r = p.1 /\ o = p.2 := ⟨(r, ob'), h2 _ _ (sim_ans f).symm ⟨rfl, rfl⟩⟩
  refine ⟨r, ob', ?_, hq⟩
  rw [ans_eq]
  unfold ansF
  rw [dif_pos ex]
  have cs := ex.choose_spec
  obtain ⟨r2, o2, h3, h4, u4⟩ := Den_det cs
  have h5 := h4 _ (fun r o => r = ex.choose.1 /\ o = ex.choose.2) (sim_ans f) h3
  have h6 := u2 _ h5
  rw [<- Prod.eta ex.choose, <- h6.1, <- h6.2]
theorem Sp.mono {f : Nat} {args : List MV} {ob : Option Ob} {Q Q' : MV -> Option Ob -> Prop} (h : Sp f args ob Q) (k : ∀ r o, Q r o -> Q' r o) : Sp f args ob Q' := let ⟨r, o, a, b⟩ := h; ⟨r, o, a, k r o b⟩
theorem body_ok {f : Nat} (hf : f ≠ 38) : BodyOk ans f (psOf f) (bodyOf f) := by
  intro args ob r ob' h
  have := ans_den h
  unfold Den at this
  rw [if_neg hf] at this
  obtain ⟨hl, n, h⟩ := this
  refine (VA_det ⟨f, ans⟩ n).2.1 _ _ _ h fun fl st hd r1 _ => ?_
  obtain ⟨r2, h1, h2, h3⟩ := hd
  subst h2
  exact ⟨hl, n, r1 _ _ n (Sim.refl _) (Nat.le_refl _) ⟨h3, h1⟩⟩
theorem stw_ans : StWOk ans := by
  intro args ob r ob' h
  have := ans_den h
  unfold Den at this
  rw [if_pos rfl] at this
  obtain ⟨l, e, hl, h⟩ := this
  refine ⟨l, e, hl, ?_⟩
  obtain ⟨acc, o, ⟨h1, h2⟩, r1, _⟩ := compL_det (trW_det ⟨38, ans⟩) _ _ _ _ h
  exact r1 _ _ (Sim.refl _) ⟨h1.symm, h2.symm⟩
theorem fnf_all (f : Nat) (hf : f < 40) (h38 : f ≠ 38) : ∀ P, FnF P f (psOf f) (bodyOf f) := by
  match f, hf, h38 with
  | 0, _, _ => exact fnf0
  | 1, _, _ => exact fnf1
  | 2, _, _ => exact fnf2
  | 3, _, _ => exact fnf3
  | 4, _, _ => exact fnf4
  | 5, _, _ => exact fnf5
  | 6, _, _ => exact fnf6
  | 7, _, _ => exact fnf7
  | 8, _, _ => exact fnf8
  | 9, _, _ => exact fnf9
  | 10, _, _ => exact fnf10
  | 11, _, _ => exact fnf11
  | 12, _, _ => exact fnf12
  | 13, _, _ => exact fnf13
  | 14, _, _ => exact fnf14
  | 15, _, _ => exact fnf15
  | 16, _, _ => exact fnf16
  | 17, _, _ => exact fnf17
  | 18, _, _ => exact fnf18
  | 19, _, _ => exact fnf19
  | 20, _, _ => exact fnf20
  | 21, _, _ => exact fnf21
  | 22, _, _ => exact fnf22
  | 23, _, _ => exact fnf23
  | 24, _, _ => exact fnf24
  | 25, _, _ => exact fnf25
  | 26, _, _ => exact fnf26
  | 27, _, _ => exact fnf27
  | 28, _, _ => exact fnf28
  | 29, _, _ => exact fnf29
  | 30, _, _ => exact fnf30
  | 31, _, _ => exact fnf31
  | 32, _, _ => exact fnf32
  | 33, _, _ => exact fnf33
  | 34, _, _ => exact fnf34
  | 35, _, _ => exact fnf35
  | 36, _, _ => exact fnf36
  | 37, _, _ => exact fnf37
  | 38, _, h => exact absurd rfl h
  | 39, _, _ => exact fnf39
  | n + 40, h, _ => exact absurd h (by lia)
theorem call_ans : ∀ lv, lv <= 40 -> CallOk ⟨lv, ans⟩ := callOk_all fun f hf H lv hlv => by
  by_cases h38 : f = 38
  · subst h38; exact stw_ok H stw_ans hlv
  · exact fn_ok hf (fnf_all f hf h38) H (body_ok h38) hlv
theorem law_holds (V : LawOk ans) : PySem.W.OpenLaw.Holds lw := law_walk (call_ans 40 (Nat.le_refl _)) (call_ans 39 (by decide)) (body_ok (f := 39) (by decide)) V
noncomputable abbrev OA (lv : Nat) : Orc := ⟨lv, ans⟩
noncomputable abbrev XE (lv : Nat) (e : E) (st : St) (k : MV -> St -> Prop) : Prop := VE Gst (OA lv) e st k
noncomputable def XS (lv : Nat) (s : S) (st : St) (k : Fl -> St -> Prop) : Prop := ∃ n, VS Gst (OA lv) n s st k
noncomputable def XL (lv : Nat) (l : List S) (st : St) (k : Fl -> St -> Prop) : Prop := ∃ n, VL Gst (OA lv) n l st k
noncomputable def XI (lv : Nat) (v : Nat) (r : List MV) (a : List S) (st : St) (k : Fl -> St -> Prop) : Prop := ∃ n, VI Gst (OA lv) n v r a st k
section
variable {lv : Nat}
theorem XE.mono {e : E} {st : St} {k k' : MV -> St -> Prop} (h : XE lv e st k) (m : ∀ v st, k v st -> k' v st) : XE lv e st k' := by
  refine VE_det _ e _ _ h fun v s h1 h2 _ => ?_
  exact h2 _ _ (Sim.refl _) (m _ _ h1)
theorem XL.mono {l : List S} {st : St} {k k' : Fl -> St -> Prop} (h : XL lv l st k) (m : ∀ v st, k v st -> k' v st) : XL lv l st k' := by
  obtain ⟨n, h⟩ := h
  refine (VA_det _ n).2.1 _ _ _ h fun v s h1 h2 _ => ?_
  exact ⟨n, h2 _ _ _ (Sim.refl _) (Nat.le_refl _) (m _ _ h1)⟩
theorem XS.mono {l : S} {st : St} {k k' : Fl -> St -> Prop} (h : XS lv l st k) (m : ∀ v st, k v st -> k' v st) : XS lv l st k' := by
  obtain ⟨n, h⟩ := h
  refine (VA_det _ n).1 _ _ _ h fun v s h1 h2 _ => ?_
  exact ⟨n, h2 _ _ _ (Sim.refl _) (Nat.le_refl _) (m _ _ h1)⟩
theorem fuelS {n m : Nat} {s : S} {st : St} {k : Fl -> St -> Prop} (h : VS Gst (OA lv) n s st k) (q : n <= m) : VS Gst (OA lv) m s st k := by
  refine (VA_det _ n).1 _ _ _ h fun v s h1 h2 _ => ?_
  exact h2 _ _ _ (Sim.refl _) q h1
theorem fuelL {n m : Nat} {s : List S} {st : St} {k : Fl -> St -> Prop} (h : VL Gst (OA lv) n s st k) (q : n <= m) : VL Gst (OA lv) m s st k := by
  refine (VA_det _ n).2.1 _ _ _ h fun v s h1 h2 _ => ?_
  exact h2 _ _ _ (Sim.refl _) q h1
theorem fuelI {n m v : Nat} {r : List MV} {s : List S} {st : St} {k : Fl -> St -> Prop} (h : VI Gst (OA lv) n v r s st k) (q : n <= m) : VI Gst (OA lv) m v r s st k := by
  refine (VA_det _ n).2.2 _ _ _ _ _ h fun v s h1 h2 _ => ?_
  exact h2 _ _ _ (Sim.refl _) q h1
theorem xl_nil {st : St} {k : Fl -> St -> Prop} (h : k .next st) : XL lv [] st k := ⟨1, h⟩
theorem xl_cons {s r} {st : St} {k : Fl -> St -> Prop} (h : XS lv s st (seqK (fun st => XL lv r st k) k)) : XL lv (s :: r) st k := by
  obtain ⟨n, h⟩ := h
  refine (VA_det _ n).1 _ _ _ h fun fl s1 h1 h2 _ => ?_
  rcases seq_det h1 with ⟨⟨m, h3⟩, h4⟩ | ⟨h3, h4⟩
  · exact ⟨max n m + 1, h2 _ _ (max n m) (Sim.refl _) (Nat.le_max_left ..) ((h4 _ _).mpr (fuelL h3 (Nat.le_max_right ..)))⟩
  · exact ⟨n + 1, h2 _ _ n (Sim.refl _) (Nat.le_refl _) ((h4 _ _).mpr h3)⟩
theorem xi_nil {v a} {st : St} {k : Fl -> St -> Prop} (h : k .next st) : XI lv v [] a st k := ⟨1, h⟩
theorem xi_cons {v x r a} {st : St} {k : Fl -> St -> Prop} (h : XL lv a { st with loc := upd v x st.loc } (turnK (fun st => XI lv v r a st k) k)) : XI lv v (x :: r) a st k := by
  obtain ⟨n, h⟩ := h
  refine (VA_det _ n).2.1 _ _ _ h fun fl s1 h1 h2 _ => ?_
  rcases turn_det h1 with ⟨⟨m, h3⟩, h4⟩ | ⟨fl', h3, h4⟩
  · exact ⟨max n m + 1, h2 _ _ (max n m) (Sim.refl _) (Nat.le_max_left ..) ((h4 _ _).mpr (fuelI h3 (Nat.le_max_right ..)))⟩
  · exact ⟨n + 1, h2 _ _ n (Sim.refl _) (Nat.le_refl _) ((h4 _ _).mpr h3)⟩
theorem xs_asg {v e} {st : St} {k : Fl -> St -> Prop} (h : XE lv e st fun x st => k .next { st with loc := upd v x st.loc }) (n : e.noComp = true := by with_unfolding_all rfl) : XS lv (.asg v e) st k := ⟨1, n, h⟩
theorem xs_asgF {f e} {st : St} {k : Fl -> St -> Prop} (h : XE lv e st fun x st => st.loc.lookup 0 = some .obj /\ ∃ o o', st.ob = some o /\ o.put f x = some o' /\ k .next { st with ob := some o' }) (n : e.noComp = true := by with_unfolding_all rfl) : XS lv (.asgF f e) st k := ⟨1, n, h⟩
theorem xs_aug {v op e} {st : St} {k : Fl -> St -> Prop} (x : MV) (h0 : st.loc.lookup v = some x) (h : XE lv e st fun y st => binM op x y fun r => k .next { st with loc := upd v r st.loc }) : XS lv (.aug v op e) st k := ⟨1, x, h0, h⟩
theorem xs_augF {f op e} {st : St} {k : Fl -> St -> Prop} {o : Ob} {x : MV} (h00 : st.loc.lookup 0 = some .obj) (h0 : st.ob = some o) (h1 : o.get f = some x) (h : XE lv e st fun y st => binM op x y fun r => st.loc.lookup 0 = some .obj /\ ∃ o1 o', st.ob = some o1 /\ o1.put f r = some o' /\ k .next { st with ob := some o' }) : XS lv (.augF f op e) st k := ⟨1, h00, o, x, h0, h1, h⟩
theorem xs_ite {t a b} {st : St} {k : Fl -> St -> Prop} (h : XE lv t st fun x st => boolM x fun u => pick u (XL lv a st k) (XL lv b st k)) : XS lv (.ite t a b) st k := by
  refine VE_det _ t _ _ h fun x s1 h1 r1 _ => ?_
  refine boolM_det _ h1 fun u h2 r2 _ => ?_
  rcases pick_det h2 with ⟨e, n, q⟩ | ⟨e, n, q⟩
  · exact ⟨n + 1, r1 _ _ (Sim.refl _) (r2 _ (pickT e q))⟩
  · exact ⟨n + 1, r1 _ _ (Sim.refl _) (r2 _ (pickF e q))⟩
theorem xs_wh {t a} {st : St} {k : Fl -> St -> Prop} (h : XE lv t st fun x st => boolM x fun u => pick u (XL lv a st (turnK (fun st => XS lv (.wh t a) st k) k)) (k .next st)) : XS lv (.wh t a) st k := by
  refine VE_det _ t _ _ h fun x s1 h1 r1 _ => ?_
  refine boolM_det _ h1 fun u h2 r2 _ => ?_
  rcases pick_det h2 with ⟨e, n, q⟩ | ⟨e, q⟩
  · refine (VA_det _ n).2.1 _ _ _ q fun fl s2 h3 h4 _ => ?_
    rcases turn_det h3 with ⟨⟨m, h5⟩, h6⟩ | ⟨fl', h5, h6⟩
    · exact ⟨max n m + 1, r1 _ _ (Sim.refl _) (r2 _ (pickT e (h4 _ _ (max n m) (Sim.refl _) (Nat.le_max_left ..) ((h6 _ _).mpr (fuelS h5 (Nat.le_max_right ..))))))⟩
    · exact ⟨n + 1, r1 _ _ (Sim.refl _) (r2 _ (pickT e (h4 _ _ n (Sim.refl _) (Nat.le_refl _) ((h6 _ _).mpr h5))))⟩
  · exact ⟨1, r1 _ _ (Sim.refl _) (r2 _ (pickF e q))⟩
theorem xs_forR {v lo hi a} {st : St} {k : Fl -> St -> Prop} (h : XE lv lo st fun x st => XE lv hi st fun y st => ∃ i j, x = .int i /\ y = .int j /\ small i /\ small j /\ XI lv v (rangeL i 1 (j - i).toNat) a st k) : XS lv (.forR v lo hi a) st k := by
  refine VE_det _ lo _ _ h fun x s1 h1 r1 _ => ?_
  refine VE_det _ hi _ _ h1 fun y s2 hq2 r2 _ => ?_
  obtain ⟨i, j, e1, e2, h2, h3, n, h4⟩ := hq2
  exact ⟨n + 1, r1 _ _ (Sim.refl _) (r2 _ _ (Sim.refl _) ⟨i, j, e1, e2, h2, h3, h4⟩)⟩
theorem xs_forR1 {v hi a} {st : St} {k : Fl -> St -> Prop} (h : XE lv hi st fun y st => ∃ j, y = .int j /\ small j /\ XI lv v (rangeL 0 1 j.toNat) a st k) : XS lv (.forR1 v hi a) st k := by
  refine VE_det _ hi _ _ h fun y s2 hq2 r2 _ => ?_
  obtain ⟨j, e2, h2, n, h4⟩ := hq2
  exact ⟨n + 1, r2 _ _ (Sim.refl _) ⟨j, e2, h2, h4⟩⟩
theorem xs_forD {v hi a} {st : St} {k : Fl -> St -> Prop} (h : XE lv hi st fun y st => ∃ j, y = .int j /\ small j /\ XI lv v (rangeL j (-1) (j + 1).toNat) a st k) : XS lv (.forD v hi a) st k := by
  refine VE_det _ hi _ _ h fun y s2 hq2 r2 _ => ?_
  obtain ⟨j, e2, h2, n, h4⟩ := hq2
  exact ⟨n + 1, r2 _ _ (Sim.refl _) ⟨j, e2, h2, h4⟩⟩
theorem xs_forL {v e a} {st : St} {k : Fl -> St -> Prop} (h : XE lv e st fun y st => ∃ l, itemsM y = some l /\ l.length <= limS /\ XI lv v l a st k) : XS lv (.forL v e a) st k := by
  refine VE_det _ e _ _ h fun y s2 hq2 r2 _ => ?_
  obtain ⟨j, e2, h2, n, h4⟩ := hq2
  exact ⟨n + 1, r2 _ _ (Sim.refl _) ⟨j, e2, h2, h4⟩⟩
theorem xs_try {a j} {st : St} {k : Fl -> St -> Prop} (h : XL lv a st (catchK j k)) : XS lv (.tryE a j) st k := let ⟨n, h⟩ := h; ⟨n + 1, h⟩
theorem xs_raise {j} {st : St} {k : Fl -> St -> Prop} (h : k (.exc j) st) : XS lv (.raise j) st k := ⟨1, h⟩
theorem xs_ret {e} {st : St} {k : Fl -> St -> Prop} (h : XE lv e st fun x st => k (.ret x) st) : XS lv (.ret e) st k := ⟨1, h⟩
theorem xs_brk {st : St} {k : Fl -> St -> Prop} (h : k .brk st) : XS lv .brk st k := ⟨1, h⟩
theorem xs_cont {st : St} {k : Fl -> St -> Prop} (h : k .cont st) : XS lv .cont st k := ⟨1, h⟩
theorem xs_assert {e} {st : St} {k : Fl -> St -> Prop} (h : XE lv e st fun x st => boolM x fun t => t = true /\ k .next st) : XS lv (.assert e) st k := ⟨1, h⟩
theorem xs_ex {e} {st : St} {k : Fl -> St -> Prop} (h : XE lv e st fun _ st => k .next st) (n : e.noComp = true := by with_unfolding_all rfl) : XS lv (.ex e) st k := ⟨1, n, h⟩
theorem call_sp {f : Nat} {args : List MV} {st : St} {k : MV -> St -> Prop} (h : Sp f args st.ob fun r o => k r { st with ob := o }) (hf : f < lv := by decide) : callM (OA lv) f args st k := let ⟨r, o, h1, h2⟩ := h; ⟨hf, r, o, h1, h2⟩
theorem xe_call0 {f : Nat} {st : St} {k : MV -> St -> Prop} (h : Sp f [] st.ob fun r o => k r { st with ob := o }) (hf : f < lv := by decide) (h18 : f < 18 := by decide) : XE lv (.call0 f) st k := ⟨h18, call_sp h hf⟩
theorem xe_call1 {f : Nat} {a : E} {st : St} {k : MV -> St -> Prop} (h : XE lv a st fun x st => Sp f [x] st.ob fun r o => k r { st with ob := o }) (hf : f < lv := by decide) (h18 : f < 18 := by decide) : XE lv (.call1 f a) st k := ⟨h18, h.mono fun _ _ q => call_sp q hf⟩
theorem xe_call2 {f : Nat} {a b : E} {st : St} {k : MV -> St -> Prop} (h : XE lv a st fun x st => XE lv b st fun y st => Sp f [x, y] st.ob fun r o => k r { st with ob := o }) (hf : f < lv := by decide) (h18 : f < 18 := by decide) : XE lv (.call2 f a b) st k :=
  ⟨h18, h.mono fun _ _ h => XE.mono h fun _ _ q => call_sp q hf⟩
theorem xe_call3 {f : Nat} {a b c : E} {st : St} {k : MV -> St -> Prop} (h : XE lv a st fun x st => XE lv b st fun y st => XE lv c st fun z st => Sp f [x, y, z] st.ob fun r o => k r { st with ob := o }) (hf : f < lv := by decide) (h18 : f < 18 := by decide) : XE lv (.call3 f a b c) st k :=
  ⟨h18, h.mono fun _ _ h => XE.mono h fun _ _ h => XE.mono h fun _ _ q => call_sp q hf⟩
theorem xe_meth0 {f : Nat} {st : St} {k : MV -> St -> Prop} (h0 : st.loc.lookup 0 = some .obj) (h1 : st.ob.isSome = true) (h : Sp f [] st.ob fun r o => k r { st with ob := o }) (hf : f < lv := by decide) (h18 : 18 <= f /\ f < 40 := by decide) : XE lv (.meth0 f) st k := ⟨h18, h0, h1, call_sp h hf⟩
theorem xe_meth1 {f : Nat} {a : E} {st : St} {k : MV -> St -> Prop} (h0 : st.loc.lookup 0 = some .obj) (h1 : st.ob.isSome = true) (h : XE lv a st fun x st => Sp f [x] st.ob fun r o => k r { st with ob := o }) (hf : f < lv := by decide) (h18 : 18 <= f /\ f < 40 := by decide) : XE lv (.meth1 f a) st k :=
  ⟨h18, h0, h1, h.mono fun _ _ q => call_sp q hf⟩
theorem xe_meth3 {f : Nat} {a b c : E} {st : St} {k : MV -> St -> Prop} (h0 : st.loc.lookup 0 = some .obj) (h1 : st.ob.isSome = true) (h : XE lv a st fun x st => XE lv b st fun y st => XE lv c st fun z st => Sp f [x, y, z] st.ob fun r o => k r { st with ob := o }) (hf : f < lv := by decide) (h18 : 18 <= f /\ f < 40 := by decide) : XE lv (.meth3 f a b c) st k :=
  ⟨h18, h0, h1, h.mono fun _ _ h => XE.mono h fun _ _ h => XE.mono h fun _ _ q => call_sp q hf⟩
theorem xe_ometh1 {v f : Nat} {a : E} {st : St} {k : MV -> St -> Prop} (h0 : st.loc.lookup v = some .obj) (h1 : st.ob.isSome = true) (h : XE lv a st fun x st => Sp f [x] st.ob fun r o => k r { st with ob := o }) (hf : f < lv := by decide) (h18 : 18 <= f /\ f < 40 := by decide) : XE lv (.ometh1 v f a) st k :=
  ⟨h18, h0, h1, h.mono fun _ _ q => call_sp q hf⟩
end
theorem sp_of {f : Nat} {args : List MV} {ob : Option Ob} {Q : MV -> Option Ob -> Prop} (h : XL f (bodyOf f) ⟨(psOf f).zip (full f args), ob⟩ fun fl st => ∃ r, (fl = .ret r \/ (fl = .next /\ r = .none)) /\ Q r st.ob) (hf : f ≠ 38 := by decide) (hl : (full f args).length = (psOf f).length := by rfl) : Sp f args ob Q := by
  refine Sp.of ?_
  unfold Den
  rw [if_neg hf]
  exact ⟨hl, h⟩
theorem lookup_upd {k v : Nat} {x : MV} : ∀ {l : List (Nat × MV)}, (upd k x l).lookup v = if v = k then some x else l.lookup v
  | [] => by
    show List.lookup v [(k, x)] = _
    rw [List.lookup_cons]
    by_cases h : v = k
    · subst h; simp
    · have : (v == k) = false := beq_eq_false_iff_ne.mpr h
      rw [this]; simp [h]
  | (a, b) :: r => by
    show List.lookup v (if a = k then (a, x) :: r else (a, b) :: upd k x r) = _
    by_cases h : a = k
    · subst h
      rw [if_pos rfl, List.lookup_cons, List.lookup_cons]
      by_cases h2 : v = a
      · subst h2; simp
      · have : (v == a) = false := beq_eq_false_iff_ne.mpr h2
        rw [this, if_neg h2]
    · rw [if_neg h, List.lookup_cons, List.lookup_cons, lookup_upd (l := r)]
      by_cases h2 : v = a
      · subst h2; simp [h]
      · have : (v == a) = false := beq_eq_false_iff_ne.mpr h2
        rw [this]
noncomputable abbrev Lc := List (Nat × MV)
noncomputable abbrev KE := MV -> Lc -> Option Ob -> Prop
noncomputable abbrev KS := Fl -> Lc -> Option Ob -> Prop
noncomputable def YE (lv : Nat) (e : E) (l : Lc) (o : Option Ob) (k : KE) : Prop := XE lv e ⟨l, o⟩ fun x st => k x st.loc st.ob
noncomputable def YS (lv : Nat) (s : S) (l : Lc) (o : Option Ob) (k : KS) : Prop := XS lv s ⟨l, o⟩ fun f st => k f st.loc st.ob
noncomputable def YL (lv : Nat) (s : List S) (l : Lc) (o : Option Ob) (k : KS) : Prop := XL lv s ⟨l, o⟩ fun f st => k f st.loc st.ob
noncomputable def YI (lv : Nat) (v : Nat) (r : List MV) (a : List S) (l : Lc) (o : Option Ob) (k : KS) : Prop := XI lv v r a ⟨l, o⟩ fun f st => k f st.loc st.ob
noncomputable def sq (on : Lc -> Option Ob -> Prop) (k : KS) : KS
  | .next, l, o => on l o
  | f, l, o => k f l o
noncomputable def tn (on : Lc -> Option Ob -> Prop) (k : KS) : KS
  | .next, l, o => on l o
  | .cont, l, o => on l o
  | .brk, l, o => k .next l o
  | f, l, o => k f l o
noncomputable def ct (j : Nat) (k : KS) : KS
  | .exc i, l, o => if i = j then k .next l o else k (.exc i) l o
  | f, l, o => k f l o
noncomputable def fin (Q : MV -> Option Ob -> Prop) : KS
  | .ret r, _, o => Q r o
  | .next, _, o => Q .none o
  | _, _, _ => False
section
variable {lv : Nat} {l : Lc} {o : Option Ob} {k : KE} {q : KS}
theorem sq_next {on} (h : on l o) : sq on q .next l o := h
theorem sq_ret {on v} (h : q (.ret v) l o) : sq on q (.ret v) l o := h
theorem sq_brk {on} (h : q .brk l o) : sq on q .brk l o := h
theorem sq_cont {on} (h : q .cont l o) : sq on q .cont l o := h
theorem sq_exc {on j} (h : q (.exc j) l o) : sq on q (.exc j) l o := h
theorem tn_next {on} (h : on l o) : tn on q .next l o := h
theorem tn_cont {on} (h : on l o) : tn on q .cont l o := h
theorem tn_brk {on} (h : q .next l o) : tn on q .brk l o := h
theorem tn_ret {on v} (h : q (.ret v) l o) : tn on q (.ret v) l o := h
theorem tn_exc {on j} (h : q (.exc j) l o) : tn on q (.exc j) l o := h
theorem ct_next {j} (h : q .next l o) : ct j q .next l o := h
theorem ct_brk {j} (h : q .brk l o) : ct j q .brk l o := h
theorem ct_cont {j} (h : q .cont l o) : ct j q .cont l o := h
theorem ct_eq {j} (h : q .next l o) : ct j q (.exc j) l o := show (if j = j then _ else _) by rw [if_pos rfl]; exact h
theorem ct_ne {i j} (h : q (.exc i) l o) (n : i ≠ j := by decide) : ct j q (.exc i) l o := show (if i = j then _ else _) by rw [if_neg n]; exact h
theorem fin_ret {Q v} (h : Q v o) : fin Q (.ret v) l o := h
theorem fin_next {Q} (h : Q .none o) : fin Q .next l o := h
theorem ye_bool {b} (h : k (.bool b) l o) : YE lv (.bool b) l o k := h
theorem ye_int {i} (h : k (.int i) l o) : YE lv (.int i) l o k := h
theorem ye_str {s} (h : k (.str s) l o) : YE lv (.str s) l o k := h
theorem ye_var {v x} (h0 : l.lookup v = some x) (h : k x l o) : YE lv (.var v) l o k := ⟨x, h0, h⟩
theorem ye_fld {f ob x} (h0 : l.lookup 0 = some .obj) (h1 : Ob.get ob f = some x) (h : k x l (some ob)) : YE lv (.fld f) l (some ob) k := ⟨h0, ob, x, rfl, h1, h⟩
theorem ye_cattr {n x} (h0 : Gst.cattr n = some x) (h : k x l o) : YE lv (.cattr n) l o k := ⟨x, h0, h⟩
theorem ye_glob {n x} (h0 : Gst.glob n = some x) (h : k x l o) : YE lv (.glob n) l o k := ⟨x, h0, h⟩
theorem ye_amg0 {v a} (h0 : l.lookup v = some (.amg a)) (h : k (.str a.s) l o) : YE lv (.amgOf v 0) l o k := ⟨_, h0, .inl ⟨rfl, h⟩⟩
theorem ye_amg1 {v a} (h0 : l.lookup v = some (.amg a)) (h : k (.int a.sub) l o) : YE lv (.amgOf v 1) l o k := ⟨_, h0, .inr (.inl ⟨rfl, h⟩)⟩
theorem ye_amg2 {v a} (h0 : l.lookup v = some (.amg a)) (h : k (.int a.res) l o) : YE lv (.amgOf v 2) l o k := ⟨_, h0, .inr (.inr ⟨rfl, h⟩)⟩
theorem ye_bin {op a b} (h : YE lv a l o fun x l o => YE lv b l o fun y l o => binM op x y fun r => k r l o) : YE lv (.bin op a b) l o k := h
theorem ye_cmp {op a b} (h : YE lv a l o fun x l o => YE lv b l o fun y l o => cmpM op x y fun r => k (.bool r) l o) : YE lv (.cmp op a b) l o k := h
theorem ye_and {a b} (h : YE lv a l o fun x l o => boolM x fun t => pick t (YE lv b l o fun y l o => boolM y fun u => k (.bool u) l o) (k (.bool false) l o)) : YE lv (.bop true a b) l o k := h
theorem ye_or {a b} (h : YE lv a l o fun x l o => boolM x fun t => pick t (k (.bool true) l o) (YE lv b l o fun y l o => boolM y fun u => k (.bool u) l o)) : YE lv (.bop false a b) l o k := h
theorem ye_not {a} (h : YE lv a l o fun x l o => boolM x fun t => k (.bool (!t)) l o) : YE lv (.not a) l o k := h
theorem ye_ite {t a b} (h : YE lv t l o fun x l o => boolM x fun u => pick u (YE lv a l o k) (YE lv b l o k)) : YE lv (.ite t a b) l o k := h
theorem ye_idx {a i} (h : YE lv a l o fun x l o => YE lv i l o fun y l o => idxM x y fun r => k r l o) : YE lv (.idx a i) l o k := h
theorem ye_slice {a i j} (h : YE lv a l o fun x l o => YE lv i l o fun y l o => YE lv j l o fun z l o => sliceM x (some y) (some z) fun r => k r l o) : YE lv (.slice a i j) l o k := h
theorem ye_sliceLo {a i} (h : YE lv a l o fun x l o => YE lv i l o fun y l o => sliceM x (some y) Option.none fun r => k r l o) : YE lv (.sliceLo a i) l o k := h
theorem ye_sliceHi {a i} (h : YE lv a l o fun x l o => YE lv i l o fun y l o => sliceM x Option.none (some y) fun r => k r l o) : YE lv (.sliceHi a i) l o k := h
theorem ye_len {a} (h : YE lv a l o fun x l o => lenM x fun r => k r l o) : YE lv (.len a) l o k := h
theorem ye_ord {a} (h : YE lv a l o fun x l o => ∃ c, x = .str [c] /\ k (.int c) l o) : YE lv (.ord a) l o k := h
theorem ye_min {a b} (h : YE lv a l o fun x l o => YE lv b l o fun y l o => ∃ i j, x = .int i /\ y = .int j /\ k (.int (if j < i then j else i)) l o) : YE lv (.min a b) l o k := h
theorem ye_max {a b} (h : YE lv a l o fun x l o => YE lv b l o fun y l o => ∃ i j, x = .int i /\ y = .int j /\ k (.int (if i < j then j else i)) l o) : YE lv (.max a b) l o k := h
theorem ye_endsw {a b} (h : YE lv a l o fun x l o => ∃ p, x = .str p /\ YE lv b l o fun y l o => ∃ q, y = .str q /\ k (.bool (q.isSuffixOf p)) l o) : YE lv (.endsw a b) l o k := h
theorem ye_strs {s} (h0 : s.length <= limS) (h : k (.strs s) l o) : YE lv (.strs s) l o k := ⟨h0, h⟩
theorem ye_dict {s} (h0 : s ≠ [] /\ s.length <= 15 /\ (s.map (·.1)).Nodup) (h : k (.dict s) l o) : YE lv (.dict s) l o k := ⟨h0.1, h0.2.1, h0.2.2, h⟩
theorem ye_list2 {a b} (h : YE lv a l o fun x l o => YE lv b l o fun y l o => ∃ p q, x = .str p /\ y = .str q /\ k (.strs [p, q]) l o) : YE lv (.list2 a b) l o k := h
theorem ye_comp {e v src} (h : YE lv src l o fun x l o => ∃ r, itemsM x = some r /\ r.length <= limS /\ compL (VE Gst (OA lv) e) v r [] o fun s ob => k (.strs s) l ob) : YE lv (.comp e v src) l o k := h
theorem ye_join {a} (h : YE lv a l o fun x l o => ∃ s, x = .strs s /\ s.flatten.length <= limS /\ s.length <= limS /\ k (.str s.flatten) l o) : YE lv (.join a) l o k := h
theorem ye_call0 {f} (h : Sp f [] o fun r o => k r l o) (hf : f < lv := by decide) (h18 : f < 18 := by decide) : YE lv (.call0 f) l o k := xe_call0 h hf h18
theorem ye_call1 {f a} (h : YE lv a l o fun x l o => Sp f [x] o fun r o => k r l o) (hf : f < lv := by decide) (h18 : f < 18 := by decide) : YE lv (.call1 f a) l o k := xe_call1 h hf h18
theorem ye_call2 {f a b} (h : YE lv a l o fun x l o => YE lv b l o fun y l o => Sp f [x, y] o fun r o => k r l o) (hf : f < lv := by decide) (h18 : f < 18 := by decide) : YE lv (.call2 f a b) l o k := xe_call2 h hf h18
theorem ye_call3 {f a b c} (h : YE lv a l o fun x l o => YE lv b l o fun y l o => YE lv c l o fun z l o => Sp f [x, y, z] o fun r o => k r l o) (hf : f < lv := by decide) (h18 : f < 18 := by decide) : YE lv (.call3 f a b c) l o k := xe_call3 h hf h18
theorem ye_meth0 {f ob} (h0 : l.lookup 0 = some .obj) (h : Sp f [] (some ob) fun r o => k r l o) (hf : f < lv := by decide) (h18 : 18 <= f /\ f < 40 := by decide) : YE lv (.meth0 f) l (some ob) k := xe_meth0 h0 rfl h hf h18
theorem ye_meth1 {f a ob} (h0 : l.lookup 0 = some .obj) (h : YE lv a l (some ob) fun x l o => Sp f [x] o fun r o => k r l o) (hf : f < lv := by decide) (h18 : 18 <= f /\ f < 40 := by decide) : YE lv (.meth1 f a) l (some ob) k := xe_meth1 h0 rfl h hf h18
theorem ye_meth3 {f a b c ob} (h0 : l.lookup 0 = some .obj) (h : YE lv a l (some ob) fun x l o => YE lv b l o fun y l o => YE lv c l o fun z l o => Sp f [x, y, z] o fun r o => k r l o) (hf : f < lv := by decide) (h18 : 18 <= f /\ f < 40 := by decide) : YE lv (.meth3 f a b c) l (some ob) k := xe_meth3 h0 rfl h hf h18
theorem ye_ometh1 {v f a ob} (h0 : l.lookup v = some .obj) (h : YE lv a l (some ob) fun x l o => Sp f [x] o fun r o => k r l o) (hf : f < lv := by decide) (h18 : 18 <= f /\ f < 40 := by decide) : YE lv (.ometh1 v f a) l (some ob) k := xe_ometh1 h0 rfl h hf h18
theorem yl_nil (h : q .next l o) : YL lv [] l o q := xl_nil h
theorem yl_cons {s r} (h : YS lv s l o (sq (fun l o => YL lv r l o q) q)) : YL lv (s :: r) l o q := xl_cons (XS.mono h fun fl st z => by cases fl <;> exact z)
theorem yi_nil {v a} (h : q .next l o) : YI lv v [] a l o q := xi_nil h
theorem yi_cons {v x r a} (h : YL lv a (upd v x l) o (tn (fun l o => YI lv v r a l o q) q)) : YI lv v (x :: r) a l o q := xi_cons (XL.mono h fun fl st z => by cases fl <;> exact z)
theorem ys_asg {v e} (h : YE lv e l o fun x l o => q .next (upd v x l) o) (n : e.noComp = true := by with_unfolding_all rfl) : YS lv (.asg v e) l o q := xs_asg h n
theorem ys_asgF {f e} (h : YE lv e l o fun x l o => l.lookup 0 = some .obj /\ ∃ a b, o = some a /\ Ob.put a f x = some b /\ q .next l (some b)) (n : e.noComp = true := by with_unfolding_all rfl) : YS lv (.asgF f e) l o q := xs_asgF h n
theorem ys_aug {v op e x} (h0 : l.lookup v = some x) (h : YE lv e l o fun y l o => binM op x y fun r => q .next (upd v r l) o) : YS lv (.aug v op e) l o q := xs_aug x h0 h
theorem ys_augF {f op e ob x} (h00 : l.lookup 0 = some .obj) (h1 : Ob.get ob f = some x) (h : YE lv e l (some ob) fun y l o => binM op x y fun r => l.lookup 0 = some .obj /\ ∃ a b, o = some a /\ Ob.put a f r = some b /\ q .next l (some b)) : YS lv (.augF f op e) l (some ob) q := xs_augF h00 rfl h1 h
theorem ys_ite {t a b} (h : YE lv t l o fun x l o => boolM x fun u => pick u (YL lv a l o q) (YL lv b l o q)) : YS lv (.ite t a b) l o q := xs_ite h
theorem ys_wh {t a} (h : YE lv t l o fun x l o => boolM x fun u => pick u (YL lv a l o (tn (fun l o => YS lv (.wh t a) l o q) q)) (q .next l o)) : YS lv (.wh t a) l o q := xs_wh (XE.mono h fun x st z => by
  refine boolM_det _ z fun u h2 r2 _ => ?_
  refine r2 _ ?_
  rcases pick_det h2 with ⟨e, p⟩ | ⟨e, p⟩
  · exact pickT e (XL.mono p fun fl st z => by cases fl <;> exact z)
  · exact pickF e p)
theorem ys_forR {v lo hi a} (h : YE lv lo l o fun x l o => YE lv hi l o fun y l o => ∃ i j, x = .int i /\ y = .int j /\ small i /\ small j /\ YI lv v (rangeL i 1 (j - i).toNat) a l o q) : YS lv (.forR v lo hi a) l o q := xs_forR h
theorem ys_forR1 {v hi a} (h : YE lv hi l o fun y l o => ∃ j, y = .int j /\ small j /\ YI lv v (rangeL 0 1 j.toNat) a l o q) : YS lv (.forR1 v hi a) l o q := xs_forR1 h
theorem ys_forD {v hi a} (h : YE lv hi l o fun y l o => ∃ j, y = .int j /\ small j /\ YI lv v (rangeL j (-1) (j + 1).toNat) a l o q) : YS lv (.forD v hi a) l o q := xs_forD h
theorem ys_forL {v e a} (h : YE lv e l o fun y l o => ∃ r, itemsM y = some r /\ r.length <= limS /\ YI lv v r a l o q) : YS lv (.forL v e a) l o q := xs_forL h
theorem ys_try {a j} (h : YL lv a l o (ct j q)) : YS lv (.tryE a j) l o q := xs_try (XL.mono h fun fl st z => by cases fl <;> exact z)
theorem ys_raise {j} (h : q (.exc j) l o) : YS lv (.raise j) l o q := xs_raise h
theorem ys_ret {e} (h : YE lv e l o fun x l o => q (.ret x) l o) : YS lv (.ret e) l o q := xs_ret h
theorem ys_brk (h : q .brk l o) : YS lv .brk l o q := xs_brk h
theorem ys_cont (h : q .cont l o) : YS lv .cont l o q := xs_cont h
theorem ys_assert {e} (h : YE lv e l o fun x l o => boolM x fun t => t = true /\ q .next l o) : YS lv (.assert e) l o q := xs_assert h
theorem ys_ex {e} (h : YE lv e l o fun _ l o => q .next l o) (n : e.noComp = true := by with_unfolding_all rfl) : YS lv (.ex e) l o q := xs_ex h n
end
theorem sp_fin {f : Nat} {args : List MV} {ob : Option Ob} {Q : MV -> Option Ob -> Prop} (h : YL f (bodyOf f) ((psOf f).zip (full f args)) ob (fin Q)) (hf : f ≠ 38 := by decide) (hl : (full f args).length = (psOf f).length := by rfl) : Sp f args ob Q :=
  sp_of (XL.mono h fun fl st z => by
    cases fl <;> first | exact z.elim | exact ⟨_, .inl rfl, z⟩ | exact ⟨_, .inr ⟨rfl, rfl⟩, z⟩) hf hl
section
theorem m_bool {b} {k : Bool -> Prop} (h : k b) : boolM (.bool b) k := h
theorem m_addi {x y} {k : MV -> Prop} (h : k (.int (x + y))) : binM .add (.int x) (.int y) k := h
theorem m_subi {x y} {k : MV -> Prop} (h : k (.int (x - y))) : binM .sub (.int x) (.int y) k := h
theorem m_shr {x} {k : MV -> Prop} (h : k (.int (Int.fdiv x 2))) : binM .shr (.int x) (.int 1) k := ⟨rfl, h⟩
theorem l1000 {n : Nat} (h : n <= 1000) : n <= limS := Nat.le_trans h (by decide)
theorem m_mod {x} {k : MV -> Prop} (h : k (.int (Int.fmod x 86))) : binM .mod (.int x) (.int 86) k := ⟨.inl rfl, h⟩
theorem m_mod2 {x} {k : MV -> Prop} (h : k (.int (Int.fmod x 2))) : binM .mod (.int x) (.int 2) k := ⟨.inr rfl, h⟩
theorem m_adds {x y} {k : MV -> Prop} (h1 : x.length <= limS) (h2 : y.length <= limS) (h : k (.str (x ++ y))) : binM .add (.str x) (.str y) k := ⟨rfl, h1, h2, h⟩
theorem m_eqi {x y : Int} {k : Bool -> Prop} (h : k (decide (x = y))) : cmpM .eq (.int x) (.int y) k := h
theorem m_nei {x y : Int} {k : Bool -> Prop} (h : k (!decide (x = y))) : cmpM .ne (.int x) (.int y) k := h
theorem m_lti {x y : Int} {k : Bool -> Prop} (h : k (decide (x < y))) : cmpM .lt (.int x) (.int y) k := h
theorem m_lei {x y : Int} {k : Bool -> Prop} (h : k (decide (x <= y))) : cmpM .le (.int x) (.int y) k := h
theorem m_gti {x y : Int} {k : Bool -> Prop} (h : k (decide (y < x))) : cmpM .gt (.int x) (.int y) k := h
theorem m_gei {x y : Int} {k : Bool -> Prop} (h : k (decide (y <= x))) : cmpM .ge (.int x) (.int y) k := h
theorem m_eqs {x y : List Nat} {k : Bool -> Prop} (h : k (x == y)) : cmpM .eq (.str x) (.str y) k := h
theorem m_nes {x y : List Nat} {k : Bool -> Prop} (h : k (!(x == y))) : cmpM .ne (.str x) (.str y) k := h
theorem m_ins {x y} {k : Bool -> Prop} (h : k (y.contains x)) : cmpM .isin (.str x) (.strs y) k := h
theorem m_nins {x y} {k : Bool -> Prop} (h : k (!y.contains x)) : cmpM .notin (.str x) (.strs y) k := h
theorem m_inset {x y} {k : Bool -> Prop} (h1 : y.length < 100) (h : k (y.contains x)) : cmpM .isin (.str [x]) (.set y) k := ⟨x, rfl, h1, h⟩
theorem m_ninset {x y} {k : Bool -> Prop} (h1 : y.length < 100) (h : k (!y.contains x)) : cmpM .notin (.str [x]) (.set y) k := ⟨x, rfl, h1, h⟩
theorem m_indict {x} {y : List (List Nat × List Nat)} {k : Bool -> Prop} (h : k ((y.lookup x).isSome)) : cmpM .isin (.str x) (.dict y) k := ⟨rfl, h⟩
theorem m_eqss {x y : List (List Nat)} {k : Bool -> Prop} (h1 : x.length <= limS) (h2 : y.length <= limS) (h : k (x == y)) : cmpM .eq (.strs x) (.strs y) k := ⟨rfl, h1, h2, h⟩
theorem m_idxs {l : List Nat} {n : Int} {i x : Nat} {k : MV -> Prop} (hi : n = (i : Int)) (hx : l[i]? = some x) (hl : l.length <= limS) (h : k (.str [x])) : idxM (.str l) (.int n) k := by
  subst hi
  exact ⟨Int.natCast_nonneg _, hl, x, by rw [Int.toNat_natCast]; exact hx, h⟩
theorem m_idxss {l : List (List Nat)} {n : Int} {i : Nat} {x} {k : MV -> Prop} (hi : n = (i : Int)) (hx : l[i]? = some x) (hl : l.length <= limS) (h : k (.str x)) : idxM (.strs l) (.int n) k := by
  subst hi
  exact ⟨Int.natCast_nonneg _, hl, x, by rw [Int.toNat_natCast]; exact hx, h⟩
theorem m_idxt {l : List Amg} {n : Int} {i : Nat} {x} {k : MV -> Prop} (hi : n = (i : Int)) (hx : l[i]? = some x) (hl : l.length <= limS) (h : k (.amg x)) : idxM (.tab l) (.int n) k := by
  subst hi
  exact ⟨Int.natCast_nonneg _, hl, x, by rw [Int.toNat_natCast]; exact hx, h⟩
theorem m_idxd {l : List (List Nat × List Nat)} {x y} {k : MV -> Prop} (hx : l.lookup x = some y) (h : k (.str y)) : idxM (.dict l) (.str x) k := ⟨y, hx, h⟩
theorem m_slice {l : List Nat} {x y : Int} {a b : Nat} {k : MV -> Prop} (ha : x = (a : Int)) (hb : y = (b : Int)) (h1 : small x) (h2 : small y) (hl : l.length <= limS) (h : k (.str (ssub l a b))) : sliceM (.str l) (some (.int x)) (some (.int y)) k := by
  subst ha hb
  refine ⟨hl, Int.natCast_nonneg _, h1, Int.natCast_nonneg _, h2, ?_⟩
  show k _
  rw [Int.toNat_natCast, Int.toNat_natCast]; exact h
theorem m_sliceLo {l : List Nat} {x : Int} {a : Nat} {k : MV -> Prop} (ha : x = (a : Int)) (h1 : small x) (hl : l.length <= limS) (h : k (.str (l.drop a))) : sliceM (.str l) (some (.int x)) Option.none k := by
  subst ha
  refine ⟨hl, Int.natCast_nonneg _, h1, ?_⟩
  show k _
  rw [Int.toNat_natCast]; exact h
theorem m_sliceHi {l : List Nat} {x : Int} {a : Nat} {k : MV -> Prop} (ha : x = (a : Int)) (h1 : small x) (hl : l.length <= limS) (h : k (.str (l.take a))) : sliceM (.str l) Option.none (some (.int x)) k := by
  subst ha
  refine ⟨hl, Int.natCast_nonneg _, h1, ?_⟩
  show k _
  rw [Int.toNat_natCast]; exact h
theorem m_sliceI {l : List Int} {x y : Int} {a b : Nat} {k : MV -> Prop} (ha : x = (a : Int)) (hb : y = (b : Int)) (h1 : small x) (h2 : small y) (hl : l.length <= limS) (h : k (.ints ((l.drop a).take (b - a)))) : sliceM (.ints l) (some (.int x)) (some (.int y)) k := by
  subst ha hb
  refine ⟨hl, Int.natCast_nonneg _, h1, Int.natCast_nonneg _, h2, ?_⟩
  show k _
  rw [Int.toNat_natCast, Int.toNat_natCast]; exact h
theorem m_sliceHiI {l : List Int} {x : Int} {a : Nat} {k : MV -> Prop} (ha : x = (a : Int)) (h1 : small x) (hl : l.length <= limS) (h : k (.ints (l.take a))) : sliceM (.ints l) Option.none (some (.int x)) k := by
  subst ha
  refine ⟨hl, Int.natCast_nonneg _, h1, ?_⟩
  show k _
  rw [Int.toNat_natCast]; exact h
theorem m_lens {l : List Nat} {k : MV -> Prop} (hl : l.length <= limS) (h : k (.int l.length)) : lenM (.str l) k := ⟨hl, h⟩
theorem m_lent {l : List Amg} {k : MV -> Prop} (hl : l.length <= limS) (h : k (.int l.length)) : lenM (.tab l) k := ⟨hl, h⟩
end
theorem lu_ne {v u x y} {l : Lc} (h : v ≠ u) (q : l.lookup v = some x) : (upd u y l).lookup v = some x := by rw [lookup_upd, if_neg h]; exact q
theorem lu_eq {v x} {l : Lc} : (upd v x l).lookup v = some x := by rw [lookup_upd, if_pos rfl]
noncomputable def EvT (l : Lc) (o : Option Ob) (e : E) (v : MV) : Prop := ∀ (lv : Nat) (k : KE), k v l o -> YE lv e l o k
noncomputable def BinT (op : Bop) (x y r : MV) : Prop := ∀ k : MV -> Prop, k r -> binM op x y k
noncomputable def CmpT (op : Cop) (x y : MV) (r : Bool) : Prop := ∀ k : Bool -> Prop, k r -> cmpM op x y k
section
theorem b_add {x y : Int} : BinT .add (.int x) (.int y) (.int (x + y)) := fun _ h => h
theorem b_sub {x y : Int} : BinT .sub (.int x) (.int y) (.int (x - y)) := fun _ h => h
theorem c_eq {x y : Int} : CmpT .eq (.int x) (.int y) (decide (x = y)) := fun _ h => h
theorem c_ne {x y : Int} : CmpT .ne (.int x) (.int y) (!decide (x = y)) := fun _ h => h
theorem c_lt {x y : Int} : CmpT .lt (.int x) (.int y) (decide (x < y)) := fun _ h => h
theorem c_le {x y : Int} : CmpT .le (.int x) (.int y) (decide (x <= y)) := fun _ h => h
theorem c_gt {x y : Int} : CmpT .gt (.int x) (.int y) (decide (y < x)) := fun _ h => h
theorem c_ge {x y : Int} : CmpT .ge (.int x) (.int y) (decide (y <= x)) := fun _ h => h
theorem c_eqs {x y : List Nat} : CmpT .eq (.str x) (.str y) (x == y) := fun _ h => h
theorem c_nes {x y : List Nat} : CmpT .ne (.str x) (.str y) (!(x == y)) := fun _ h => h
theorem c_in {x y} : CmpT .isin (.str x) (.strs y) (y.contains x) := fun _ h => h
theorem c_nin {x y} : CmpT .notin (.str x) (.strs y) (!y.contains x) := fun _ h => h
variable {l : Lc} {o : Option Ob}
theorem ye_ev {lv e v} {k : KE} (h : EvT l o e v) (q : k v l o) : YE lv e l o k := h lv k q
theorem ev_bool {b} : EvT l o (.bool b) (.bool b) := fun _ _ h => h
theorem ev_int {i} : EvT l o (.int i) (.int i) := fun _ _ h => h
theorem ev_neg1 : EvT l o .neg1 (.int (-1)) := fun _ _ h => h
theorem ev_str {s} : EvT l o (.str s) (.str s) := fun _ _ h => h
theorem ev_strs {s} (h0 : s.length <= limS) : EvT l o (.strs s) (.strs s) := fun _ _ h => ye_strs h0 h
theorem ev_var {v x} (h0 : l.lookup v = some x) : EvT l o (.var v) x := fun _ _ h => ye_var h0 h
theorem ev_fld {f ob x} (h0 : l.lookup 0 = some .obj) (h1 : Ob.get ob f = some x) : EvT l (some ob) (.fld f) x := fun _ _ h => ye_fld h0 h1 h
theorem ev_cattr {n x} (h0 : Gst.cattr n = some x) : EvT l o (.cattr n) x := fun _ _ h => ye_cattr h0 h
theorem ev_glob {n x} (h0 : Gst.glob n = some x) : EvT l o (.glob n) x := fun _ _ h => ye_glob h0 h
theorem ev_amg0 {v a} (h0 : l.lookup v = some (.amg a)) : EvT l o (.amgOf v 0) (.str a.s) := fun _ _ h => ye_amg0 h0 h
theorem ev_amg1 {v a} (h0 : l.lookup v = some (.amg a)) : EvT l o (.amgOf v 1) (.int a.sub) := fun _ _ h => ye_amg1 h0 h
theorem ev_amg2 {v a} (h0 : l.lookup v = some (.amg a)) : EvT l o (.amgOf v 2) (.int a.res) := fun _ _ h => ye_amg2 h0 h
theorem ev_bin {op a b x y r} (h1 : EvT l o a x) (h2 : EvT l o b y) (h3 : BinT op x y r) : EvT l o (.bin op a b) r := fun _ _ h => ye_bin (h1 _ _ (h2 _ _ (h3 _ h)))
theorem ev_cmp {op a b x y r} (h1 : EvT l o a x) (h2 : EvT l o b y) (h3 : CmpT op x y r) : EvT l o (.cmp op a b) (.bool r) := fun _ _ h => ye_cmp (h1 _ _ (h2 _ _ (h3 _ h)))
theorem ev_min {a b} {i j : Int} (h1 : EvT l o a (.int i)) (h2 : EvT l o b (.int j)) : EvT l o (.min a b) (.int (if j < i then j else i)) := fun _ _ h => ye_min (h1 _ _ (h2 _ _ ⟨_, _, rfl, rfl, h⟩))
theorem ev_lens {a} {s : List Nat} (h1 : EvT l o a (.str s)) (h2 : s.length <= limS) : EvT l o (.len a) (.int s.length) := fun _ _ h => ye_len (h1 _ _ (m_lens h2 h))
variable {lv : Nat} {q : KS} {r : List S}
theorem yl_asg {v e x} (h : EvT l o e x) (z : YL lv r (upd v x l) o q) (n : e.noComp = true := by with_unfolding_all rfl) : YL lv (.asg v e :: r) l o q := yl_cons (ys_asg (ye_ev h z) n)
theorem yl_ite {t a b u} (h : EvT l o t (.bool u)) (z : pick u (YL lv a l o (sq (fun l o => YL lv r l o q) q)) (YL lv b l o (sq (fun l o => YL lv r l o q) q))) : YL lv (.ite t a b :: r) l o q := yl_cons (ys_ite (ye_ev h z))
theorem yl_ret {e x} (h : EvT l o e x) (z : q (.ret x) l o) : YL lv (.ret e :: r) l o q := yl_cons (ys_ret (ye_ev h z))
theorem yl_end {on : Lc -> Option Ob -> Prop} (h : on l o) : YL lv [] l o (sq on q) := yl_nil h
end
noncomputable def lcp : List Nat -> List Nat -> Nat
  | x :: a, y :: b => if x = y then lcp a b + 1 else 0
  | _, _ => 0
noncomputable def ltT : List Nat -> List Nat -> Bool
  | _, [] => false
  | [], _ :: _ => true
  | t :: T, k :: K => if t = k then ltT T K else decide (t < k)
theorem lcp_cons {x y : Nat} {a b : List Nat} : lcp (x :: a) (y :: b) = if x = y then lcp a b + 1 else 0 := rfl
theorem ltT_cons {t k : Nat} {T K : List Nat} : ltT (t :: T) (k :: K) = if t = k then ltT T K else decide (t < k) := rfl
theorem lcp_nil_right (T : List Nat) : lcp T [] = 0 := by cases T <;> rfl
theorem ltT_nil (T : List Nat) : ltT T [] = false := by cases T <;> rfl
theorem lcp_le_right : ∀ (T k : List Nat), lcp T k <= k.length
  | [], _ => Nat.zero_le _
  | _ :: _, [] => Nat.zero_le _
  | x :: a, y :: b => by
    rw [lcp_cons]
    split
    · have := lcp_le_right a b; simp only [List.length_cons]; lia
    · lia
theorem lcp_le_left : ∀ (T k : List Nat), lcp T k <= T.length
  | [], _ => Nat.zero_le _
  | _ :: _, [] => Nat.zero_le _
  | x :: a, y :: b => by
    rw [lcp_cons]
    split
    · have := lcp_le_left a b; simp only [List.length_cons]; lia
    · lia
theorem pre_lcp : ∀ {p k T : List Nat}, p <+: k -> (p <+: T ↔ p.length <= lcp T k)
  | [], k, T, _ => by simp
  | x :: p, [], T, h => by simp at h
  | x :: p, y :: k, [], h => by
    have : lcp [] (y :: k) = 0 := rfl
    rw [this]; simp
  | x :: p, y :: k, z :: T, h => by
    rw [List.cons_prefix_cons] at h
    obtain ⟨rfl, h⟩ := h
    have ih := pre_lcp (T := T) h
    rw [List.cons_prefix_cons]
    rw [lcp_cons]
    by_cases e : z = x
    · subst e
      rw [if_pos rfl]
      simp only [true_and, List.length_cons]
      rw [ih]; lia
    · rw [if_neg e]
      constructor
      · rintro ⟨rfl, _⟩; exact absurd rfl e
      · intro q; simp at q
theorem ltT_pre : ∀ {p T k : List Nat}, p <+: T -> ltT T k = true -> ltT p k = true
  | p, T, [], _, h => by rw [ltT_nil] at h; cases h
  | [], T, y :: k, _, _ => rfl
  | x :: p, [], y :: k, h, _ => by simp at h
  | x :: p, z :: T, y :: k, h, q => by
    rw [List.cons_prefix_cons] at h
    obtain ⟨rfl, h⟩ := h
    rw [ltT_cons] at q ⊢
    by_cases e : x = y
    · rw [if_pos e] at q ⊢; exact ltT_pre h q
    · rw [if_neg e] at q ⊢; exact q
theorem pre_of_le : ∀ {p T k : List Nat}, p <+: T -> ltT T k = false -> ltT k p = false -> p <+: k
  | [], T, k, _, _, _ => List.nil_prefix
  | x :: p, [], k, h, _, _ => by simp at h
  | x :: p, z :: T, [], h, _, q => by cases q
  | x :: p, z :: T, y :: k, h, h1, h2 => by
    rw [List.cons_prefix_cons] at h
    obtain ⟨rfl, h⟩ := h
    rw [ltT_cons] at h1 h2
    by_cases e : x = y
    · subst e
      rw [if_pos rfl] at h1 h2
      rw [List.cons_prefix_cons]
      exact ⟨rfl, pre_of_le h h1 h2⟩
    · rw [if_neg e] at h1
      rw [if_neg (fun q => e q.symm)] at h2
      have h1 := of_decide_eq_false h1
      have h2 := of_decide_eq_false h2
      lia
theorem lcp_tri : ∀ (T a x : List Nat), min (lcp T a) (lcp a x) <= lcp T x
  | [], a, x => by
    have : lcp [] a = 0 := rfl
    rw [this]; lia
  | z :: T, [], x => by
    have : lcp (z :: T) [] = 0 := rfl
    rw [this]; lia
  | z :: T, y :: a, [] => by
    have : lcp (y :: a) [] = 0 := rfl
    rw [this]; lia
  | z :: T, y :: a, x :: k => by
    have ih := lcp_tri T a k
    rw [lcp_cons, lcp_cons, lcp_cons]
    by_cases e1 : z = y
    · by_cases e2 : y = x
      · rw [if_pos e1, if_pos e2, if_pos (e1.trans e2)]; lia
      · rw [if_neg e2]; lia
    · rw [if_neg e1]; lia
theorem lcp_end : ∀ {T k : List Nat} {m : Nat}, m <= lcp T k -> T.length = m -> m < k.length -> lcp T k = m /\ ltT T k = true
  | [], y :: k, m, _, h, _ => by
    have h : 0 = m := h
    subst h
    exact ⟨rfl, rfl⟩
  | z :: T, [], m, _, _, h => by simp at h
  | [], [], m, _, _, h => by simp at h
  | z :: T, y :: k, m, h1, h2, h3 => by
    rw [lcp_cons] at h1 ⊢
    rw [ltT_cons]
    simp only [List.length_cons] at h2 h3
    by_cases e : z = y
    · rw [if_pos e] at h1 ⊢
      rw [if_pos e]
      have := lcp_end (T := T) (k := k) (m := m - 1) (by lia) (by lia) (by lia)
      exact ⟨by lia, this.2⟩
    · rw [if_neg e] at h1; lia
theorem lcp_ne : ∀ {T k : List Nat} {m t x : Nat}, m <= lcp T k -> T[m]? = some t -> k[m]? = some x -> t ≠ x -> lcp T k = m /\ ltT T k = decide (t < x)
  | [], k, m, t, x, _, h, _, _ => by simp at h
  | z :: T, [], m, t, x, _, _, h, _ => by simp at h
  | z :: T, y :: k, m, t, x, h1, h2, h3, h4 => by
    rw [lcp_cons] at h1 ⊢
    rw [ltT_cons]
    cases m with
    | zero =>
      simp only [List.getElem?_cons_zero, Option.some.injEq] at h2 h3
      subst h2 h3
      rw [if_neg h4, if_neg h4]
      exact ⟨rfl, rfl⟩
    | succ m =>
      simp only [List.getElem?_cons_succ] at h2 h3
      by_cases e : z = y
      · rw [if_pos e] at h1 ⊢
        rw [if_pos e]
        have := lcp_ne (T := T) (k := k) (m := m) (by lia) h2 h3 h4
        exact ⟨by lia, this.2⟩
      · rw [if_neg e] at h1; lia
theorem lcp_on : ∀ {T k : List Nat} {m t : Nat}, m <= lcp T k -> T[m]? = some t -> k[m]? = some t -> m + 1 <= lcp T k
  | [], k, m, t, _, h, _ => by simp at h
  | z :: T, [], m, t, _, _, h => by simp at h
  | z :: T, y :: k, m, t, h1, h2, h3 => by
    rw [lcp_cons] at h1 ⊢
    cases m with
    | zero =>
      simp only [List.getElem?_cons_zero, Option.some.injEq] at h2 h3
      rw [if_pos (h2.trans h3.symm)]; lia
    | succ m =>
      simp only [List.getElem?_cons_succ] at h2 h3
      by_cases e : z = y
      · rw [if_pos e] at h1 ⊢
        have := lcp_on (T := T) (k := k) (m := m) (by lia) h2 h3
        lia
      · rw [if_neg e] at h1; lia
theorem lcp_full : ∀ {T k : List Nat}, k.length <= lcp T k -> lcp T k = k.length /\ ltT T k = false
  | T, [], _ => ⟨lcp_nil_right T, ltT_nil T⟩
  | [], y :: k, h => by
    have h : (y :: k).length <= 0 := h
    simp at h
  | z :: T, y :: k, h => by
    rw [lcp_cons] at h ⊢
    rw [ltT_cons]
    simp only [List.length_cons] at h ⊢
    by_cases e : z = y
    · rw [if_pos e] at h ⊢
      rw [if_pos e]
      have := lcp_full (T := T) (k := k) (by lia)
      exact ⟨by lia, this.2⟩
    · rw [if_neg e] at h; lia
structure TabOk (tab : List Amg) (key : Amg -> List Nat) : Prop where
  two : 2 <= tab.length /\ tab.length <= 1000
  len : ∀ a ∈ tab, ((key a).length = a.s.length /\ a.s.length <= 50) /\ ∀ x ∈ a.s, x < 1000
  sorted : ∀ (m i : Nat), m <= i -> ∀ x y, tab[m]? = some x -> tab[i]? = some y -> ltT (key y) (key x) = false
  mid : ∀ (i k j : Nat), i < k -> k < j -> ∀ x y z, tab[i]? = some x -> tab[k]? = some y -> tab[j]? = some z -> lcp (key x) (key z) <= lcp (key x) (key y)
  sub : ∀ (i : Nat) x, tab[i]? = some x -> (x.sub < 0 \/ ∃ n : Nat, x.sub = n /\ n < i /\ ∃ y, tab[n]? = some y /\ key y <+: key x) ∧
    ∀ (m : Nat) y, tab[m]? = some y -> key y <+: key x -> key y ≠ key x -> ∃ n : Nat, x.sub = n /\ ∃ z, tab[n]? = some z /\ key y <+: key z
noncomputable def tabB (tab : List Amg) (key : Amg -> List Nat) : Bool :=
  decide (2 <= tab.length /\ tab.length <= 1000) && tab.all (fun a => ((key a).length == a.s.length && Nat.ble a.s.length 50) && a.s.all fun x => Nat.blt x 1000) &&
  (List.range tab.length).all (fun i => (List.range tab.length).all fun m => !(Nat.ble m i) || match tab[m]?, tab[i]? with | some x, some y => !ltT (key y) (key x) | _, _ => true) &&
  (List.range tab.length).all (fun i => (List.range tab.length).all fun k => (List.range tab.length).all fun j => !(Nat.blt i k) || !(Nat.blt k j) || match tab[i]?, tab[k]?, tab[j]? with | some x, some y, some z => Nat.ble (lcp (key x) (key z)) (lcp (key x) (key y)) | _, _, _ => true) &&
  (List.range tab.length).all (fun i => match tab[i]? with
    | some x => (match x.sub with
      | .negSucc _ => (tab.all fun y => !(key y).isPrefixOf (key x) || key y == key x)
      | .ofNat n => Nat.blt n i && (match tab[n]? with
        | some z => (key z).isPrefixOf (key x) && tab.all (fun y => !(key y).isPrefixOf (key x) || key y == key x || (key y).isPrefixOf (key z))
        | none => false))
    | none => true)
theorem all_get {α : Type} {l : List α} {p : α -> Bool} (h : l.all p = true) {i : Nat} {x : α} (e : l[i]? = some x) : p x = true := List.all_eq_true.mp h x (List.mem_of_getElem? e)
theorem rng {n : Nat} {p : Nat -> Bool} (h : (List.range n).all p = true) {i : Nat} (hi : i < n) : p i = true := List.all_eq_true.mp h i (List.mem_range.mpr hi)
theorem get_lt {α : Type} {l : List α} {i : Nat} {x : α} (e : l[i]? = some x) : i < l.length := (List.getElem?_eq_some_iff.mp e).1
set_option tactic.hygienic true in
theorem tabB_of {tab : List Amg} {key : Amg -> List Nat} (h : tabB tab key = true) : TabOk tab key := by
  unfold tabB at h
  simp only [Bool.and_eq_true] at h
  obtain ⟨⟨⟨⟨h1, h2⟩, h3⟩, h4⟩, h5⟩ := h
  refine ⟨of_decide_eq_true h1, fun a ha => ?_, fun m i hmi x y hx hy => ?_, fun i k j hik hkj x y z hx hy hz => ?_, fun i x hx => ?_⟩
  · have := List.all_eq_true.mp h2 a ha
    simp only [Bool.and_eq_true, beq_iff_eq] at this
    exact ⟨⟨this.1.1, Nat.ble_eq.mp this.1.2⟩, fun x hx => Nat.blt_eq.mp (List.all_eq_true.mp this.2 x hx)⟩
  · have := rng (rng h3 (get_lt hy)) (get_lt hx)
    rw [hx, hy, Nat.ble_eq.mpr hmi] at this
    simpa using this
  · have := rng (rng (rng h4 (get_lt hx)) (get_lt hy)) (get_lt hz)
    rw [hx, hy, hz, Nat.blt_eq.mpr hik, Nat.blt_eq.mpr hkj] at this
    exact Nat.ble_eq.mp (by simpa using this)
  · have := rng h5 (get_lt hx)
    rw [hx] at this
    dsimp only at this
    split at this
    · rename_i n e
      refine ⟨.inl (by rw [e]; exact Int.negSucc_lt_zero n), fun m y hy hp hne => ?_⟩
      have := all_get this hy
      simp only [Bool.or_eq_true, Bool.not_eq_true', beq_iff_eq] at this
      rcases this with q | q
      · rw [List.isPrefixOf_iff_prefix.mpr hp] at q; cases q
      · exact absurd q hne
    · rename_i n e
      obtain ⟨k1, k2⟩ := Bool.and_eq_true_iff.mp this
      split at k2
      · rename_i z hz
        obtain ⟨k3, k4⟩ := Bool.and_eq_true_iff.mp k2
        refine ⟨.inr ⟨n, e, Nat.blt_eq.mp k1, z, hz, List.isPrefixOf_iff_prefix.mp k3⟩, fun m y hy hp hne => ⟨n, e, z, hz, ?_⟩⟩
        have := all_get k4 hy
        simp only [Bool.or_eq_true, Bool.not_eq_true', beq_iff_eq] at this
        rcases this with (q | q) | q
        · rw [List.isPrefixOf_iff_prefix.mpr hp] at q; cases q
        · exact absurd q hne
        · exact List.isPrefixOf_iff_prefix.mp q
      · cases k2
noncomputable abbrev mo (w : List Nat) (c lb bra ket : Nat) (p1 p2 : Int) : Ob := ⟨some w, some c, some w.length, some lb, some bra, some ket, p1, p2⟩
section
variable {l : Lc} {Q : Ob -> Prop} {cur : Option (List Nat)} {c L lb bra ket : Option Int} {q1 q2 i : Int} {s : List Nat}
theorem p0 (h0 : l.lookup 0 = some .obj) (h : Q ⟨some s, c, L, lb, bra, ket, q1, q2⟩) : l.lookup 0 = some .obj /\ ∃ a b, some (Ob.mk cur c L lb bra ket q1 q2) = some a /\ Ob.put a 0 (.str s) = some b /\ Q b := ⟨h0, _, _, rfl, rfl, h⟩
theorem p1 (h0 : l.lookup 0 = some .obj) (h : Q ⟨cur, some i, L, lb, bra, ket, q1, q2⟩) : l.lookup 0 = some .obj /\ ∃ a b, some (Ob.mk cur c L lb bra ket q1 q2) = some a /\ Ob.put a 1 (.int i) = some b /\ Q b := ⟨h0, _, _, rfl, rfl, h⟩
theorem p2 (h0 : l.lookup 0 = some .obj) (h : Q ⟨cur, c, some i, lb, bra, ket, q1, q2⟩) : l.lookup 0 = some .obj /\ ∃ a b, some (Ob.mk cur c L lb bra ket q1 q2) = some a /\ Ob.put a 2 (.int i) = some b /\ Q b := ⟨h0, _, _, rfl, rfl, h⟩
theorem p3 (h0 : l.lookup 0 = some .obj) (h : Q ⟨cur, c, L, some i, bra, ket, q1, q2⟩) : l.lookup 0 = some .obj /\ ∃ a b, some (Ob.mk cur c L lb bra ket q1 q2) = some a /\ Ob.put a 3 (.int i) = some b /\ Q b := ⟨h0, _, _, rfl, rfl, h⟩
theorem p4 (h0 : l.lookup 0 = some .obj) (h : Q ⟨cur, c, L, lb, some i, ket, q1, q2⟩) : l.lookup 0 = some .obj /\ ∃ a b, some (Ob.mk cur c L lb bra ket q1 q2) = some a /\ Ob.put a 4 (.int i) = some b /\ Q b := ⟨h0, _, _, rfl, rfl, h⟩
theorem p5 (h0 : l.lookup 0 = some .obj) (h : Q ⟨cur, c, L, lb, bra, some i, q1, q2⟩) : l.lookup 0 = some .obj /\ ∃ a b, some (Ob.mk cur c L lb bra ket q1 q2) = some a /\ Ob.put a 5 (.int i) = some b /\ Q b := ⟨h0, _, _, rfl, rfl, h⟩
theorem p6 (h0 : l.lookup 0 = some .obj) (h : Q ⟨cur, c, L, lb, bra, ket, i, q2⟩) : l.lookup 0 = some .obj /\ ∃ a b, some (Ob.mk cur c L lb bra ket q1 q2) = some a /\ Ob.put a 6 (.int i) = some b /\ Q b := ⟨h0, _, _, rfl, rfl, h⟩
theorem p7 (h0 : l.lookup 0 = some .obj) (h : Q ⟨cur, c, L, lb, bra, ket, q1, i⟩) : l.lookup 0 = some .obj /\ ∃ a b, some (Ob.mk cur c L lb bra ket q1 q2) = some a /\ Ob.put a 7 (.int i) = some b /\ Q b := ⟨h0, _, _, rfl, rfl, h⟩
end
local macro_rules | `(tactic| leaf_len) => `(tactic| first | with_reducible exact l1000 (by assumption) | with_unfolding_all first | decide | (simp only [small, limI, limS, List.length_append, List.length_cons, List.length_nil, List.length_take, List.length_drop] at *; lia))
local macro_rules | `(tactic| got_up) => `(tactic| first | with_reducible assumption | with_unfolding_all rfl | ((repeat refine lu_ne (Nat.ne_of_beq_eq_false rfl) ?_); first | with_reducible assumption | exact lu_eq | with_unfolding_all rfl))
local macro_rules | `(tactic| mem_news) => do
  let id (s : String) : Array Lean.Ident := (s.splitOn " ").toArray.map fun x => Lean.mkIdent (.str `Mine x)
  let nt (s : String) : Array Lean.Ident := (s.splitOn " ").toArray.map fun x => Lean.mkIdent (.str `Nat x)
  let a := id "ar_to ar_to1 ar_min"
  let b := id "ar_pred ar_sub ar_pred2 mid_lt mid_gap"
  let c := nt "le_of_lt le_of_not_lt le_of_not_le lt_of_not_le pos_of_ne_zero ne_of_gt le_succ_of_le min_eq_left min_eq_right sub_eq_zero_of_le add_sub_cancel' sub_add_cancel"
  let d := nt "lt_of_lt_of_le le_trans lt_of_le_of_lt lt_trans"
  let e := id "mid_dn mid_up"
  `(tactic| first | with_reducible first | assumption | rfl | first $[| exact $a]* | first $[| exact $c (by assumption)]* | first $[| exact $b (by first | with_reducible assumption | lia)]* | first $[| exact $d (by assumption) (by assumption)]* | exact Nat.le_trans (by assumption) (by decide) | lia)
local macro_rules | `(tactic| kct_strs) => do
  let id (s : String) : Array Lean.Ident := (s.splitOn " ").toArray.map fun x => Lean.mkIdent (.str `Mine x)
  let a := id "ev_int ev_str ev_bool b_add b_sub c_lt c_le c_gt c_ge c_eq c_ne c_eqs c_in ev_neg1"
  let b := id "ev_bin ev_cmp ev_min ev_lens"
  let g := id "ev_var ev_amg0 ev_amg1 ev_amg2"
  let r := id "ev_glob ev_cattr"
  `(tactic| with_reducible repeat' first
  | (apply ev_fld; (case h0 => got_up); (case h1 => with_unfolding_all rfl)) | first $[| exact $a]* | first $[| apply $b]* | first $[| (apply $g; got_up)]* | first $[| (apply $r; with_unfolding_all rfl)]*
  | (show _ <= limS; leaf_len) | (apply ev_strs; decide))
local macro_rules | `(tactic| nest_fact) => do
  let id (s : String) : Array Lean.Ident := (s.splitOn " ").toArray.map fun x => Lean.mkIdent (.str `Mine x)
  let a := id "ye_int ye_str ye_bool"
  let b := id "ye_cmp ye_bin m_bool m_addi m_subi m_lti m_lei m_gti m_gei m_eqi m_eqs m_nes m_ins m_nins ye_not ye_and ye_or ye_ite ye_idx ye_slice ye_sliceLo ye_sliceHi ye_len ye_ord ye_max ye_endsw ye_list2"
  let c := id "ye_glob ye_cattr"
  let d := id "ye_strs m_lent"
  let e := id "ye_meth0 ye_meth1 ye_meth3"
  let f := id "ye_call0 ye_call1 ye_call2 ye_call3"
  `(tactic| with_reducible first
  | (refine ye_fld (x := ?xx) ?h0 ?h1 ?_; (case h0 => got_up); (case h1 => with_unfolding_all rfl)) | (refine ye_var (x := ?xx) ?h0 ?_; (case h0 => got_up)) | first $[| refine $a ?_]* | (apply ye_ev; (case h => kct_strs; done)) | first $[| refine $b ?_]*
  | first $[| (refine $c (x := ?xx) ?h0 ?_; (case h0 => with_unfolding_all rfl))]* | first $[| (refine $d ?h0 ?_; (case h0 => decide))]*
  | (refine m_lens ?h0 ?_; (case h0 => leaf_len)) | first $[| (refine $e ?h0 ?_; (case h0 => got_up))]* | first $[| refine $f ?_]*
  | refine ⟨_, rfl, ?_⟩ | refine ⟨_, _, rfl, rfl, ?_⟩)
local macro_rules | `(tactic| nest_room) => do
  let id (s : String) : Array Lean.Ident := (s.splitOn " ").toArray.map fun x => Lean.mkIdent (.str `Mine x)
  let a := id "yl_ite yl_ret"
  let b := id "yl_end yl_cons sq_next yl_nil ys_asg ys_asgF"
  let c := id "ys_ite ys_ret ys_raise ys_try"
  let d := id "p1 p0 p2 p3 p4 p5 p6 p7"
  let e := id "sq_ret sq_exc ct_next ct_eq ct_ne tn_next tn_brk tn_cont tn_ret tn_exc sq_brk sq_cont ct_brk ct_cont ys_ex ys_brk ys_cont ys_assert fin_ret fin_next"
  `(tactic| with_reducible first
  | (apply yl_asg; (case h => kct_strs; done); (try (case n => with_unfolding_all rfl))) | first $[| (apply $a; (case h => kct_strs; done))]* | first $[| refine $b ?_]* | (refine ys_augF (x := ?xx) ?h0 ?h1 ?_; (case h0 => got_up); (case h1 => with_unfolding_all rfl)) | first $[| refine $c ?_]* | (refine ys_aug (x := ?xx) ?h0 ?_; (case h0 => got_up))
  | first $[| (refine $d ?h0 ?_; (case h0 => got_up))]* | first $[| refine $e ?_]*)
local macro_rules | `(tactic| reads_via) => `(tactic| repeat (first | nest_fact | nest_room))
local macro_rules | `(tactic| nest_cls) => `(tactic| first | assumption | (simp only [decide_eq_true_eq, decide_eq_false_iff_not, Bool.not_eq_true', Bool.not_eq_false', Bool.not_true, Bool.not_false] ; first | done | lia | assumption) | (simp [*]; done))
local macro_rules | `(tactic| fold_lay) => `(tactic| (refine pickT ?h0 ?_; (case h0 => nest_cls)))
local macro_rules | `(tactic| fold_depth) => `(tactic| (refine pickF ?h0 ?_; (case h0 => nest_cls)))
section
variable {w : List Nat} {c lb bra ket : Nat} {q1 q2 : Int} {Q : MV -> Option Ob -> Prop}
theorem sp18 {cur c L lb bra ket q1 q2} (hw : w.length <= 1000) (h : Q .none (some (mo w 0 0 0 w.length q1 q2))) : Sp 18 [.str w] (some ⟨cur, c, L, lb, bra, ket, q1, q2⟩) Q := by
  refine sp_fin ?_
  show YL 18 b18 _ _ _
  unfold b18
  reads_via
theorem sp19 (h : Q (.str w) (some (mo w c lb bra ket q1 q2))) : Sp 19 [] (some (mo w c lb bra ket q1 q2)) Q := by
  refine sp_fin ?_
  show YL 19 b19 _ _ _
  unfold b19
  reads_via
theorem sp20 {s : List Nat} (hw : w.length <= 1000) (hs : s.length < 100) (h : Q (.bool ((w[c]?).any s.contains)) (some (mo w (if (w[c]?).any s.contains then c + 1 else c) lb bra ket q1 q2))) : Sp 20 [.set s] (some (mo w c lb bra ket q1 q2)) Q := by
  refine sp_fin ?_
  show YL 20 b20 _ _ _
  unfold b20
  reads_via
  cases hx : w[c]? with
  | none =>
    have hc : w.length <= c := List.getElem?_eq_none_iff.mp hx
    simp only [hx, Option.any_none] at h
    fold_lay
    reads_via
    exact h
  | some x =>
    have hc : c < w.length := (List.getElem?_eq_some_iff.mp hx).1
    simp only [hx, Option.any_some] at h
    fold_depth
    reads_via
    refine m_idxs rfl hx (by leaf_len) ?_
    reads_via
    refine m_ninset hs ?_
    reads_via
    cases hb : s.contains x with
    | true =>
      rw [hb] at h
      fold_depth
      reads_via
      exact h
    | false =>
      rw [hb] at h
      fold_lay
      reads_via
      exact h
theorem sp22 {s : List Nat} (hw : w.length <= 1000) (hc : c <= w.length) (hs : s.length < 100) (h : Q (.bool (decide (0 < c) && (w[c - 1]?).any s.contains)) (some (mo w (if 0 < c /\ (w[c - 1]?).any s.contains then c - 1 else c) 0 bra ket q1 q2))) : Sp 22 [.set s] (some (mo w c 0 bra ket q1 q2)) Q := by
  refine sp_fin ?_
  show YL 22 b22 _ _ _
  unfold b22
  reads_via
  by_cases h0 : c = 0
  · subst h0
    fold_lay
    reads_via
    simpa using h
  · fold_depth
    reads_via
    have hc : c - 1 < w.length := by mem_news
    have hx := List.getElem?_eq_getElem hc
    rw [hx] at h
    have e : (c : Int) - 1 = ((c - 1 : Nat) : Int) := by mem_news
    refine m_idxs e hx (by leaf_len) ?_
    reads_via
    refine m_ninset hs ?_
    reads_via
    have hp : 0 < c := by mem_news
    simp only [Option.any_some, hp, decide_true, Bool.true_and, true_and] at h
    cases hb : s.contains w[c - 1] with
    | true =>
      rw [hb] at h
      fold_depth
      reads_via
      rw [e]
      exact h
    | false =>
      rw [hb] at h
      fold_lay
      reads_via
      exact h
theorem sp24 {s : List Nat} (hw : w.length <= 1000) (hs : s.length <= 100) (hc : c <= w.length) (h : Q (.bool (s.isSuffixOf (w.take c))) (some (mo w (if s.isSuffixOf (w.take c) then c - s.length else c) 0 bra ket q1 q2))) : Sp 24 [.str s] (some (mo w c 0 bra ket q1 q2)) Q := by
  refine sp_fin ?_
  show YL 24 b24 _ _ _
  unfold b24
  reads_via
  refine m_slice (a := 0) (b := c) rfl rfl (by leaf_len) (by leaf_len) (by leaf_len) ?_
  have e : ssub w 0 c = w.take c := by simp [ssub]
  rw [e]
  reads_via
  cases hb : s.isSuffixOf (w.take c) with
  | true =>
    rw [hb] at h
    fold_lay
    have hl : s.length <= c := by
      have := (List.isSuffixOf_iff_suffix.mp hb).length_le
      simp only [List.length_take] at this
      mem_news
    reads_via
    have e2 : (c : Int) - s.length = ((c - s.length : Nat) : Int) := by mem_news
    rw [e2]
    exact h
  | false =>
    rw [hb] at h
    fold_depth
    reads_via
    exact h
noncomputable def cut (w : List Nat) (b k : Nat) (s : List Nat) : List Nat := w.take b ++ s ++ w.drop k
noncomputable def mv (c b k n : Nat) : Nat := if k <= c then c + n - (k - b) else if b < c then b else c
theorem cut_len {w : List Nat} {b k : Nat} {s : List Nat} (h1 : b <= k) (h2 : k <= w.length) : (cut w b k s).length = w.length + s.length - (k - b) := by
  simp only [cut, List.length_append, List.length_take, List.length_drop]; mem_news
theorem sp27 {s : List Nat} {b k : Nat} (hw : w.length <= 1000) (hc : c <= 1000) (hs : s.length <= 100) (h1 : b <= k) (h2 : k <= w.length) (h : ∀ x, Q (.int x) (some (mo (cut w b k s) (mv c b k s.length) lb bra ket q1 q2))) : Sp 27 [.int b, .int k, .str s] (some (mo w c lb bra ket q1 q2)) Q := by
  refine sp_fin ?_
  show YL 27 b27 _ _ _
  unfold b27
  reads_via
  refine m_slice (a := 0) (b := b) rfl rfl (by leaf_len) (by leaf_len) (by leaf_len) ?_
  have e : ssub w 0 b = w.take b := by simp [ssub]
  rw [e]
  reads_via
  refine m_adds (by leaf_len) (by leaf_len) ?_
  reads_via
  refine m_sliceLo (a := k) rfl (by leaf_len) (by leaf_len) ?_
  refine m_adds (by leaf_len) (by leaf_len) ?_
  reads_via
  have hl := cut_len (s := s) h1 h2
  have e3 : (w.length : Int) + ((s.length : Int) - ((k : Int) - b)) = ((cut w b k s).length : Int) := by mem_news
  rw [e3]
  unfold mv at h
  by_cases hk : k <= c
  · fold_lay
    reads_via
    have e4 : (c : Int) + ((s.length : Int) - ((k : Int) - b)) = ((c + s.length - (k - b) : Nat) : Int) := by mem_news
    rw [e4]
    rw [if_pos hk] at h
    exact h _
  · fold_depth
    reads_via
    rw [if_neg hk] at h
    by_cases hb : b < c
    · fold_lay
      reads_via
      rw [if_pos hb] at h
      exact h _
    · fold_depth
      reads_via
      rw [if_neg hb] at h
      exact h _
theorem sp28 {s : List Nat} (hw : w.length <= 1000) (hc : c <= 1000) (hs : s.length <= 100) (h1 : bra <= ket) (h2 : ket <= w.length) (h : Q .none (some (mo (cut w bra ket s) (mv c bra ket s.length) lb bra (bra + s.length) q1 q2))) : Sp 28 [.str s] (some (mo w c lb bra ket q1 q2)) Q := by
  refine sp_fin ?_
  show YL 28 b28 _ _ _
  unfold b28
  reads_via
  refine ⟨by simp, ?_⟩
  reads_via
  refine ⟨by simp; mem_news, ?_⟩
  reads_via
  refine ⟨by simp; mem_news, ?_⟩
  reads_via
  refine ⟨by simp, ?_⟩
  reads_via
  refine sp27 hw hc hs h1 h2 fun x => ?_
  reads_via
  exact h
theorem sp29 (hw : w.length <= 1000) (hc : c <= 1000) (h1 : bra <= ket) (h2 : ket <= w.length) (h : Q .none (some (mo (cut w bra ket []) (mv c bra ket 0) lb bra bra q1 q2))) : Sp 29 [] (some (mo w c lb bra ket q1 q2)) Q := by
  refine sp_fin ?_
  show YL 29 b29 _ _ _
  unfold b29
  reads_via
  refine sp28 hw hc (by simp) h1 h2 ?_
  reads_via
theorem sp30 (h : Q (.bool (decide (q1 <= c))) (some (mo w c lb bra ket q1 q2))) : Sp 30 [] (some (mo w c lb bra ket q1 q2)) Q := by
  refine sp_fin ?_
  show YL 30 b30 _ _ _
  unfold b30
  reads_via
theorem sp31 (h : Q (.bool (decide (q2 <= c))) (some (mo w c lb bra ket q1 q2))) : Sp 31 [] (some (mo w c lb bra ket q1 q2)) Q := by
  refine sp_fin ?_
  show YL 31 b31 _ _ _
  unfold b31
  reads_via
end
noncomputable def runTo (p : Nat -> Bool) (w : List Nat) (c : Nat) : Nat := c + ((w.drop c).takeWhile p).length
theorem runTo_end {p : Nat -> Bool} {w : List Nat} {c : Nat} (h : w.length <= c) : runTo p w c = c := by
  unfold runTo; rw [List.drop_of_length_le h]; rfl
theorem runTo_on {p : Nat -> Bool} {w : List Nat} {c : Nat} (h : c < w.length) (hp : p w[c] = true) : runTo p w c = runTo p w (c + 1) := by
  unfold runTo; rw [List.drop_eq_getElem_cons h, List.takeWhile_cons, if_pos hp, List.length_cons]; mem_news
theorem runTo_stop {p : Nat -> Bool} {w : List Nat} {c : Nat} (h : c < w.length) (hp : p w[c] = false) : runTo p w c = c := by
  unfold runTo; rw [List.drop_eq_getElem_cons h, List.takeWhile_cons, if_neg (by rw [hp]; decide), List.length_nil]; mem_news
theorem runTo_le {p : Nat -> Bool} {w : List Nat} {c : Nat} (h : c <= w.length) : runTo p w c <= w.length := by
  unfold runTo
  have := (List.takeWhile_sublist (p := p) (l := w.drop c)).length_le
  simp only [List.length_drop] at this
  mem_news
section
variable {w : List Nat} {c lb bra ket : Nat} {q1 q2 : Int} {Q : MV -> Option Ob -> Prop}
theorem wh21 {s : List Nat} (hw : w.length <= 1000) (hs : s.length < 100) {l : Lc} (h0 : l.lookup 0 = some .obj) (h22 : l.lookup 22 = some (.set s)) {q : KS} : ∀ (n c : Nat), n = w.length - c -> c <= w.length →
    (runTo s.contains w c < w.length -> q (.ret (.bool true)) l (some (mo w (runTo s.contains w c) lb bra ket q1 q2))) -> (runTo s.contains w c = w.length -> q .next l (some (mo w (runTo s.contains w c) lb bra ket q1 q2))) →
    YS 21 (.wh (.cmp .lt (.fld 1) (.fld 2)) [.ite (.cmp .notin (.idx (.fld 0) (.fld 1)) (.var 22)) [.ret (.bool true)] [], .augF 1 .add (.int 1)]) l (some (mo w c lb bra ket q1 q2)) q := by
  intro n
  induction n with
  | zero =>
    intro c hn hc hT hF
    have hc : w.length = c := by mem_news
    refine ys_wh ?_
    reads_via
    fold_depth
    rw [runTo_end (by mem_news)] at hF
    exact hF hc.symm
  | succ n ih =>
    intro c hn hc hT hF
    have hlt : c < w.length := by mem_news
    have hx := List.getElem?_eq_getElem hlt
    refine ys_wh ?_
    reads_via
    fold_lay
    reads_via
    refine m_idxs rfl hx (by leaf_len) ?_
    reads_via
    refine m_ninset hs ?_
    reads_via
    cases hb : s.contains w[c] with
    | true =>
      fold_depth
      reads_via
      rw [runTo_on hlt hb] at hT hF
      exact ih (c + 1) (by mem_news) (by mem_news) hT hF
    | false =>
      fold_lay
      reads_via
      rw [runTo_stop hlt hb] at hT
      exact hT hlt
theorem sp21 {s : List Nat} (hw : w.length <= 1000) (hc : c <= w.length) (hs : s.length < 100) (h : Q (.bool (decide (runTo s.contains w c < w.length))) (some (mo w (runTo s.contains w c) lb bra ket q1 q2))) : Sp 21 [.set s] (some (mo w c lb bra ket q1 q2)) Q := by
  refine sp_fin ?_
  show YL 21 b21 _ _ _
  unfold b21
  refine yl_cons ?_
  refine wh21 hw hs rfl rfl _ c rfl hc (fun hT => ?_) (fun hF => ?_)
  · reads_via
    rw [decide_eq_true hT] at h
    exact h
  · reads_via
    rw [decide_eq_false (by mem_news)] at h
    exact h
theorem wh23 {s : List Nat} (hw : w.length <= 1000) (hs : s.length < 100) {l : Lc} (h0 : l.lookup 0 = some .obj) (h22 : l.lookup 22 = some (.set s)) {q : KS} : ∀ (n c : Nat), n = w.length - c -> c <= w.length →
    (runTo (fun x => !s.contains x) w c < w.length -> q (.ret (.bool true)) l (some (mo w (runTo (fun x => !s.contains x) w c) lb bra ket q1 q2))) -> (runTo (fun x => !s.contains x) w c = w.length -> q .next l (some (mo w (runTo (fun x => !s.contains x) w c) lb bra ket q1 q2))) →
    YS 23 (.wh (.cmp .lt (.fld 1) (.fld 2)) [.ite (.cmp .isin (.idx (.fld 0) (.fld 1)) (.var 22)) [.ret (.bool true)] [], .augF 1 .add (.int 1)]) l (some (mo w c lb bra ket q1 q2)) q := by
  intro n
  induction n with
  | zero =>
    intro c hn hc hT hF
    have hc : w.length = c := by mem_news
    refine ys_wh ?_
    reads_via
    fold_depth
    rw [runTo_end (by mem_news)] at hF
    exact hF hc.symm
  | succ n ih =>
    intro c hn hc hT hF
    have hlt : c < w.length := by mem_news
    have hx := List.getElem?_eq_getElem hlt
    refine ys_wh ?_
    reads_via
    fold_lay
    reads_via
    refine m_idxs rfl hx (by leaf_len) ?_
    reads_via
    refine m_inset hs ?_
    reads_via
    cases hb : s.contains w[c] with
    | false =>
      fold_depth
      reads_via
      rw [runTo_on hlt (show (!s.contains w[c]) = true by rw [hb]; rfl)] at hT hF
      exact ih (c + 1) (by mem_news) (by mem_news) hT hF
    | true =>
      fold_lay
      reads_via
      rw [runTo_stop hlt (show (!s.contains w[c]) = false by rw [hb]; rfl)] at hT
      exact hT hlt
theorem sp23 {s : List Nat} (hw : w.length <= 1000) (hc : c <= w.length) (hs : s.length < 100) (h : Q (.bool (decide (runTo (fun x => !s.contains x) w c < w.length))) (some (mo w (runTo (fun x => !s.contains x) w c) lb bra ket q1 q2))) : Sp 23 [.set s] (some (mo w c lb bra ket q1 q2)) Q := by
  refine sp_fin ?_
  show YL 23 b23 _ _ _
  unfold b23
  refine yl_cons ?_
  refine wh23 hw hs rfl rfl _ c rfl hc (fun hT => ?_) (fun hF => ?_)
  · reads_via
    rw [decide_eq_true hT] at h
    exact h
  · reads_via
    rw [decide_eq_false (by mem_news)] at h
    exact h
end
noncomputable def tailS : S := .ite (.cmp .le (.bin .sub (.var 24) (.var 23)) (.int 1)) [.ite (.cmp .gt (.var 23) (.int 0)) [.brk] [], .ite (.cmp .eq (.var 24) (.var 23)) [.brk] [], .ite (.var 30) [.brk] [], .asg 30 (.bool true)] []
structure FL (l : Lc) (vl : Nat) (i j ci cj : Nat) (f : Bool) (tab : List Amg) (c L : Nat) : Prop where
  h0 : l.lookup 0 = some .obj
  h23 : l.lookup 23 = some (.int i)
  h24 : l.lookup 24 = some (.int j)
  h25 : l.lookup 25 = some (.tab tab)
  h26 : l.lookup 26 = some (.int c)
  hL : l.lookup vl = some (.int L)
  h28 : l.lookup 28 = some (.int ci)
  h29 : l.lookup 29 = some (.int cj)
  h30 : l.lookup 30 = some (.bool f)
theorem FL.set30 {l : Lc} {vl i j ci cj : Nat} {f : Bool} {tab : List Amg} {c L : Nat} (x : FL l vl i j ci cj f tab c L) (g : Bool) (hv : vl ≠ 30 := by decide) : FL (upd 30 (.bool g) l) vl i j ci cj g tab c L := by
  obtain ⟨h0, h23, h24, h25, h26, hL, h28, h29, h30⟩ := x
  exact ⟨by got_up, by got_up, by got_up, by got_up, by got_up, by rw [lookup_upd, if_neg hv]; exact hL, by got_up, by got_up, by got_up⟩
theorem tail_ok {lv : Nat} {l : Lc} {o : Option Ob} {i j : Nat} {f : Bool} {q : KS} (h23 : l.lookup 23 = some (.int i)) (h24 : l.lookup 24 = some (.int j)) (h30 : l.lookup 30 = some (.bool f)) (hi : i <= 2000) (hj : j <= 2000)
    (h1 : (j <= i + 1 /\ (0 < i \/ j = i \/ f = true)) -> q .brk l o) (h2 : j <= i + 1 -> i = 0 -> j ≠ i -> f = false -> q .next (upd 30 (.bool true) l) o) (h3 : i + 1 < j -> q .next l o) : YL lv [tailS] l o q := by
  unfold tailS
  reads_via
  by_cases a1 : j <= i + 1
  · fold_lay
    reads_via
    by_cases a2 : 0 < i
    · fold_lay
      reads_via
      exact h1 ⟨a1, .inl a2⟩
    · fold_depth
      reads_via
      by_cases a3 : j = i
      · fold_lay
        reads_via
        exact h1 ⟨a1, .inr (.inl a3)⟩
      · fold_depth
        reads_via
        cases f with
        | true =>
          refine pickT rfl ?_
          reads_via
          exact h1 ⟨a1, .inr (.inr rfl)⟩
        | false =>
          refine pickF rfl ?_
          reads_via
          exact h2 a1 (by mem_news) a3 rfl
  · fold_depth
    reads_via
    exact h3 (by mem_news)
structure SInv (tab : List Amg) (key : Amg -> List Nat) (T : List Nat) (i j ci cj : Nat) : Prop where
  lt : i < tab.length
  le : j <= tab.length
  lo : (∀ a, tab[i]? = some a -> ltT T (key a) = false /\ ci = lcp T (key a)) \/ (i = 0 /\ ci = 0)
  hi : (j = tab.length /\ cj = 0) \/ (j < tab.length /\ ∀ a, tab[j]? = some a -> ltT T (key a) = true /\ cj = lcp T (key a))
noncomputable def Done (tab : List Amg) (key : Amg -> List Nat) (T : List Nat) (i ci : Nat) : Prop := ∃ a, tab[i]? = some a /\ (∀ (m : Nat) y, tab[m]? = some y -> key y <+: key a -> ((key y).length <= ci ↔ key y <+: T)) /\ ∀ (m : Nat) y, tab[m]? = some y -> key y <+: T -> key y <+: key a
section
variable {tab : List Amg} {key : Amg -> List Nat} {T : List Nat} {i j ci cj k : Nat} {a : Amg}
theorem SInv.start (ht : TabOk tab key) : SInv tab key T 0 tab.length 0 0 := ⟨by have := ht.two.1; mem_news, Nat.le_refl _, .inr ⟨rfl, rfl⟩, .inl ⟨rfl, rfl⟩⟩
theorem SInv.ci50 (I : SInv tab key T i j ci cj) (ht : TabOk tab key) : ci <= 50 := by
  rcases I.lo with h | h
  · have ha := List.getElem?_eq_getElem I.lt
    have := (h _ ha).2
    have h2 := ht.len _ (List.mem_of_getElem? ha)
    have h3 := lcp_le_right T (key (tab[i]'I.lt))
    mem_news
  · mem_news
theorem SInv.cj50 (I : SInv tab key T i j ci cj) (ht : TabOk tab key) : cj <= 50 := by
  rcases I.hi with h | ⟨hlt, h⟩
  · mem_news
  · have ha := List.getElem?_eq_getElem hlt
    have := (h _ ha).2
    have h2 := ht.len _ (List.mem_of_getElem? ha)
    have h3 := lcp_le_right T (key tab[j])
    mem_news
theorem lcp_comm : ∀ (a b : List Nat), lcp a b = lcp b a
  | [], b => by rw [lcp_nil_right]; rfl
  | x :: a, [] => rfl
  | x :: a, y :: b => by
    unfold lcp
    rw [lcp_comm a b]
    by_cases e : x = y
    · rw [if_pos e, if_pos e.symm]
    · rw [if_neg e, if_neg fun q => e q.symm]
theorem SInv.common (I : SInv tab key T i j ci cj) (ht : TabOk tab key) (hij : i < j) (ha : tab[i + (j - i) / 2]? = some a) : min ci cj <= lcp T (key a) := by
  rcases I.lo with h | ⟨_, h⟩
  · have hi := List.getElem?_eq_getElem I.lt
    obtain ⟨_, h1⟩ := h _ hi
    by_cases hk : (j - i) / 2 = 0
    · rw [hk, Nat.add_zero, hi] at ha
      cases ha
      mem_news
    · rcases I.hi with ⟨_, h2⟩ | ⟨hlt, h2⟩
      · mem_news
      · have hj := List.getElem?_eq_getElem hlt
        obtain ⟨_, h2⟩ := h2 _ hj
        have m := ht.mid i (i + (j - i) / 2) j (by mem_news) (by mem_news) _ _ _ hi ha hj
        have t1 := lcp_tri T (key tab[i]) (key a)
        have t2 := lcp_tri (key tab[i]) T (key tab[j])
        rw [lcp_comm (key tab[i]) T] at t2
        mem_news
  · mem_news
theorem SInv.down (I : SInv tab key T i j ci cj) (hlt : ltT T (key a) = true) (ha : tab[k]? = some a) : SInv tab key T i k ci (lcp T (key a)) :=
  ⟨I.lt, Nat.le_of_lt (get_lt ha), I.lo, .inr ⟨get_lt ha, fun b hb => by rw [ha] at hb; cases hb; exact ⟨hlt, rfl⟩⟩⟩
theorem insp (hlt : ltT T (key a) = false) (ha : tab[k]? = some a) : ∀ b, tab[k]? = some b -> ltT T (key b) = false /\ lcp T (key a) = lcp T (key b) := fun b hb => by rw [ha] at hb; cases hb; exact ⟨hlt, rfl⟩
theorem SInv.up (I : SInv tab key T i j ci cj) (hlt : ltT T (key a) = false) (ha : tab[k]? = some a) : SInv tab key T k j (lcp T (key a)) cj :=
  ⟨get_lt ha, I.le, .inl (insp hlt ha), I.hi⟩
theorem SInv.exit (I : SInv tab key T i j ci cj) (ht : TabOk tab key) (h1 : j <= i + 1) (h2 : 0 < i \/ j = i \/ ∀ a, tab[i]? = some a -> ltT T (key a) = false /\ ci = lcp T (key a)) : Done tab key T i ci := by
  have hi := List.getElem?_eq_getElem I.lt
  have far : ∀ (m : Nat) y, j <= m -> tab[m]? = some y -> ¬ key y <+: T := fun m y hm hy hp => by
    have := get_lt hy
    rcases I.hi with ⟨e, _⟩ | ⟨hlt, h⟩
    · mem_news
    · have hj := List.getElem?_eq_getElem hlt
      have q := ltT_pre hp (h _ hj).1
      rw [ht.sorted j m hm _ _ hj hy] at q
      cases q
  refine ⟨_, hi, ?_⟩
  rcases I.lo with h | ⟨e1, e2⟩
  · obtain ⟨g1, g2⟩ := h _ hi
    refine ⟨fun m y hy hp => by rw [g2]; exact (pre_lcp hp).symm, fun m y hy hp => ?_⟩
    by_cases hm : j <= m
    · exact absurd hp (far m y hm hy)
    · exact pre_of_le hp g1 (ht.sorted m i (by mem_news) _ _ hy hi)
  · rcases h2 with h2 | h2 | h2
    · mem_news
    · have no : ∀ (m : Nat) y, tab[m]? = some y -> ¬ key y <+: T := fun m y hy => far m y (by mem_news) hy
      refine ⟨fun m y hy _ => ⟨fun hl => ?_, fun hp => absurd hp (no m y hy)⟩, fun m y hy hp => absurd hp (no m y hy)⟩
      have : key y = [] := List.length_eq_zero_iff.mp (by mem_news)
      exact absurd (by rw [this]; exact List.nil_prefix) (no m y hy)
    · obtain ⟨g1, g2⟩ := h2 _ hi
      refine ⟨fun m y hy hp => by rw [g2]; exact (pre_lcp hp).symm, fun m y hy hp => ?_⟩
      by_cases hm : j <= m
      · exact absurd hp (far m y hm hy)
      · exact pre_of_le hp g1 (ht.sorted m i (by mem_news) _ _ hy hi)
end
noncomputable def in25 : List S := [.ite (.cmp .eq (.bin .add (.var 26) (.var 32)) (.var 27)) [.asg 31 .neg1, .brk] [], .asg 31 (.bin .sub (.ord (.idx (.fld 0) (.bin .add (.var 26) (.var 32)))) (.ord (.idx (.amgOf 33 0) (.var 34)))), .ite (.cmp .ne (.var 31) (.int 0)) [.brk] [], .aug 32 .add (.int 1)]
noncomputable def body25 : List S := [.asg 7 (.bin .add (.var 23) (.bin .shr (.bin .sub (.var 24) (.var 23)) (.int 1))), .asg 31 (.int 0), .asg 32 (.min (.var 28) (.var 29)), .asg 33 (.idx (.var 25) (.var 7)), .forR 34 (.var 32) (.len (.amgOf 33 0)) in25, .ite (.cmp .lt (.var 31) (.int 0)) [.asg 24 (.var 7), .asg 29 (.var 32)] [.asg 23 (.var 7), .asg 28 (.var 32)], tailS]
noncomputable def out25 : List S := [.asg 33 (.idx (.var 25) (.var 23)), .ite (.cmp .ge (.var 28) (.len (.amgOf 33 0))) [.asgF 1 (.bin .add (.var 26) (.len (.amgOf 33 0))), .ret (.amgOf 33 2)] [], .asg 23 (.amgOf 33 1), .ite (.cmp .lt (.var 23) (.int 0)) [.ret (.int 0)] []]
section
variable {w : List Nat} {c bra ket : Nat} {lb : Nat} {q1 q2 : Int}
theorem in25_ok (hw : w.length <= 1000) (hc : c <= w.length) (hch : ∀ x ∈ w, x < 1000) {a : Amg} (hal : a.s.length <= 50) (hax : ∀ x ∈ a.s, x < 1000) {q : KS} : ∀ (r m : Nat) (l : Lc), m + r = a.s.length -> m <= lcp (w.drop c) (a.s) -> l.lookup 0 = some .obj -> l.lookup 26 = some (.int c) →
    l.lookup 27 = some (.int w.length) -> l.lookup 33 = some (.amg a) -> l.lookup 31 = some (.int 0) -> l.lookup 32 = some (.int m) →
    (∀ (l' : Lc) d, (∀ v, v ≠ 31 -> v ≠ 32 -> v ≠ 34 -> l'.lookup v = l.lookup v) -> l'.lookup 31 = some (.int d) -> (d < 0 ↔ ltT (w.drop c) (a.s) = true) -> l'.lookup 32 = some (.int (lcp (w.drop c) (a.s))) -> q .next l' (some (mo w c lb bra ket q1 q2))) →
    YI 25 34 (rangeL ((m : Int)) 1 r) in25 l (some (mo w c lb bra ket q1 q2)) q := by
  intro r
  induction r with
  | zero =>
    intro m l hm hle h0 h26 hL h33 h31 h32 K
    have hf := lcp_full (T := w.drop c) (k := a.s) (by  mem_news)
    refine yi_nil (K l 0 (fun _ _ _ _ => rfl) h31 ?_ ?_)
    · rw [hf.2]; simp
    · rw [hf.1, h32];  rw [show m = a.s.length by mem_news]
  | succ r ih =>
    intro m l hm hle h0 h26 hL h33 h31 h32 K
    have hfr : ∀ (x : MV) (v : Nat), v ≠ 31 -> v ≠ 32 -> v ≠ 34 -> (upd 31 x (upd 34 (.int ((m : Int))) l)).lookup v = l.lookup v := fun x v n1 n2 n3 => by rw [lookup_upd, if_neg n1, lookup_upd, if_neg n3]
    have hlt : m < (a.s).length := by  mem_news
    have htl : (w.drop c).length = (w.length - c) := by simp
    have hml := lcp_le_left (w.drop c) (a.s)
    refine yi_cons ?_
    unfold in25
    reads_via
    by_cases he : m = (w.length - c)
    · have hend := lcp_end hle (by rw [htl, he]) hlt
      fold_lay
      reads_via
      refine K _ (-1) (hfr _) lu_eq (by rw [hend.2]; simp) ?_
      rw [lookup_upd, if_neg (by decide), lookup_upd, if_neg (by decide), h32, hend.1]
    · have hTm : m < (w.drop c).length := by rw [htl]; mem_news
      have ht := List.getElem?_eq_getElem hTm
      have hk := List.getElem?_eq_getElem hlt
      generalize (w.drop c)[m] = t at ht
      generalize (a.s)[m] = x at hk
      have hwt : w[c + m]? = some t := by rw [<- ht, List.getElem?_drop]
      have hax' : a.s[m]? = some x := by exact hk
      have bt := hch t (List.mem_of_getElem? hwt)
      have bx := hax x (List.mem_of_getElem? hax')
      fold_depth
      reads_via
      refine m_idxs (i := c + m) (by mem_news) hwt (by leaf_len) ?_
      reads_via
      refine m_idxs (i := m) (by mem_news) hax' (by leaf_len) ?_
      reads_via
      by_cases hxt : t = x
      · subst hxt
        have := lcp_on hle ht hk
        fold_depth
        reads_via
        have e : (m : Int) + 1 = ((m + 1 : Nat) : Int) := by mem_news
        have e2 : ((m : Int)) + 1 = ((m + 1 : Nat) : Int) := by mem_news
        rw [e]
        refine ih (m + 1) _ (by mem_news) this (by got_up) (by got_up) (by got_up) (by got_up) ?_ (by got_up) fun l' d k1 k2 k3 k4 => K l' d (fun v n1 n2 n3 => ?_) k2 k3 k4
        · rw [lookup_upd, if_neg (by decide), lookup_upd, if_pos rfl]; simp
        · rw [k1 v n1 n2 n3, lookup_upd, if_neg n2, hfr _ v n1 n2 n3]
      · have hne := lcp_ne hle ht hk hxt
        fold_lay
        reads_via
        refine K _ _ (hfr _) lu_eq ?_ ?_
        · rw [hne.2, decide_eq_true_eq]; mem_news
        · rw [lookup_upd, if_neg (by decide), lookup_upd, if_neg (by decide), h32, hne.1]
theorem body25_ok (hw : w.length <= 1000) (hc : c <= w.length) (hch : ∀ x ∈ w, x < 1000) {tab : List Amg} (ht : TabOk tab (·.s)) {l : Lc} {i j ci cj : Nat} {f : Bool} (L : FL l 27 i j ci cj f tab c w.length) {a : Amg} (hij : i < j) (hj : j <= tab.length) (hci : ci <= 50) (hcj : cj <= 50)
    (ha : tab[i + (j - i) / 2]? = some a) (hm : min ci cj <= lcp (w.drop c) (a.s)) {q : KS}
    (hA : ltT (w.drop c) (a.s) = true -> ∀ l', FL l' 27 i (i + (j - i) / 2) ci (lcp (w.drop c) (a.s)) f tab c w.length -> YL 25 [tailS] l' (some (mo w c lb bra ket q1 q2)) q)
    (hB : ltT (w.drop c) (a.s) = false -> ∀ l', FL l' 27 (i + (j - i) / 2) j (lcp (w.drop c) (a.s)) cj f tab c w.length -> YL 25 [tailS] l' (some (mo w c lb bra ket q1 q2)) q) :
    YL 25 body25 l (some (mo w c lb bra ket q1 q2)) q := by
  obtain ⟨h0, h23, h24, h25, h26, hL, h28, h29, h30⟩ := L
  obtain ⟨⟨hkl, hal⟩, hax⟩ := ht.len a (List.mem_of_getElem? ha)
  have htl : tab.length <= 1000 := ht.two.2
  have hlr := lcp_le_right (w.drop c) (a.s)
  unfold body25
  reads_via
  refine m_shr ?_
  reads_via
  have ed : Int.fdiv ((j : Int) - i) 2 = (((j - i) / 2 : Nat) : Int) := by
    rw [Int.fdiv_eq_ediv_of_nonneg _ (by decide), ar_sub (Nat.le_of_lt hij)]; rfl
  rw [ed]
  have ek : (i : Int) + (((j - i) / 2 : Nat) : Int) = ((i + (j - i) / 2 : Nat) : Int) := by mem_news
  rw [ek]
  reads_via
  have em : (if (cj : Int) < ci then (cj : Int) else ci) = ((min ci cj : Nat) : Int) := by
    exact ar_min
  rw [em]
  refine m_idxt (i := i + (j - i) / 2) rfl ha (by leaf_len) ?_
  reads_via
  refine ys_forR ?_
  reads_via
  refine ⟨by leaf_len, by leaf_len, ?_⟩
  rw [Int.toNat_sub]
  refine in25_ok hw hc hch hal hax (a.s.length - min ci cj) (min ci cj) _ (by mem_news) hm (by got_up) (by got_up) (by got_up) (by got_up) (by got_up) (by got_up) fun l' d k1 k2 k3 k4 => ?_
  have g : ∀ v, v ≠ 7 -> v ≠ 31 -> v ≠ 32 -> v ≠ 33 -> v ≠ 34 -> l'.lookup v = l.lookup v := fun v n1 n2 n3 n4 n5 => by
    rw [k1 v n2 n3 n5, lookup_upd, if_neg n4, lookup_upd, if_neg n3, lookup_upd, if_neg n2, lookup_upd, if_neg n1]
  have g7 : l'.lookup 7 = some (.int ((i + (j - i) / 2 : Nat) : Int)) := by
    rw [k1 7 (by decide) (by decide) (by decide)]; got_up
  have g0 := (g 0 (by decide) (by decide) (by decide) (by decide) (by decide)).trans h0
  have g23 := (g 23 (by decide) (by decide) (by decide) (by decide) (by decide)).trans h23
  have g24 := (g 24 (by decide) (by decide) (by decide) (by decide) (by decide)).trans h24
  have g25 := (g 25 (by decide) (by decide) (by decide) (by decide) (by decide)).trans h25
  have g26 := (g 26 (by decide) (by decide) (by decide) (by decide) (by decide)).trans h26
  have gL := (g 27 (by decide) (by decide) (by decide) (by decide) (by decide)).trans hL
  have g28 := (g 28 (by decide) (by decide) (by decide) (by decide) (by decide)).trans h28
  have g29 := (g 29 (by decide) (by decide) (by decide) (by decide) (by decide)).trans h29
  have g30 := (g 30 (by decide) (by decide) (by decide) (by decide) (by decide)).trans h30
  refine sq_next (yl_cons (ys_ite ?_))
  reads_via
  cases hlt : ltT (w.drop c) (a.s) with
  | true =>
    have hd := k3.mpr hlt
    fold_lay
    refine yl_cons (ys_asg (ye_var g7 (sq_next (yl_cons (ys_asg (ye_var (x := .int (lcp (w.drop c) (a.s))) (by got_up) (sq_next (yl_nil (sq_next ?_)))))))))
    exact hA hlt _ ⟨by got_up, by got_up, by got_up, by got_up, by got_up, by got_up, by got_up, by got_up, by got_up⟩
  | false =>
    have hd : ¬ d < 0 := fun hd => by rw [k3.mp hd] at hlt; cases hlt
    fold_depth
    refine yl_cons (ys_asg (ye_var g7 (sq_next (yl_cons (ys_asg (ye_var (x := .int (lcp (w.drop c) (a.s))) (by got_up) (sq_next (yl_nil (sq_next ?_)))))))))
    exact hB hlt _ ⟨by got_up, by got_up, by got_up, by got_up, by got_up, by got_up, by got_up, by got_up, by got_up⟩
theorem loop25_ok (hw : w.length <= 1000) (hc : c <= w.length) (hch : ∀ x ∈ w, x < 1000) {tab : List Amg} (ht : TabOk tab (·.s)) {q : KS}
    (K : ∀ (l : Lc) i j ci cj f, FL l 27 i j ci cj f tab c w.length -> Done tab (·.s) (w.drop c) i ci -> ci <= 50 -> q .next l (some (mo w c lb bra ket q1 q2))) :
    ∀ (N : Nat) (l : Lc) (i j ci cj : Nat) (f : Bool), 2 * (j - i) + (if f then 0 else 1) = N -> FL l 27 i j ci cj f tab c w.length -> SInv tab (·.s) (w.drop c) i j ci cj -> ((2 <= j - i /\ f = false) \/ (i = 0 /\ j = 1 /\ f = true)) →
    YS 25 (.wh (.bool true) body25) l (some (mo w c lb bra ket q1 q2)) q := by
  intro N
  induction N using Nat.strongRecOn with
  | ind N ih =>
    intro l i j ci cj f hN L I hd
    have hij : i < j := hd.elim (fun h => Nat.lt_of_sub_pos (Nat.lt_of_lt_of_le (by decide) h.1)) (fun h => by rw [h.1, h.2.1]; decide)
    have hj := I.le
    have hk : i + (j - i) / 2 < tab.length := Nat.lt_of_lt_of_le (mid_lt hij) hj
    have ha := List.getElem?_eq_getElem hk
    generalize tab[i + (j - i) / 2] = a at ha
    refine ys_wh (ye_bool (m_bool (pickT rfl ?_)))
    refine body25_ok hw hc hch ht L hij hj (I.ci50 ht) (I.cj50 ht) ha (I.common ht hij ha) (fun hlt l' L' => ?_) (fun hlt l' L' => ?_)
    · have I' := I.down hlt ha
      refine tail_ok L'.h23 L'.h24 L'.h30 (by have := ht.two.2; mem_news) (by have := ht.two.2; mem_news) (fun hb => tn_brk (K _ _ _ _ _ _ L' (I'.exit ht hb.1 ?_) (I'.ci50 ht))) (fun b1 b2 b3 b4 => tn_next ?_) (fun b1 => tn_next ?_)
      · rcases hb.2 with h | h | h
        · exact .inl h
        · exact .inr (.inl h)
        · rcases hd with ⟨_, rfl⟩ | ⟨rfl, rfl, _⟩
          · cases h
          · exact .inr (.inl rfl)
      · have hf : 2 <= j - i := by mem_news
        have e1 : i + (j - i) / 2 = 1 := by mem_news
        rw [e1] at L' I'
        subst b2
        refine ih _ ?_ _ 0 1 ci _ true rfl (L'.set30 true) I' (.inr ⟨rfl, rfl, rfl⟩)
        simp only [if_true]; mem_news
      · rcases hd with ⟨h2, rfl⟩ | ⟨rfl, rfl, rfl⟩
        · refine ih _ ?_ _ _ _ _ _ false rfl L' I' (.inl ⟨by mem_news, rfl⟩)
          first | exact Nat.lt_of_lt_of_eq (mid_dn h2) hN | lia
        · exfalso; mem_news
    · have I' := I.up hlt ha
      refine tail_ok L'.h23 L'.h24 L'.h30 (by have := ht.two.2; mem_news) (by have := ht.two.2; mem_news) (fun hb => tn_brk (K _ _ _ _ _ _ L' (I'.exit ht hb.1 (.inr (.inr (insp hlt ha)))) (I'.ci50 ht))) (fun b1 b2 b3 b4 => ?_) (fun b1 => tn_next ?_)
      · exfalso
        rcases hd with ⟨h2, rfl⟩ | ⟨rfl, rfl, rfl⟩
        · mem_news
        · cases b4
      · rcases hd with ⟨h2, rfl⟩ | ⟨rfl, rfl, rfl⟩
        · refine ih _ ?_ _ _ _ _ _ false rfl L' I' (.inl ⟨by mem_news, rfl⟩)
          first | exact Nat.lt_of_lt_of_eq (mid_up h2) hN | lia
        · exfalso; mem_news
theorem out25_ok (hw : w.length <= 1000) (hc : c <= w.length) {tab : List Amg} (ht : TabOk tab (·.s)) {q : KS} (hS : ∀ l, ∀ a ∈ tab, a.s <+: w.drop c -> (∀ b ∈ tab, b.s <+: w.drop c -> b.s.length <= a.s.length) -> q (.ret (.int a.res)) l (some (mo w (c + a.s.length) lb bra ket q1 q2)))
    (hN : ∀ l, (∀ b ∈ tab, ¬ b.s <+: w.drop c) -> q (.ret (.int 0)) l (some (mo w c lb bra ket q1 q2))) : ∀ (i : Nat) (l : Lc) (j ci cj : Nat) (f : Bool), FL l 27 i j ci cj f tab c w.length -> Done tab (·.s) (w.drop c) i ci -> ci <= 50 →
    YS 25 (.wh (.bool true) out25) l (some (mo w c lb bra ket q1 q2)) q := by
  intro i
  induction i using Nat.strongRecOn with
  | ind i ih =>
    intro l j ci cj f L D hci
    obtain ⟨a, ha, J, I2⟩ := D
    obtain ⟨h0, h23, h24, h25, h26, hL, h28, h29, h30⟩ := L
    have hma := List.mem_of_getElem? ha
    obtain ⟨⟨hkl, hal⟩, hax⟩ := ht.len a hma
    have htl : tab.length <= 1000 := ht.two.2
    obtain ⟨S1, S2⟩ := ht.sub i a ha
    refine ys_wh (ye_bool (m_bool (pickT rfl ?_)))
    unfold out25
    reads_via
    refine m_idxt (i := i) rfl ha (by leaf_len) ?_
    reads_via
    by_cases hle : a.s.length <= ci
    · have hp := (J i a ha List.prefix_rfl).mp (by rw [hkl]; exact hle)
      fold_lay
      reads_via
      refine hS _ a hma hp fun b hb hbp => ?_
      obtain ⟨m, hm⟩ := List.mem_iff_getElem?.mp hb
      have := (I2 m b hm hbp).length_le
      rw [hkl, (ht.len b hb).1.1] at this
      exact this
    · have hnp : ¬ a.s <+: w.drop c := fun hp => hle (by rw [<- hkl]; exact (J i a ha List.prefix_rfl).mpr hp)
      have hne : ∀ (m : Nat) (y : Amg), tab[m]? = some y -> y.s <+: w.drop c -> y.s ≠ a.s := fun m y hy hp e => hnp (by rw [e] at hp; exact hp)
      fold_depth
      reads_via
      rcases S1 with hneg | ⟨n, hn, hni, y, hy, hyp⟩
      · fold_lay
        reads_via
        refine hN _ fun b hb hbp => ?_
        obtain ⟨m, hm⟩ := List.mem_iff_getElem?.mp hb
        obtain ⟨n, hn, _⟩ := S2 m b hm (I2 m b hm hbp) (hne m b hm hbp)
        mem_news
      · fold_depth
        reads_via
        rw [hn]
        refine ih n hni _ j ci cj f ⟨by got_up, by got_up, by got_up, by got_up, by got_up, by got_up, by got_up, by got_up, by got_up⟩ ⟨y, hy, fun m z hz hzp => J m z hz (hzp.trans hyp), fun m z hz hzp => ?_⟩ hci
        obtain ⟨n', hn', z', hz', hp'⟩ := S2 m z hz (I2 m z hz hzp) (hne m z hz hzp)
        have : n' = n := by mem_news
        subst this
        rw [hy] at hz'; cases hz'
        exact hp'
theorem sp25 {tab : List Amg} {Q : MV -> Option Ob -> Prop} (ht : TabOk tab (·.s)) (hw : w.length <= 1000) (hc : c <= w.length) (hch : ∀ x ∈ w, x < 1000) (hS : ∀ a ∈ tab, a.s <+: w.drop c -> (∀ b ∈ tab, b.s <+: w.drop c -> b.s.length <= a.s.length) -> Q (.int a.res) (some (mo w (c + a.s.length) lb bra ket q1 q2)))
    (hN : (∀ b ∈ tab, ¬ b.s <+: w.drop c) -> Q (.int 0) (some (mo w c lb bra ket q1 q2))) : Sp 25 [.tab tab] (some (mo w c lb bra ket q1 q2)) Q := by
  refine sp_fin ?_
  have e : bodyOf 25 = [.asg 23 (.int 0), .asg 24 (.len (.var 25)), .asg 26 (.fld 1), .asg 27 (.fld 2), .asg 28 (.int 0), .asg 29 (.int 0), .asg 30 (.bool false), .wh (.bool true) body25, .wh (.bool true) out25, .ret .neg1] := rfl
  rw [e]
  have htl : tab.length <= 1000 := ht.two.2
  have ht2 := ht.two.1
  refine yl_cons (ys_asg (ye_int (sq_next ?_)))
  refine yl_cons (ys_asg (ye_len (ye_var rfl (m_lent (by leaf_len) (sq_next ?_)))))
  refine yl_cons (ys_asg (ye_fld rfl rfl (sq_next ?_)))
  refine yl_cons (ys_asg (ye_fld rfl rfl (sq_next ?_)))
  refine yl_cons (ys_asg (ye_int (sq_next ?_)))
  refine yl_cons (ys_asg (ye_int (sq_next ?_)))
  refine yl_cons (ys_asg (ye_bool (sq_next ?_)))
  refine yl_cons ?_
  refine loop25_ok hw hc hch ht (fun l i j ci cj f L D hci => sq_next (yl_cons (out25_ok hw hc ht (fun l a ha h1 h2 => sq_ret (hS a ha h1 h2)) (fun l h => sq_ret (hN h)) i l j ci cj f L D hci))) _ _ 0 tab.length 0 0 false rfl ⟨rfl, rfl, rfl, rfl, rfl, rfl, rfl, rfl, rfl⟩ (SInv.start ht) (.inl ⟨by mem_news, rfl⟩)
end
noncomputable def in26 : List S := [.ite (.cmp .eq (.bin .sub (.var 26) (.var 32)) (.var 35)) [.asg 31 .neg1, .brk] [], .asg 31 (.bin .sub (.ord (.idx (.fld 0) (.bin .sub (.bin .sub (.var 26) (.int 1)) (.var 32)))) (.ord (.idx (.amgOf 33 0) (.var 34)))), .ite (.cmp .ne (.var 31) (.int 0)) [.brk] [], .aug 32 .add (.int 1)]
noncomputable def body26 : List S := [.asg 7 (.bin .add (.var 23) (.bin .shr (.bin .sub (.var 24) (.var 23)) (.int 1))), .asg 31 (.int 0), .asg 32 (.min (.var 28) (.var 29)), .asg 33 (.idx (.var 25) (.var 7)), .forD 34 (.bin .sub (.bin .sub (.len (.amgOf 33 0)) (.int 1)) (.var 32)) in26, .ite (.cmp .lt (.var 31) (.int 0)) [.asg 24 (.var 7), .asg 29 (.var 32)] [.asg 23 (.var 7), .asg 28 (.var 32)], tailS]
noncomputable def out26 : List S := [.asg 33 (.idx (.var 25) (.var 23)), .ite (.cmp .ge (.var 28) (.len (.amgOf 33 0))) [.asgF 1 (.bin .sub (.var 26) (.len (.amgOf 33 0))), .ret (.amgOf 33 2)] [], .asg 23 (.amgOf 33 1), .ite (.cmp .lt (.var 23) (.int 0)) [.ret (.int 0)] []]
section
variable {w : List Nat} {c bra ket : Nat} {q1 q2 : Int}
theorem in26_ok (hw : w.length <= 1000) (hc : c <= w.length) (hch : ∀ x ∈ w, x < 1000) {a : Amg} (hal : a.s.length <= 50) (hax : ∀ x ∈ a.s, x < 1000) {q : KS} : ∀ (r m : Nat) (l : Lc), m + r = a.s.length -> m <= lcp ((w.take c).reverse) (a.s.reverse) -> l.lookup 0 = some .obj -> l.lookup 26 = some (.int c) →
    l.lookup 35 = some (.int (0 : Nat)) -> l.lookup 33 = some (.amg a) -> l.lookup 31 = some (.int 0) -> l.lookup 32 = some (.int m) →
    (∀ (l' : Lc) d, (∀ v, v ≠ 31 -> v ≠ 32 -> v ≠ 34 -> l'.lookup v = l.lookup v) -> l'.lookup 31 = some (.int d) -> (d < 0 ↔ ltT ((w.take c).reverse) (a.s.reverse) = true) -> l'.lookup 32 = some (.int (lcp ((w.take c).reverse) (a.s.reverse))) -> q .next l' (some (mo w c 0 bra ket q1 q2))) →
    YI 26 34 (rangeL ((a.s.length : Int) - 1 - (m : Int)) (-1) r) in26 l (some (mo w c 0 bra ket q1 q2)) q := by
  intro r
  induction r with
  | zero =>
    intro m l hm hle h0 h26 hL h33 h31 h32 K
    have hf := lcp_full (T := (w.take c).reverse) (k := a.s.reverse) (by simp only [List.length_reverse]; mem_news)
    refine yi_nil (K l 0 (fun _ _ _ _ => rfl) h31 ?_ ?_)
    · rw [hf.2]; simp
    · rw [hf.1, h32]; simp only [List.length_reverse]; rw [show m = a.s.length by mem_news]
  | succ r ih =>
    intro m l hm hle h0 h26 hL h33 h31 h32 K
    have hfr : ∀ (x : MV) (v : Nat), v ≠ 31 -> v ≠ 32 -> v ≠ 34 -> (upd 31 x (upd 34 (.int ((a.s.length : Int) - 1 - (m : Int))) l)).lookup v = l.lookup v := fun x v n1 n2 n3 => by rw [lookup_upd, if_neg n1, lookup_upd, if_neg n3]
    have hlt : m < (a.s.reverse).length := by simp only [List.length_reverse]; mem_news
    have htl : ((w.take c).reverse).length = c := by simp; mem_news
    have hml := lcp_le_left ((w.take c).reverse) (a.s.reverse)
    refine yi_cons ?_
    unfold in26
    reads_via
    by_cases he : m = c
    · have hend := lcp_end hle (by rw [htl, he]) hlt
      fold_lay
      reads_via
      refine K _ (-1) (hfr _) lu_eq (by rw [hend.2]; simp) ?_
      rw [lookup_upd, if_neg (by decide), lookup_upd, if_neg (by decide), h32, hend.1]
    · have hTm : m < ((w.take c).reverse).length := by rw [htl]; mem_news
      have ht := List.getElem?_eq_getElem hTm
      have hk := List.getElem?_eq_getElem hlt
      generalize ((w.take c).reverse)[m] = t at ht
      generalize (a.s.reverse)[m] = x at hk
      have hwt : w[c - 1 - m]? = some t := by rw [List.getElem?_reverse (by simpa using hTm), List.length_take, Nat.min_eq_left hc, List.getElem?_take_of_lt (by mem_news)] at ht; exact ht
      have hax' : a.s[a.s.length - 1 - m]? = some x := by rw [List.getElem?_reverse (by simpa using hlt)] at hk; exact hk
      have bt := hch t (List.mem_of_getElem? hwt)
      have bx := hax x (List.mem_of_getElem? hax')
      fold_depth
      reads_via
      refine m_idxs (i := c - 1 - m) (by mem_news) hwt (by leaf_len) ?_
      reads_via
      refine m_idxs (i := a.s.length - 1 - m) (by mem_news) hax' (by leaf_len) ?_
      reads_via
      by_cases hxt : t = x
      · subst hxt
        have := lcp_on hle ht hk
        fold_depth
        reads_via
        have e : (m : Int) + 1 = ((m + 1 : Nat) : Int) := by mem_news
        have e2 : ((a.s.length : Int) - 1 - (m : Int)) + (-1) = (a.s.length : Int) - 1 - ((m + 1 : Nat) : Int) := by mem_news
        rw [e, e2]
        refine ih (m + 1) _ (by mem_news) this (by got_up) (by got_up) (by got_up) (by got_up) ?_ (by got_up) fun l' d k1 k2 k3 k4 => K l' d (fun v n1 n2 n3 => ?_) k2 k3 k4
        · rw [lookup_upd, if_neg (by decide), lookup_upd, if_pos rfl]; simp
        · rw [k1 v n1 n2 n3, lookup_upd, if_neg n2, hfr _ v n1 n2 n3]
      · have hne := lcp_ne hle ht hk hxt
        fold_lay
        reads_via
        refine K _ _ (hfr _) lu_eq ?_ ?_
        · rw [hne.2, decide_eq_true_eq]; mem_news
        · rw [lookup_upd, if_neg (by decide), lookup_upd, if_neg (by decide), h32, hne.1]
theorem body26_ok (hw : w.length <= 1000) (hc : c <= w.length) (hch : ∀ x ∈ w, x < 1000) {tab : List Amg} (ht : TabOk tab (·.s.reverse)) {l : Lc} {i j ci cj : Nat} {f : Bool} (L : FL l 35 i j ci cj f tab c 0) {a : Amg} (hij : i < j) (hj : j <= tab.length) (hci : ci <= 50) (hcj : cj <= 50)
    (ha : tab[i + (j - i) / 2]? = some a) (hm : min ci cj <= lcp ((w.take c).reverse) (a.s.reverse)) {q : KS}
    (hA : ltT ((w.take c).reverse) (a.s.reverse) = true -> ∀ l', FL l' 35 i (i + (j - i) / 2) ci (lcp ((w.take c).reverse) (a.s.reverse)) f tab c 0 -> YL 26 [tailS] l' (some (mo w c 0 bra ket q1 q2)) q)
    (hB : ltT ((w.take c).reverse) (a.s.reverse) = false -> ∀ l', FL l' 35 (i + (j - i) / 2) j (lcp ((w.take c).reverse) (a.s.reverse)) cj f tab c 0 -> YL 26 [tailS] l' (some (mo w c 0 bra ket q1 q2)) q) :
    YL 26 body26 l (some (mo w c 0 bra ket q1 q2)) q := by
  obtain ⟨h0, h23, h24, h25, h26, hL, h28, h29, h30⟩ := L
  obtain ⟨⟨hkl, hal⟩, hax⟩ := ht.len a (List.mem_of_getElem? ha)
  have htl : tab.length <= 1000 := ht.two.2
  have hlr := lcp_le_right ((w.take c).reverse) (a.s.reverse)
  unfold body26
  reads_via
  refine m_shr ?_
  reads_via
  have ed : Int.fdiv ((j : Int) - i) 2 = (((j - i) / 2 : Nat) : Int) := by
    rw [Int.fdiv_eq_ediv_of_nonneg _ (by decide), ar_sub (Nat.le_of_lt hij)]; rfl
  rw [ed]
  have ek : (i : Int) + (((j - i) / 2 : Nat) : Int) = ((i + (j - i) / 2 : Nat) : Int) := by mem_news
  rw [ek]
  reads_via
  have em : (if (cj : Int) < ci then (cj : Int) else ci) = ((min ci cj : Nat) : Int) := by
    exact ar_min
  rw [em]
  refine m_idxt (i := i + (j - i) / 2) rfl ha (by leaf_len) ?_
  reads_via
  refine ys_forD ?_
  reads_via
  refine ⟨by leaf_len, ?_⟩
  rw [show ((a.s.length : Int) - 1 - ((min ci cj : Nat) : Int) + 1).toNat = a.s.length - min ci cj by mem_news]
  refine in26_ok hw hc hch hal hax (a.s.length - min ci cj) (min ci cj) _ (by mem_news) hm (by got_up) (by got_up) (by got_up) (by got_up) (by got_up) (by got_up) fun l' d k1 k2 k3 k4 => ?_
  have g : ∀ v, v ≠ 7 -> v ≠ 31 -> v ≠ 32 -> v ≠ 33 -> v ≠ 34 -> l'.lookup v = l.lookup v := fun v n1 n2 n3 n4 n5 => by
    rw [k1 v n2 n3 n5, lookup_upd, if_neg n4, lookup_upd, if_neg n3, lookup_upd, if_neg n2, lookup_upd, if_neg n1]
  have g7 : l'.lookup 7 = some (.int ((i + (j - i) / 2 : Nat) : Int)) := by
    rw [k1 7 (by decide) (by decide) (by decide)]; got_up
  have g0 := (g 0 (by decide) (by decide) (by decide) (by decide) (by decide)).trans h0
  have g23 := (g 23 (by decide) (by decide) (by decide) (by decide) (by decide)).trans h23
  have g24 := (g 24 (by decide) (by decide) (by decide) (by decide) (by decide)).trans h24
  have g25 := (g 25 (by decide) (by decide) (by decide) (by decide) (by decide)).trans h25
  have g26 := (g 26 (by decide) (by decide) (by decide) (by decide) (by decide)).trans h26
  have gL := (g 35 (by decide) (by decide) (by decide) (by decide) (by decide)).trans hL
  have g28 := (g 28 (by decide) (by decide) (by decide) (by decide) (by decide)).trans h28
  have g29 := (g 29 (by decide) (by decide) (by decide) (by decide) (by decide)).trans h29
  have g30 := (g 30 (by decide) (by decide) (by decide) (by decide) (by decide)).trans h30
  refine sq_next (yl_cons (ys_ite ?_))
  reads_via
  cases hlt : ltT ((w.take c).reverse) (a.s.reverse) with
  | true =>
    have hd := k3.mpr hlt
    fold_lay
    refine yl_cons (ys_asg (ye_var g7 (sq_next (yl_cons (ys_asg (ye_var (x := .int (lcp ((w.take c).reverse) (a.s.reverse))) (by got_up) (sq_next (yl_nil (sq_next ?_)))))))))
    exact hA hlt _ ⟨by got_up, by got_up, by got_up, by got_up, by got_up, by got_up, by got_up, by got_up, by got_up⟩
  | false =>
    have hd : ¬ d < 0 := fun hd => by rw [k3.mp hd] at hlt; cases hlt
    fold_depth
    refine yl_cons (ys_asg (ye_var g7 (sq_next (yl_cons (ys_asg (ye_var (x := .int (lcp ((w.take c).reverse) (a.s.reverse))) (by got_up) (sq_next (yl_nil (sq_next ?_)))))))))
    exact hB hlt _ ⟨by got_up, by got_up, by got_up, by got_up, by got_up, by got_up, by got_up, by got_up, by got_up⟩
theorem loop26_ok (hw : w.length <= 1000) (hc : c <= w.length) (hch : ∀ x ∈ w, x < 1000) {tab : List Amg} (ht : TabOk tab (·.s.reverse)) {q : KS}
    (K : ∀ (l : Lc) i j ci cj f, FL l 35 i j ci cj f tab c 0 -> Done tab (·.s.reverse) ((w.take c).reverse) i ci -> ci <= 50 -> q .next l (some (mo w c 0 bra ket q1 q2))) :
    ∀ (N : Nat) (l : Lc) (i j ci cj : Nat) (f : Bool), 2 * (j - i) + (if f then 0 else 1) = N -> FL l 35 i j ci cj f tab c 0 -> SInv tab (·.s.reverse) ((w.take c).reverse) i j ci cj -> ((2 <= j - i /\ f = false) \/ (i = 0 /\ j = 1 /\ f = true)) →
    YS 26 (.wh (.bool true) body26) l (some (mo w c 0 bra ket q1 q2)) q := by
  intro N
  induction N using Nat.strongRecOn with
  | ind N ih =>
    intro l i j ci cj f hN L I hd
    have hij : i < j := hd.elim (fun h => Nat.lt_of_sub_pos (Nat.lt_of_lt_of_le (by decide) h.1)) (fun h => by rw [h.1, h.2.1]; decide)
    have hj := I.le
    have hk : i + (j - i) / 2 < tab.length := Nat.lt_of_lt_of_le (mid_lt hij) hj
    have ha := List.getElem?_eq_getElem hk
    generalize tab[i + (j - i) / 2] = a at ha
    refine ys_wh (ye_bool (m_bool (pickT rfl ?_)))
    refine body26_ok hw hc hch ht L hij hj (I.ci50 ht) (I.cj50 ht) ha (I.common ht hij ha) (fun hlt l' L' => ?_) (fun hlt l' L' => ?_)
    · have I' := I.down hlt ha
      refine tail_ok L'.h23 L'.h24 L'.h30 (by have := ht.two.2; mem_news) (by have := ht.two.2; mem_news) (fun hb => tn_brk (K _ _ _ _ _ _ L' (I'.exit ht hb.1 ?_) (I'.ci50 ht))) (fun b1 b2 b3 b4 => tn_next ?_) (fun b1 => tn_next ?_)
      · rcases hb.2 with h | h | h
        · exact .inl h
        · exact .inr (.inl h)
        · rcases hd with ⟨_, rfl⟩ | ⟨rfl, rfl, _⟩
          · cases h
          · exact .inr (.inl rfl)
      · have hf : 2 <= j - i := by mem_news
        have e1 : i + (j - i) / 2 = 1 := by mem_news
        rw [e1] at L' I'
        subst b2
        refine ih _ ?_ _ 0 1 ci _ true rfl (L'.set30 true) I' (.inr ⟨rfl, rfl, rfl⟩)
        simp only [if_true]; mem_news
      · rcases hd with ⟨h2, rfl⟩ | ⟨rfl, rfl, rfl⟩
        · refine ih _ ?_ _ _ _ _ _ false rfl L' I' (.inl ⟨by mem_news, rfl⟩)
          first | exact Nat.lt_of_lt_of_eq (mid_dn h2) hN | lia
        · exfalso; mem_news
    · have I' := I.up hlt ha
      refine tail_ok L'.h23 L'.h24 L'.h30 (by have := ht.two.2; mem_news) (by have := ht.two.2; mem_news) (fun hb => tn_brk (K _ _ _ _ _ _ L' (I'.exit ht hb.1 (.inr (.inr (insp hlt ha)))) (I'.ci50 ht))) (fun b1 b2 b3 b4 => ?_) (fun b1 => tn_next ?_)
      · exfalso
        rcases hd with ⟨h2, rfl⟩ | ⟨rfl, rfl, rfl⟩
        · mem_news
        · cases b4
      · rcases hd with ⟨h2, rfl⟩ | ⟨rfl, rfl, rfl⟩
        · refine ih _ ?_ _ _ _ _ _ false rfl L' I' (.inl ⟨by mem_news, rfl⟩)
          first | exact Nat.lt_of_lt_of_eq (mid_up h2) hN | lia
        · exfalso; mem_news
theorem out26_ok (hw : w.length <= 1000) (hc : c <= w.length) {tab : List Amg} (ht : TabOk tab (·.s.reverse)) {q : KS} (hS : ∀ l, ∀ a ∈ tab, a.s.reverse <+: (w.take c).reverse -> (∀ b ∈ tab, b.s.reverse <+: (w.take c).reverse -> b.s.length <= a.s.length) -> q (.ret (.int a.res)) l (some (mo w (c - a.s.length) 0 bra ket q1 q2)))
    (hN : ∀ l, (∀ b ∈ tab, ¬ b.s.reverse <+: (w.take c).reverse) -> q (.ret (.int 0)) l (some (mo w c 0 bra ket q1 q2))) : ∀ (i : Nat) (l : Lc) (j ci cj : Nat) (f : Bool), FL l 35 i j ci cj f tab c 0 -> Done tab (·.s.reverse) ((w.take c).reverse) i ci -> ci <= 50 →
    YS 26 (.wh (.bool true) out26) l (some (mo w c 0 bra ket q1 q2)) q := by
  intro i
  induction i using Nat.strongRecOn with
  | ind i ih =>
    intro l j ci cj f L D hci
    obtain ⟨a, ha, J, I2⟩ := D
    obtain ⟨h0, h23, h24, h25, h26, hL, h28, h29, h30⟩ := L
    have hma := List.mem_of_getElem? ha
    obtain ⟨⟨hkl, hal⟩, hax⟩ := ht.len a hma
    have htl : tab.length <= 1000 := ht.two.2
    obtain ⟨S1, S2⟩ := ht.sub i a ha
    refine ys_wh (ye_bool (m_bool (pickT rfl ?_)))
    unfold out26
    reads_via
    refine m_idxt (i := i) rfl ha (by leaf_len) ?_
    reads_via
    by_cases hle : a.s.length <= ci
    · have hp := (J i a ha List.prefix_rfl).mp (by rw [hkl]; exact hle)
      have hcl : a.s.length <= c := by have := hp.length_le; simp only [List.length_reverse, List.length_take] at this; mem_news
      fold_lay
      reads_via
      rw [show (c : Int) - (a.s.length : Int) = ((c - a.s.length : Nat) : Int) by mem_news]
      refine hS _ a hma hp fun b hb hbp => ?_
      obtain ⟨m, hm⟩ := List.mem_iff_getElem?.mp hb
      have := (I2 m b hm hbp).length_le
      rw [hkl, (ht.len b hb).1.1] at this
      exact this
    · have hnp : ¬ a.s.reverse <+: (w.take c).reverse := fun hp => hle (by rw [<- hkl]; exact (J i a ha List.prefix_rfl).mpr hp)
      have hne : ∀ (m : Nat) (y : Amg), tab[m]? = some y -> y.s.reverse <+: (w.take c).reverse -> y.s.reverse ≠ a.s.reverse := fun m y hy hp e => hnp (by rw [e] at hp; exact hp)
      fold_depth
      reads_via
      rcases S1 with hneg | ⟨n, hn, hni, y, hy, hyp⟩
      · fold_lay
        reads_via
        refine hN _ fun b hb hbp => ?_
        obtain ⟨m, hm⟩ := List.mem_iff_getElem?.mp hb
        obtain ⟨n, hn, _⟩ := S2 m b hm (I2 m b hm hbp) (hne m b hm hbp)
        mem_news
      · fold_depth
        reads_via
        rw [hn]
        refine ih n hni _ j ci cj f ⟨by got_up, by got_up, by got_up, by got_up, by got_up, by got_up, by got_up, by got_up, by got_up⟩ ⟨y, hy, fun m z hz hzp => J m z hz (hzp.trans hyp), fun m z hz hzp => ?_⟩ hci
        obtain ⟨n', hn', z', hz', hp'⟩ := S2 m z hz (I2 m z hz hzp) (hne m z hz hzp)
        have : n' = n := by mem_news
        subst this
        rw [hy] at hz'; cases hz'
        exact hp'
theorem sp26 {tab : List Amg} {Q : MV -> Option Ob -> Prop} (ht : TabOk tab (·.s.reverse)) (hw : w.length <= 1000) (hc : c <= w.length) (hch : ∀ x ∈ w, x < 1000) (hS : ∀ a ∈ tab, a.s.reverse <+: (w.take c).reverse -> (∀ b ∈ tab, b.s.reverse <+: (w.take c).reverse -> b.s.length <= a.s.length) -> Q (.int a.res) (some (mo w (c - a.s.length) 0 bra ket q1 q2)))
    (hN : (∀ b ∈ tab, ¬ b.s.reverse <+: (w.take c).reverse) -> Q (.int 0) (some (mo w c 0 bra ket q1 q2))) : Sp 26 [.tab tab] (some (mo w c 0 bra ket q1 q2)) Q := by
  refine sp_fin ?_
  have e : bodyOf 26 = [.asg 23 (.int 0), .asg 24 (.len (.var 25)), .asg 26 (.fld 1), .asg 35 (.fld 3), .asg 28 (.int 0), .asg 29 (.int 0), .asg 30 (.bool false), .wh (.bool true) body26, .wh (.bool true) out26, .ret .neg1] := rfl
  rw [e]
  have htl : tab.length <= 1000 := ht.two.2
  have ht2 := ht.two.1
  refine yl_cons (ys_asg (ye_int (sq_next ?_)))
  refine yl_cons (ys_asg (ye_len (ye_var rfl (m_lent (by leaf_len) (sq_next ?_)))))
  refine yl_cons (ys_asg (ye_fld rfl rfl (sq_next ?_)))
  refine yl_cons (ys_asg (ye_fld rfl rfl (sq_next ?_)))
  refine yl_cons (ys_asg (ye_int (sq_next ?_)))
  refine yl_cons (ys_asg (ye_int (sq_next ?_)))
  refine yl_cons (ys_asg (ye_bool (sq_next ?_)))
  refine yl_cons ?_
  refine loop26_ok hw hc hch ht (fun l i j ci cj f L D hci => sq_next (yl_cons (out26_ok hw hc ht (fun l a ha h1 h2 => sq_ret (hS a ha h1 h2)) (fun l h => sq_ret (hN h)) i l j ci cj f L D hci))) _ _ 0 tab.length 0 0 false rfl ⟨rfl, rfl, rfl, rfl, rfl, rfl, rfl, rfl, rfl⟩ (SInv.start ht) (.inl ⟨by mem_news, rfl⟩)
end
noncomputable def V (c : Nat) : Bool := gr0.contains c
noncomputable def uy (c : Nat) : Bool := c == 117 || c == 121
noncomputable def upc (c : Nat) : Nat := if c = 117 then 85 else 89
noncomputable def mark : Bool -> List Nat -> List Nat
  | _, [] => []
  | pv, c :: r => if uy c && pv && r.head?.any V then upc c :: mark false r else c :: mark (V c) r
noncomputable def cnt (w : List Nat) : Nat -> Nat
  | 0 => 0
  | p + 1 => match w[p]? with
    | some c => if uy c then cnt w p + 1 else if V c then 1 else 0
    | none => 0
theorem mark_len : ∀ (b : Bool) (w : List Nat), (mark b w).length = w.length
  | _, [] => rfl
  | b, c :: r => by
    unfold mark
    split
    · rw [List.length_cons, mark_len, List.length_cons]
    · rw [List.length_cons, mark_len, List.length_cons]
theorem cnt_le : ∀ (w : List Nat) (p : Nat), cnt w p <= p
  | _, 0 => Nat.le_refl _
  | w, p + 1 => by
    have := cnt_le w p
    unfold cnt
    split
    · split
      · mem_news
      · split <;> mem_news
    · mem_news
noncomputable def vs1 : List (List Nat) := [[97], [101], [105], [111], [117], [121], [228], [246], [252]]
theorem vs_one (c : Nat) : vs1.contains [c] = V c := by
  simp [vs1, V, gr0]
theorem vs_no : vs1.contains [] = false := by decide
theorem slice1 (w : List Nat) (n : Nat) : ssub w n (n + 1) = (w[n]?).toList := by
  unfold ssub
  rw [show n + 1 - n = 1 by mem_news]
  by_cases h : n < w.length
  · rw [List.drop_eq_getElem_cons h, List.getElem?_eq_getElem h]
    rfl
  · rw [List.drop_of_length_le (by mem_news), List.getElem?_eq_none (by mem_news)]; rfl
theorem uy_V {c : Nat} (h : uy c = true) : V c = true := by
  simp only [uy, Bool.or_eq_true, beq_iff_eq] at h
  rcases h with rfl | rfl <;> decide
section
variable {o : Option Ob} {Q : MV -> Option Ob -> Prop} {w : List Nat}
theorem sp0 {s : List Nat} (h : Q (.bool (vs1.contains s)) o) : Sp 0 [.str s] o Q := by
  refine sp_fin ?_
  show YL 0 b0 _ _ _
  unfold b0
  reads_via
  exact h
noncomputable def singles (l : List Nat) : List (List Nat) := l.map fun c => [c]
theorem sp1 (h : Q (.strs (singles gr2)) o) : Sp 1 [] o Q := by
  refine sp_fin ?_
  show YL 1 b1 _ _ _
  unfold b1
  reads_via
  exact h
theorem sp2 (h : Q (.strs (singles gr3)) o) : Sp 2 [] o Q := by
  refine sp_fin ?_
  show YL 2 b2 _ _ _
  unfold b2
  reads_via
  exact h
noncomputable def bet : List Nat := [100, 102, 103, 107, 108, 109, 110, 114, 115, 116, 85, 122, 228]
theorem sp3 (h : Q (.strs (singles bet)) o) : Sp 3 [] o Q := by
  refine sp_fin ?_
  show YL 3 b3 _ _ _
  unfold b3
  reads_via
  exact h
noncomputable def dUml : List (List Nat × List Nat) := [([97], [228]), ([111], [246]), ([117], [252])]
noncomputable def dBack : List (List Nat × List Nat) := [([85], [117]), ([89], [121]), ([228], [97]), ([246], [111]), ([252], [117])]
theorem sp4 (h : Q (.dict dUml) o) : Sp 4 [] o Q := by
  refine sp_fin ?_
  show YL 4 b4 _ _ _
  unfold b4
  refine yl_cons (ys_ret (ye_dict (by decide) (sq_ret (fin_ret h))))
theorem sp5 (h : Q (.dict dBack) o) : Sp 5 [] o Q := by
  refine sp_fin ?_
  show YL 5 b5 _ _ _
  unfold b5
  refine yl_cons (ys_ret (ye_dict (by decide) (sq_ret (fin_ret h))))
noncomputable def texts : List (List Nat) := match b6 with | [.ret (.strs l)] => l | _ => []
theorem sp6 (h : Q (.strs texts) o) : Sp 6 [] o Q := by
  refine sp_fin ?_
  show YL 6 b6 _ _ _
  have e : b6 = [.ret (.strs texts)] := rfl
  rw [e]
  refine yl_cons (ys_ret (ye_strs (by decide) (sq_ret (fin_ret h))))
noncomputable def wh7 : S := .wh (.bop true (.cmp .gt (.var 5) (.int 0)) (.cmp .isin (.idx (.var 4) (.bin .sub (.var 5) (.int 1))) (.strs [[117], [121]]))) [.aug 5 .sub (.int 1)]
theorem uy_in (c : Nat) : List.contains [[117], [121]] [c] = uy c := by
  simp [uy]
  rfl
theorem wh7_ok (hw : w.length <= 1000) {p : Nat} (hp : p <= w.length) {q : KS} : ∀ (s : Nat) (l : Lc), s <= p -> l.lookup 5 = some (.int s) -> l.lookup 4 = some (.str w) -> p - s + cnt w s = cnt w p →
    (∀ (l' : Lc) s', s' <= p -> (∀ v, v ≠ 5 -> l'.lookup v = l.lookup v) -> l'.lookup 5 = some (.int (s' : Nat)) -> p - s' + cnt w s' = cnt w p -> (s' = 0 \/ ∃ c, 0 < s' /\ w[s' - 1]? = some c /\ uy c = false) -> q .next l' o) -> YS 7 wh7 l o q := by
  intro s
  induction s with
  | zero =>
    intro l hs h5 h4 hc K
    unfold wh7
    refine ys_wh ?_
    reads_via
    fold_depth
    reads_via
    refine pickF rfl ?_
    exact K l 0 hs (fun _ _ => rfl) h5 hc (.inl rfl)
  | succ s ih =>
    intro l hs h5 h4 hc K
    have hlt : s < w.length := by mem_news
    have hx := List.getElem?_eq_getElem hlt
    unfold wh7
    refine ys_wh ?_
    reads_via
    fold_lay
    reads_via
    refine m_idxs (i := s) (by mem_news) hx (by leaf_len) ?_
    reads_via
    rw [uy_in]
    cases hu : uy w[s] with
    | true =>
      refine pickT rfl ?_
      reads_via
      have e : ((s + 1 : Nat) : Int) - 1 = (s : Int) := by mem_news
      rw [e]
      refine ih _ (by mem_news) (by got_up) (by got_up) ?_ fun l' s' k1 k2 k3 k4 k5 => K l' s' k1 (fun v hv => by rw [k2 v hv, lookup_upd, if_neg hv]) k3 k4 k5
      have : cnt w (s + 1) = cnt w s + 1 := by
        show (match w[s]? with | some c => _ | none => _) = _
        rw [hx]
        simp only [hu, if_true]
      mem_news
    | false =>
      refine pickF rfl ?_
      exact K l (s + 1) hs (fun _ _ => rfl) h5 hc (.inr ⟨_, Nat.succ_pos _, hx, hu⟩)
noncomputable def body7 : List S := [.asg 1 (.idx (.var 4) (.var 3)), .ite (.bop true (.cmp .isin (.var 1) (.strs [[117], [121]])) (.call1 0 (.slice (.var 4) (.bin .add (.var 3) (.int 1)) (.bin .add (.var 3) (.int 2))))) [.asg 5 (.var 3), wh7, .asg 6 (.bin .sub (.var 3) (.var 5)), .ite (.bop true (.cmp .gt (.var 5) (.int 0)) (.call1 0 (.idx (.var 4) (.bin .sub (.var 5) (.int 1))))) [.aug 6 .add (.int 1)] [], .ite (.cmp .eq (.bin .mod (.var 6) (.int 2)) (.int 1)) [.asg 1 (.ite (.cmp .eq (.var 1) (.str [117])) (.str [85]) (.str [89]))] []] [], .asg 2 (.bin .add (.var 2) (.var 1))]
theorem fmod2 (n : Nat) : Int.fmod (n : Int) 2 = ((n % 2 : Nat) : Int) := by
  rw [Int.fmod_eq_emod_of_nonneg _ (by decide)]; mem_news
theorem lp7_ok (hw : w.length <= 1000) {q : KS} : ∀ (r p : Nat) (told : List Nat) (pv : Bool) (l : Lc), p + r = w.length -> l.lookup 4 = some (.str w) -> l.lookup 2 = some (.str told) -> told ++ mark pv (w.drop p) = mark false w →
    (∀ c, w[p]? = some c -> uy c = true -> pv = decide (cnt w p % 2 = 1)) -> (∀ l' : Lc, l'.lookup 2 = some (.str (mark false w)) -> q .next l' o) -> YI 7 3 (rangeL (p : Int) 1 r) body7 l o q := by
  intro r
  induction r with
  | zero =>
    intro p told pv l hp h4 h2 hm hv K
    refine yi_nil (K l ?_)
    rw [List.drop_of_length_le (by mem_news)] at hm
    have : mark pv [] = [] := rfl
    rw [this, List.append_nil] at hm
    rw [<- hm]; exact h2
  | succ r ih =>
    intro p told pv l hp h4 h2 hm hv K
    have hlt : p < w.length := by mem_news
    have hx := List.getElem?_eq_getElem hlt
    have htl : told.length = p := by
      have := congrArg List.length hm
      simp only [List.length_append, mark_len, List.length_drop] at this
      mem_news
    have hd : w.drop p = w[p] :: w.drop (p + 1) := List.drop_eq_getElem_cons hlt
    have hhd : (w.drop (p + 1)).head? = w[p + 1]? := by rw [List.head?_drop]
    generalize hc : w[p] = c at hx hd
    have hmk : mark pv (c :: w.drop (p + 1)) = if uy c && pv && (w.drop (p + 1)).head?.any V then upc c :: mark false (w.drop (p + 1)) else c :: mark (V c) (w.drop (p + 1)) := rfl
    rw [hd, hmk, hhd] at hm
    have step : ∀ (s : Nat) (b : Bool) (l' : Lc), l'.lookup 4 = some (.str w) -> l'.lookup 2 = some (.str told) -> l'.lookup 1 = some (.str [s]) -> (if uy c && pv && (w[p + 1]?).any V then upc c :: mark false (w.drop (p + 1)) else c :: mark (V c) (w.drop (p + 1))) = s :: mark b (w.drop (p + 1)) →
        (∀ c', w[p + 1]? = some c' -> uy c' = true -> b = decide (cnt w (p + 1) % 2 = 1)) →
        YL 7 [.asg 2 (.bin .add (.var 2) (.var 1))] l' o (tn (fun l o => YI 7 3 (rangeL ((p : Int) + 1) 1 r) body7 l o q) q) := by
      intro s b l' g4 g2 g1 he hb
      reads_via
      refine m_adds (by leaf_len) (by leaf_len) ?_
      reads_via
      have e : (p : Int) + 1 = ((p + 1 : Nat) : Int) := by mem_news
      rw [e]
      refine ih (p + 1) (told ++ [s]) b _ (by mem_news) (by got_up) (by got_up) ?_ hb K
      rw [List.append_assoc]
      rw [he] at hm
      exact hm
    have hcnt : cnt w (p + 1) = if uy c then cnt w p + 1 else if V c then 1 else 0 := by
      show (match w[p]? with | some c => _ | none => _) = _
      rw [hx]
    refine yi_cons ?_
    unfold body7
    reads_via
    refine m_idxs rfl hx (by leaf_len) ?_
    reads_via
    rw [uy_in]
    cases hu : uy c with
    | false =>
      refine pickF rfl ?_
      reads_via
      refine pickF rfl ?_
      refine yl_nil (sq_next ?_)
      refine step c (V c) _ (by got_up) (by got_up) (by got_up) (by rw [hu]; rfl) fun c' hc' hu' => ?_
      rw [hcnt, hu]
      simp only [Bool.false_eq_true, if_false]
      cases V c <;> rfl
    | true =>
      refine pickT rfl ?_
      reads_via
      refine m_slice (a := p + 1) (b := p + 2) (by mem_news) (by mem_news) (by leaf_len) (by leaf_len) (by leaf_len) ?_
      rw [slice1]
      refine sp0 ?_
      have hv' := hv c hx hu
      have hpc := cnt_le w p
      rw [hu] at step hcnt
      simp only [Bool.true_and, if_true] at step hcnt
      cases hn : w[p + 1]? with
      | none =>
        rw [show vs1.contains (Option.toList none) = false from vs_no]
        reads_via
        refine pickF rfl ?_
        refine yl_nil (sq_next ?_)
        refine step c (V c) _ (by got_up) (by got_up) (by got_up) (by rw [hn]; simp) fun c' hc' _ => ?_
        rw [hn] at hc'; cases hc'
      | some d =>
        rw [show vs1.contains (Option.toList (some d)) = V d from vs_one d]
        reads_via
        cases hvd : V d with
        | false =>
          refine pickF rfl ?_
          refine yl_nil (sq_next ?_)
          refine step c (V c) _ (by got_up) (by got_up) (by got_up) (by rw [hn]; simp [hvd]) fun c' hc' hu' => ?_
          rw [hn] at hc'; cases hc'
          rw [uy_V hu'] at hvd; cases hvd
        | true =>
          refine pickT rfl ?_
          reads_via
          refine wh7_ok hw (p := p) (by mem_news) p _ (Nat.le_refl _) (by got_up) (by got_up) (by mem_news) fun l' s' k1 k2 k3 k4 k5 => ?_
          have g1 : l'.lookup 1 = some (.str [c]) := by rw [k2 1 (by decide)]; got_up
          have g2 : l'.lookup 2 = some (.str told) := by rw [k2 2 (by decide)]; got_up
          have g3 : l'.lookup 3 = some (.int (p : Int)) := by rw [k2 3 (by decide)]; got_up
          have g4 : l'.lookup 4 = some (.str w) := by rw [k2 4 (by decide)]; got_up
          reads_via
          have rest : ∀ (q2 : KS) (l2 : Lc), l2.lookup 1 = some (.str [c]) -> l2.lookup 2 = some (.str told) -> l2.lookup 4 = some (.str w) -> l2.lookup 6 = some (.int (cnt w p : Nat)) →
              (∀ (s : Nat) (b : Bool) (l3 : Lc), l3.lookup 4 = some (.str w) -> l3.lookup 2 = some (.str told) -> l3.lookup 1 = some (.str [s]) -> (if pv && (w[p + 1]?).any V then upc c :: mark false (w.drop (p + 1)) else c :: mark (V c) (w.drop (p + 1))) = s :: mark b (w.drop (p + 1)) →
                (∀ c', w[p + 1]? = some c' -> uy c' = true -> b = decide (cnt w (p + 1) % 2 = 1)) -> q2 .next l3 o) →
              YL 7 [.ite (.cmp .eq (.bin .mod (.var 6) (.int 2)) (.int 1)) [.asg 1 (.ite (.cmp .eq (.var 1) (.str [117])) (.str [85]) (.str [89]))] []] l2 o q2 := by
            intro q2 l2 f1 f2 f4 f6 K2
            reads_via
            refine m_mod2 ?_
            rw [fmod2]
            reads_via
            by_cases hodd : cnt w p % 2 = 1
            · rw [decide_eq_true hodd] at hv'
              refine pickT (by rw [hodd]; rfl) ?_
              reads_via
              by_cases h117 : c = 117
              · refine pickT (by rw [h117]; rfl) ?_
                reads_via
                refine K2 85 false _ (by got_up) (by got_up) (by got_up) (by rw [hv', hn, h117]; simp [hvd, upc]) fun c' hc' hu' => ?_
                rw [hcnt]
                symm
                rw [decide_eq_false_iff_not]; mem_news
              · refine pickF (by simp [h117]) ?_
                reads_via
                refine K2 89 false _ (by got_up) (by got_up) (by got_up) (by rw [hv', hn]; simp [hvd, upc, h117]) fun c' hc' hu' => ?_
                rw [hcnt]
                symm
                rw [decide_eq_false_iff_not]; mem_news
            · rw [decide_eq_false hodd] at hv'
              refine pickF (decide_eq_false (by mem_news)) ?_
              reads_via
              refine K2 c (V c) _ (by got_up) (by got_up) (by got_up) (by rw [hv']; simp) fun c' hc' hu' => ?_
              rw [hcnt, uy_V hu]
              symm
              rw [decide_eq_true_iff]; mem_news
          rcases k5 with rfl | ⟨c0, hs0, hc0, hu0⟩
          · fold_depth
            reads_via
            refine pickF rfl ?_
            refine yl_nil (sq_next ?_)
            refine rest _ _ (by got_up) (by got_up) (by got_up) ?_ fun s b l3 g4 g2 g1 he hb => sq_next (step s b l3 g4 g2 g1 he hb)
            have e6 : (p : Int) - ((0 : Nat) : Int) = ((cnt w p : Nat) : Int) := by
              have : cnt w 0 = 0 := rfl
              mem_news
            rw [lookup_upd, if_pos rfl, e6]
          · fold_lay
            reads_via
            refine m_idxs (i := s' - 1) (by mem_news) hc0 (by leaf_len) ?_
            refine sp0 ?_
            rw [vs_one]
            reads_via
            have ec : cnt w s' = if V c0 then 1 else 0 := by
              obtain ⟨s, rfl⟩ : ∃ s, s' = s + 1 := ⟨s' - 1, by mem_news⟩
              show (match w[s]? with | some c => _ | none => _) = _
              rw [show w[s]? = some c0 from hc0]
              simp only [hu0, Bool.false_eq_true, if_false]
            cases hv0 : V c0 with
            | true =>
              rw [hv0] at ec
              simp only [if_true] at ec
              refine pickT rfl ?_
              refine yl_cons (ys_aug (x := .int ((p : Int) - (s' : Int))) (by got_up) (ye_int (m_addi (sq_next (yl_nil (sq_next ?_))))))
              refine rest _ _ (by got_up) (by got_up) (by got_up) ?_ fun s b l3 g4 g2 g1 he hb => sq_next (step s b l3 g4 g2 g1 he hb)
              have e6 : (p : Int) - (s' : Int) + 1 = ((cnt w p : Nat) : Int) := by mem_news
              rw [lookup_upd, if_pos rfl, e6]
            | false =>
              rw [hv0] at ec
              simp only [Bool.false_eq_true, if_false] at ec
              refine pickF rfl ?_
              refine yl_nil (sq_next ?_)
              refine rest _ _ (by got_up) (by got_up) (by got_up) ?_ fun s b l3 g4 g2 g1 he hb => sq_next (step s b l3 g4 g2 g1 he hb)
              have e6 : (p : Int) - (s' : Int) = ((cnt w p : Nat) : Int) := by mem_news
              rw [lookup_upd, if_pos rfl, e6]
theorem sp7 (hw : w.length <= 1000) (h : Q (.str (mark false w)) o) : Sp 7 [.str w] o Q := by
  refine sp_fin ?_
  have e : bodyOf 7 = [.asg 2 (.str []), .forR1 3 (.len (.var 4)) body7, .ret (.var 2)] := rfl
  rw [e]
  refine yl_cons (ys_asg (ye_str (sq_next (yl_cons (ys_forR1 ?_)))))
  reads_via
  refine ⟨by leaf_len, ?_⟩
  rw [Int.toNat_natCast]
  refine lp7_ok hw w.length 0 [] false _ (by mem_news) (by got_up) (by got_up) rfl (fun c hc hu => rfl) fun l' h2 => ?_
  refine sq_next (yl_cons (ys_ret (ye_var h2 (sq_ret (fin_ret h)))))
end
noncomputable def pairB (w : List Nat) (p : Nat) : Bool := (w[p + 1]? == some 101) && ((w[p]? == some 97) || (w[p]? == some 111) || ((w[p]? == some 117) && ((p == 0) || !(w[p - 1]? == some 113))))
noncomputable def pairAt (pq : Bool) (c : Nat) (r : List Nat) : Bool := (r.head? == some 101) && (c == 97 || c == 111 || (c == 117 && !pq))
noncomputable def uml (c : Nat) : Nat := if c = 97 then 228 else if c = 111 then 246 else 252
noncomputable def jn : Bool -> Bool -> List Nat -> List Nat
  | _, _, [] => []
  | true, _, _ :: r => jn false false r
  | false, pq, c :: r => if pairAt pq c r then uml c :: jn true false r else if c = 223 then 115 :: 115 :: jn false false r else c :: jn false (c == 113) r
theorem jn_len : ∀ (a b : Bool) (w : List Nat), (jn a b w).length <= 2 * w.length
  | _, _, [] => Nat.zero_le _
  | true, _, _ :: r => by
    have := jn_len false false r
    unfold jn
    simp only [List.length_cons]; mem_news
  | false, pq, c :: r => by
    unfold jn
    split
    · have := jn_len true false r
      simp only [List.length_cons]; mem_news
    · split
      · have := jn_len false false r
        simp only [List.length_cons]; mem_news
      · have := jn_len false (c == 113) r
        simp only [List.length_cons]; mem_news
theorem one_eq (a b : Nat) : ([a] == [b]) = (a == b) := by
  simp
theorem ao_in (c : Nat) : List.contains [[97], [111]] [c] = (c == 97 || c == 111) := by
  simp
  rfl
section
variable {o : Option Ob} {Q : MV -> Option Ob -> Prop} {w : List Nat}
theorem sp8n (h : Q (.bool false) o) : Sp 8 [.str w, .int (-1)] o Q := by
  refine sp_fin ?_
  show YL 8 b8 _ _ _
  unfold b8
  reads_via
  refine pickT rfl ?_
  reads_via
  refine pickT rfl ?_
  reads_via
theorem sp8 {p : Nat} (hw : w.length <= 1000) (hp : p < w.length) (h : Q (.bool (pairB w p)) o) : Sp 8 [.str w, .int (p : Int)] o Q := by
  have hx := List.getElem?_eq_getElem hp
  unfold pairB at h
  rw [hx] at h
  generalize w[p] = c at hx h
  refine sp_fin ?_
  show YL 8 b8 _ _ _
  unfold b8
  reads_via
  fold_depth
  reads_via
  refine m_slice (a := p + 1) (b := p + 2) (by mem_news) (by mem_news) (by leaf_len) (by leaf_len) (by leaf_len) ?_
  rw [slice1]
  reads_via
  have hne : (w[p + 1]? == some 101) = false -> YL 8 [.ret (.bool false)] [(4, .str w), (3, .int (p : Int))] o (sq (fun l o => YL 8 [.ret (.bop false (.cmp .isin (.idx (.var 4) (.var 3)) (.strs [[97], [111]])) (.bop true (.cmp .eq (.idx (.var 4) (.var 3)) (.str [117])) (.bop false (.cmp .eq (.var 3) (.int 0)) (.cmp .ne (.idx (.var 4) (.bin .sub (.var 3) (.int 1))) (.str [113])))))] l o (fin Q)) (fin Q)) := fun e => by
    rw [e] at h
    reads_via
    exact h
  cases hn : w[p + 1]? with
  | none =>
    refine pickT rfl (hne (by rw [hn]; rfl))
  | some d =>
    by_cases hd : d = 101
    · subst hd
      rw [hn] at h
      refine pickF rfl ?_
      reads_via
      refine m_idxs rfl hx (by leaf_len) ?_
      reads_via
      rw [ao_in]
      simp only [beq_self_eq_true, Bool.true_and, Option.some_beq_some] at h
      cases hao : (c == 97 || c == 111) with
      | true =>
        rw [hao] at h
        refine pickT rfl ?_
        reads_via
        exact h
      | false =>
        rw [hao] at h
        simp only [Bool.false_or] at h
        refine pickF rfl ?_
        reads_via
        refine m_idxs rfl hx (by leaf_len) ?_
        reads_via
        rw [one_eq]
        cases hu : (c == 117) with
        | false =>
          rw [hu] at h
          refine pickF rfl ?_
          reads_via
          exact h
        | true =>
          rw [hu] at h
          simp only [Bool.true_and] at h
          refine pickT rfl ?_
          reads_via
          by_cases h0 : p = 0
          · subst h0
            refine pickT rfl ?_
            reads_via
            exact h
          · refine pickF (decide_eq_false (by mem_news)) ?_
            reads_via
            have hlt : p - 1 < w.length := by mem_news
            have hy := List.getElem?_eq_getElem hlt
            refine m_idxs (i := p - 1) (by mem_news) hy (by leaf_len) ?_
            reads_via
            rw [one_eq]
            rw [hy, beq_eq_false_iff_ne.mpr h0] at h
            simp only [Bool.false_or, Option.some_beq_some] at h
            exact h
    · refine pickT (by simp [hd]) (hne (by rw [hn]; simp [hd]))
noncomputable def body9 : List S := [.ite (.call2 8 (.var 4) (.var 3)) [.asg 2 (.bin .add (.var 2) (.idx (.call0 4 ) (.idx (.var 4) (.var 3))))] [.ite (.cmp .eq (.idx (.var 4) (.var 3)) (.str [223])) [.asg 2 (.bin .add (.var 2) (.str [115, 115]))] [.ite (.not (.call2 8 (.var 4) (.bin .sub (.var 3) (.int 1)))) [.asg 2 (.bin .add (.var 2) (.idx (.var 4) (.var 3)))] []]]]
theorem dUml_get {c : Nat} (h : (c == 97 || c == 111 || c == 117) = true) : dUml.lookup [c] = some [uml c] := by
  simp only [Bool.or_eq_true, beq_iff_eq] at h
  rcases h with (rfl | rfl) | rfl <;> decide
theorem lp9_ok (hw : w.length <= 1000) {q : KS} : ∀ (r p : Nat) (told : List Nat) (sk pq : Bool) (l : Lc), p + r = w.length -> l.lookup 4 = some (.str w) -> l.lookup 2 = some (.str told) -> told ++ jn sk pq (w.drop p) = jn false false w →
    sk = (decide (0 < p) && pairB w (p - 1)) -> (sk = false -> pq = (decide (0 < p) && (w[p - 1]? == some 113))) -> (∀ l' : Lc, l'.lookup 2 = some (.str (jn false false w)) -> q .next l' o) -> YI 9 3 (rangeL (p : Int) 1 r) body9 l o q := by
  intro r
  induction r with
  | zero =>
    intro p told sk pq l hp h4 h2 hm hs hq K
    refine yi_nil (K l ?_)
    rw [List.drop_of_length_le (by mem_news)] at hm
    have : jn sk pq [] = [] := by cases sk <;> rfl
    rw [this, List.append_nil] at hm
    rw [<- hm]; exact h2
  | succ r ih =>
    intro p told sk pq l hp h4 h2 hm hs hq K
    have hlt : p < w.length := by mem_news
    have hx := List.getElem?_eq_getElem hlt
    have htl : told.length <= 2000 := by
      have := congrArg List.length hm
      have h2 := jn_len false false w
      simp only [List.length_append] at this
      mem_news
    have hd : w.drop p = w[p] :: w.drop (p + 1) := List.drop_eq_getElem_cons hlt
    have hhd : (w.drop (p + 1)).head? = w[p + 1]? := by rw [List.head?_drop]
    generalize hc : w[p] = c at hx hd
    have e1 : (p : Int) + 1 = ((p + 1 : Nat) : Int) := by mem_news
    have hsk1 : decide (0 < p + 1) = true := decide_eq_true (by mem_news)
    rw [hd] at hm
    have hmk : jn false pq (c :: w.drop (p + 1)) = if pairAt pq c (w.drop (p + 1)) then uml c :: jn true false (w.drop (p + 1)) else if c = 223 then 115 :: 115 :: jn false false (w.drop (p + 1)) else c :: jn false (c == 113) (w.drop (p + 1)) := rfl
    have hske : sk = true -> c = 101 /\ 0 < p := fun e => by
      rw [e] at hs
      have hs := hs.symm
      rw [Bool.and_eq_true] at hs
      have h0 := of_decide_eq_true hs.1
      have h3 := hs.2
      unfold pairB at h3
      rw [show p - 1 + 1 = p by mem_news, hx] at h3
      simp only [Bool.and_eq_true, beq_iff_eq, Option.some.injEq] at h3
      exact ⟨h3.1, h0⟩
    have hpa : sk = false -> pairAt pq c (w.drop (p + 1)) = pairB w p := fun e => by
      unfold pairAt pairB
      rw [hhd, hx, hq e]
      by_cases h0 : p = 0
      · subst h0; simp
      · rw [decide_eq_true (show 0 < p by mem_news), beq_eq_false_iff_ne.mpr h0]
        simp
    refine yi_cons ?_
    unfold body9
    reads_via
    refine sp8 hw hlt ?_
    reads_via
    cases hpp : pairB w p with
    | true =>
      have hcc : (c == 97 || c == 111 || c == 117) = true := by
        unfold pairB at hpp
        rw [hx] at hpp
        simp only [Bool.and_eq_true, Bool.or_eq_true, beq_iff_eq, Option.some.injEq] at hpp ⊢
        rcases hpp.2 with h | h
        · exact .inl h
        · exact .inr h.1
      have hskf : sk = false := by
        cases hh : sk with
        | false => rfl
        | true =>
          rw [(hske hh).1] at hcc
          cases hcc
      subst hskf
      rw [hmk, hpa rfl, hpp] at hm
      simp only [if_true] at hm
      refine pickT rfl ?_
      reads_via
      refine sp4 ?_
      reads_via
      refine m_idxs rfl hx (by leaf_len) ?_
      refine m_idxd (dUml_get hcc) ?_
      refine m_adds (by leaf_len) (by leaf_len) ?_
      reads_via
      rw [e1]
      refine ih (p + 1) (told ++ [uml c]) true false _ (by mem_news) (by got_up) (by got_up) (by rw [List.append_assoc]; exact hm) ?_ (fun e => by cases e) K
      rw [hsk1, show p + 1 - 1 = p by mem_news, hpp]; rfl
    | false =>
      refine pickF rfl ?_
      reads_via
      refine m_idxs rfl hx (by leaf_len) ?_
      reads_via
      rw [one_eq]
      have hnext : false = (decide (0 < p + 1) && pairB w (p + 1 - 1)) := by rw [show p + 1 - 1 = p by mem_news, hpp, Bool.and_false]
      have hq1 : (c == 113) = (decide (0 < p + 1) && (w[p + 1 - 1]? == some 113)) := by
        rw [show p + 1 - 1 = p by mem_news, hx, hsk1]; simp
      by_cases h223 : c = 223
      · have hskf : sk = false := by
          cases hh : sk with
          | false => rfl
          | true => rw [(hske hh).1] at h223; cases h223
        subst hskf
        rw [hmk, hpa rfl, hpp] at hm
        simp only [Bool.false_eq_true, if_false, h223, if_true] at hm
        refine pickT (by rw [h223]; rfl) ?_
        reads_via
        refine m_adds (by leaf_len) (by leaf_len) ?_
        reads_via
        rw [e1]
        refine ih (p + 1) (told ++ [115, 115]) false false _ (by mem_news) (by got_up) (by got_up) (by rw [List.append_assoc]; exact hm) hnext (fun _ => by rw [<- hq1, h223]; rfl) K
      · refine pickF (by simp [h223]) ?_
        reads_via
        have plain : sk = false -> ∀ (q2 : KS), (∀ l' : Lc, l'.lookup 4 = some (.str w) -> l'.lookup 2 = some (.str (told ++ [c])) -> q2 .next l' o) -> YL 9 [.asg 2 (.bin .add (.var 2) (.idx (.var 4) (.var 3)))] (upd 3 (.int (p : Int)) l) o q2 := fun e q2 K2 => by
          reads_via
          refine m_idxs rfl hx (by leaf_len) ?_
          refine m_adds (by leaf_len) (by leaf_len) ?_
          reads_via
          exact K2 _ (by got_up) (by got_up)
        have on : sk = false -> ∀ l' : Lc, l'.lookup 4 = some (.str w) -> l'.lookup 2 = some (.str (told ++ [c])) -> YI 9 3 (rangeL ((p : Int) + 1) 1 r) body9 l' o q := fun e l' k4 k2 => by
          subst e
          rw [hmk, hpa rfl, hpp] at hm
          simp only [Bool.false_eq_true, if_false, h223] at hm
          rw [e1]
          exact ih (p + 1) (told ++ [c]) false (c == 113) _ (by mem_news) k4 k2 (by rw [List.append_assoc]; exact hm) hnext (fun _ => hq1) K
        by_cases h0 : p = 0
        · subst h0
          refine sp8n ?_
          reads_via
          refine pickT rfl ?_
          refine plain hs _ fun l' k4 k2 => ?_
          reads_via
          exact on hs l' k4 k2
        · have e2 : (p : Int) - 1 = ((p - 1 : Nat) : Int) := by mem_news
          rw [e2]
          refine sp8 hw (by mem_news) ?_
          reads_via
          cases hpm : pairB w (p - 1) with
          | false =>
            refine pickT rfl ?_
            have hsf : sk = false := by rw [hs, hpm, Bool.and_false]
            refine plain hsf _ fun l' k4 k2 => ?_
            reads_via
            exact on hsf l' k4 k2
          | true =>
            have hskt : sk = true := by rw [hs, hpm, decide_eq_true (show 0 < p by mem_news)]; rfl
            subst hskt
            refine pickF rfl ?_
            reads_via
            rw [e1]
            refine ih (p + 1) told false false _ (by mem_news) (by got_up) (by got_up) hm hnext (fun _ => ?_) K
            rw [<- hq1, (hske rfl).1]; rfl
theorem sp9 (hw : w.length <= 1000) (h : Q (.str (jn false false w)) o) : Sp 9 [.str w] o Q := by
  refine sp_fin ?_
  have e : bodyOf 9 = [.asg 2 (.str []), .forR1 3 (.len (.var 4)) body9, .ret (.var 2)] := rfl
  rw [e]
  refine yl_cons (ys_asg (ye_str (sq_next (yl_cons (ys_forR1 ?_)))))
  reads_via
  refine ⟨by leaf_len, ?_⟩
  rw [Int.toNat_natCast]
  refine lp9_ok hw w.length 0 [] false false _ (by mem_news) (by got_up) (by got_up) rfl rfl (fun _ => rfl) fun l' h2 => ?_
  refine sq_next (yl_cons (ys_ret (ye_var h2 (sq_ret (fin_ret h)))))
noncomputable def pastL : List Nat -> Nat -> Nat -> Nat
  | a :: b :: r, k, n => if V a && !V b then k + 2 else pastL (b :: r) (k + 1) n
  | _, _, n => n
noncomputable def past (w : List Nat) (p : Nat) : Nat := pastL (w.drop p) p w.length
noncomputable def body10 : List S := [.ite (.bop true (.call1 0 (.idx (.var 4) (.var 7))) (.not (.call1 0 (.idx (.var 4) (.bin .add (.var 7) (.int 1)))))) [.ret (.bin .add (.var 7) (.int 2))] []]
theorem lp10_ok (hw : w.length <= 1000) {q : KS} : ∀ (r p : Nat) (l : Lc), p + r = w.length - 1 -> l.lookup 4 = some (.str w) -> (∀ l' : Lc, l'.lookup 4 = some (.str w) -> past w p = w.length -> q .next l' o) -> (∀ l' : Lc, q (.ret (.int (past w p : Nat))) l' o) -> YI 10 7 (rangeL (p : Int) 1 r) body10 l o q := by
  intro r
  induction r with
  | zero =>
    intro p l hp h4 K1 K2
    refine yi_nil (K1 l h4 ?_)
    unfold past
    by_cases h : p < w.length
    · rw [List.drop_eq_getElem_cons h, List.drop_of_length_le (by mem_news)]; rfl
    · rw [List.drop_of_length_le (by mem_news)]; rfl
  | succ r ih =>
    intro p l hp h4 K1 K2
    have h1 : p < w.length := by mem_news
    have h2 : p + 1 < w.length := by mem_news
    have hx := List.getElem?_eq_getElem h1
    have hy := List.getElem?_eq_getElem h2
    have hd : w.drop p = w[p] :: w[p + 1] :: w.drop (p + 2) := by rw [List.drop_eq_getElem_cons h1, List.drop_eq_getElem_cons h2]
    have hd1 : w.drop (p + 1) = w[p + 1] :: w.drop (p + 2) := List.drop_eq_getElem_cons h2
    generalize w[p] = a at hx hd
    generalize w[p + 1] = b at hy hd hd1
    have hpast : past w p = if V a && !V b then p + 2 else past w (p + 1) := by
      unfold past
      rw [hd, hd1]; rfl
    have e1 : (p : Int) + 1 = ((p + 1 : Nat) : Int) := by mem_news
    refine yi_cons ?_
    unfold body10
    reads_via
    refine m_idxs rfl hx (by leaf_len) ?_
    refine sp0 ?_
    rw [vs_one]
    reads_via
    cases ha : V a with
    | false =>
      rw [ha] at hpast
      simp only [Bool.false_and, Bool.false_eq_true, if_false] at hpast
      refine pickF rfl ?_
      reads_via
      refine pickF rfl ?_
      reads_via
      rw [e1]
      exact ih (p + 1) _ (by mem_news) (by got_up) (fun l' k4 k => K1 l' k4 (hpast.trans k)) (fun l' => by rw [<- hpast]; exact K2 l')
    | true =>
      rw [ha] at hpast
      simp only [Bool.true_and] at hpast
      refine pickT rfl ?_
      reads_via
      refine m_idxs (i := p + 1) (by mem_news) hy (by leaf_len) ?_
      refine sp0 ?_
      rw [vs_one]
      reads_via
      cases hb : V b with
      | true =>
        rw [hb] at hpast
        simp only [Bool.not_true, Bool.false_eq_true, if_false] at hpast
        refine pickF rfl ?_
        reads_via
        rw [e1]
        exact ih (p + 1) _ (by mem_news) (by got_up) (fun l' k4 k => K1 l' k4 (hpast.trans k)) (fun l' => by rw [<- hpast]; exact K2 l')
      | false =>
        rw [hb] at hpast
        simp only [Bool.not_false, if_true] at hpast
        refine pickT rfl ?_
        reads_via
        have e2 : (p : Int) + 2 = ((p + 2 : Nat) : Int) := by mem_news
        rw [e2, <- hpast]
        exact K2 _
theorem sp10 {p : Nat} (hw : w.length <= 1000) (hp : p <= w.length) (h : Q (.int (past w p : Nat)) o) : Sp 10 [.str w, .int (p : Int)] o Q := by
  refine sp_fin ?_
  have e : bodyOf 10 = [.forR 7 (.var 3) (.bin .sub (.len (.var 4)) (.int 1)) body10, .ret (.len (.var 4))] := rfl
  rw [e]
  refine yl_cons (ys_forR ?_)
  reads_via
  refine ⟨by leaf_len, by leaf_len, ?_⟩
  rw [show ((w.length : Int) - 1 - (p : Int)).toNat = w.length - 1 - p by mem_news]
  have K2 : ∀ l' : Lc, (sq (fun l o => YL 10 [.ret (.len (.var 4))] l o (fin Q)) (fin Q)) (.ret (.int (past w p : Nat))) l' o := fun l' => sq_ret (fin_ret h)
  have K1 : ∀ l' : Lc, l'.lookup 4 = some (.str w) -> past w p = w.length -> (sq (fun l o => YL 10 [.ret (.len (.var 4))] l o (fin Q)) (fin Q)) .next l' o := fun l' h4 hpl => by
    refine sq_next (yl_cons (ys_ret (ye_len (ye_var h4 (m_lens (by leaf_len) (sq_ret (fin_ret ?_)))))))
    rw [<- hpl]; exact h
  by_cases hpe : p <= w.length - 1
  · exact lp10_ok hw _ p _ (by mem_news) (by got_up) K1 K2
  · rw [show w.length - 1 - p = 0 by mem_news]
    refine yi_nil (K1 _ (by got_up) ?_)
    unfold past
    rw [List.drop_of_length_le (by mem_news)]; rfl
noncomputable def lend (w : List Nat) (ends : List (List Nat)) (found : List Nat) : List Nat := ends.foldl (fun f e => if decide (f.length < e.length) && e.isSuffixOf w then e else f) found
noncomputable def body11 : List S := [.ite (.bop true (.cmp .gt (.len (.var 9)) (.len (.var 8))) (.endsw (.var 4) (.var 9))) [.asg 8 (.var 9)] []]
theorem lp11_ok (hw : w.length <= 1000) {q : KS} : ∀ (ends : List (List Nat)) (f : List Nat) (l : Lc), f.length <= 1000 -> (∀ e ∈ ends, e.length <= 1000) -> l.lookup 4 = some (.str w) -> l.lookup 8 = some (.str f) -> (∀ l' : Lc, l'.lookup 8 = some (.str (lend w ends f)) -> q .next l' o) -> YI 11 9 (ends.map .str) body11 l o q := by
  intro ends
  induction ends with
  | nil => exact fun f l hf he h4 h8 K => yi_nil (K l h8)
  | cons e r ih =>
    intro f l hf he h4 h8 K
    have hel := he e (List.mem_cons_self ..)
    have her : ∀ x ∈ r, x.length <= 1000 := fun x hx => he x (List.mem_cons_of_mem _ hx)
    have hl : lend w (e :: r) f = lend w r (if decide (f.length < e.length) && e.isSuffixOf w then e else f) := rfl
    rw [hl] at K
    refine yi_cons ?_
    unfold body11
    reads_via
    by_cases h1 : f.length < e.length
    · refine pickT (decide_eq_true (by mem_news)) ?_
      reads_via
      rw [decide_eq_true h1] at K
      simp only [Bool.true_and] at K
      cases h2 : e.isSuffixOf w with
      | true =>
        rw [h2] at K
        refine pickT rfl ?_
        reads_via
        exact ih e _ hel her (by got_up) (by got_up) K
      | false =>
        rw [h2] at K
        refine pickF rfl ?_
        reads_via
        exact ih f _ hf her (by got_up) (by got_up) K
    · refine pickF (decide_eq_false (by mem_news)) ?_
      reads_via
      refine pickF rfl ?_
      reads_via
      rw [decide_eq_false h1] at K
      exact ih f _ hf her (by got_up) (by got_up) K
theorem sp11 {ends : List (List Nat)} (hw : w.length <= 1000) (he : ends.length <= 100 /\ ∀ e ∈ ends, e.length <= 1000) (h : Q (.str (lend w ends [])) o) : Sp 11 [.str w, .strs ends] o Q := by
  refine sp_fin ?_
  have e : bodyOf 11 = [.asg 8 (.str []), .forL 9 (.var 10) body11, .ret (.var 8)] := rfl
  rw [e]
  refine yl_cons (ys_asg (ye_str (sq_next (yl_cons (ys_forL (ye_var rfl ⟨_, rfl, ?_, ?_⟩))))))
  · simp only [List.length_map, limS]; mem_news
  · refine lp11_ok hw ends [] _ (by decide) he.2 (by got_up) (by got_up) fun l' h8 => ?_
    exact sq_next (yl_cons (ys_ret (ye_var h8 (sq_ret (fin_ret h)))))
end
set_option tactic.hygienic true in
theorem lend_suf {w : List Nat} : ∀ (ends : List (List Nat)) (f : List Nat), f <:+ w -> lend w ends f <:+ w
  | [], f, h => h
  | e :: r, f, h => by
    show lend w r (if decide (f.length < e.length) && e.isSuffixOf w then e else f) <:+ w
    refine lend_suf r _ ?_
    split
    · rename_i q
      exact List.isSuffixOf_iff_suffix.mp (Bool.and_eq_true_iff.mp q).2
    · exact h
theorem lend_len (w : List Nat) (ends : List (List Nat)) : (lend w ends []).length <= w.length := (lend_suf ends [] List.nil_suffix).length_le
noncomputable def lastIs (s l : List Nat) : Bool := (s[s.length - 1]?).any l.contains
theorem singles_in (l : List Nat) (x : Nat) : (singles l).contains [x] = l.contains x := by
  induction l with
  | nil => rfl
  | cons a r ih =>
    have : singles (a :: r) = [a] :: singles r := rfl
    rw [this, List.contains_cons, List.contains_cons, ih, one_eq]
noncomputable def lFirst (w : List Nat) (one : Nat) : List Nat :=
  let e := lend w en0 []
  let s := w.take (w.length - e.length)
  if (e == []) || decide (s.length < one) then w
  else if List.contains [[108, 110], [108, 110, 115]] e then s ++ [108]
  else if e == [115] then (if lastIs s gr2 then s else w)
  else if e == [101, 109] then (if List.isSuffixOf [115, 121, 115, 116] s then w else s)
  else if List.contains [[101], [101, 110], [101, 115]] e && List.isSuffixOf [110, 105, 115, 115] s then s.take (s.length - 1)
  else s
noncomputable def lSecond (w : List Nat) (one : Nat) : List Nat :=
  let e := lend w en1 []
  let s := w.take (w.length - e.length)
  if (e == []) || decide (s.length < one) then w
  else if (e == [115, 116]) && (!lastIs s gr3 || decide (s.length < 4)) then w
  else if (e == [101, 116]) && (!lastIs s bet || !(lend s en4 [] == [])) then w
  else s
noncomputable def lCut (s more : List Nat) (least : Nat) : List Nat := if decide (least + more.length <= s.length) then s.take (s.length - more.length) else s
noncomputable def lThird (w : List Nat) (one two : Nat) : List Nat :=
  let e := lend w en2 []
  let s := w.take (w.length - e.length)
  if (e == []) || decide (s.length < two) then w
  else if List.contains [[105, 103], [105, 107], [105, 115, 99, 104]] e then (if List.isSuffixOf [101] s then w else s)
  else if List.contains [[101, 110, 100], [117, 110, 103]] e then lCut s (if List.isSuffixOf [101, 105, 103] s then [] else lend s [[105, 103]] []) two
  else if List.contains [[108, 105, 99, 104], [104, 101, 105, 116]] e then lCut s (lend s [[101, 114], [101, 110]] []) one
  else lCut s (lend s [[105, 103], [108, 105, 99, 104]] []) two
noncomputable def lFourth (w : List Nat) : List Nat :=
  let s := w.take (w.length - (lend w en3 []).length)
  if decide (2 <= s.length) then s else w
section
variable {o : Option Ob} {Q : MV -> Option Ob -> Prop} {w : List Nat}
theorem sp12 {one : Nat} (hw : w.length <= 1000) (h1 : 3 <= one) (h2 : one <= 1000) (h : Q (.str (lFirst w one)) o) : Sp 12 [.str w, .int (one : Int)] o Q := by
  refine sp_fin ?_
  show YL 12 b12 _ _ _
  unfold b12
  reads_via
  refine sp11 hw (by decide) ?_
  have hle := lend_len w en0
  unfold lFirst at h
  dsimp only at h
  generalize lend w en0 [] = e at h hle ⊢
  reads_via
  refine m_sliceHi (a := w.length - e.length) (by mem_news) (by leaf_len) (by leaf_len) ?_
  have hsl : (w.take (w.length - e.length)).length <= 1000 := by rw [List.length_take]; mem_news
  generalize w.take (w.length - e.length) = s at h hsl ⊢
  reads_via
  cases h3 : (e == []) with
  | true =>
    simp only [h3, Bool.true_or, if_true] at h
    refine pickT rfl ?_
    reads_via
    refine pickT rfl ?_
    reads_via
    try exact h
  | false =>
    refine pickF rfl ?_
    reads_via
    by_cases h4 : s.length < one
    · simp only [h3, decide_eq_true h4, Bool.or_true, if_true] at h
      refine pickT (decide_eq_true (by mem_news)) ?_
      reads_via
      try exact h
    · simp only [h3, decide_eq_false h4, Bool.or_false, Bool.false_eq_true, if_false] at h
      refine pickF (decide_eq_false (by mem_news)) ?_
      reads_via
      cases h5 : List.contains [[108, 110], [108, 110, 115]] e with
      | true =>
        simp only [h5, if_true] at h
        refine pickT rfl ?_
        reads_via
        refine m_adds (by leaf_len) (by leaf_len) ?_
        reads_via
        try exact h
      | false =>
        simp only [h5, Bool.false_eq_true, if_false] at h
        refine pickF rfl ?_
        reads_via
        cases h6 : (e == [115]) with
        | true =>
          simp only [h6, if_true] at h
          have hlt : s.length - 1 < s.length := by mem_news
          have hx := List.getElem?_eq_getElem hlt
          unfold lastIs at h
          rw [hx] at h
          refine pickT rfl ?_
          reads_via
          refine m_idxs (i := s.length - 1) (by mem_news) hx (by leaf_len) ?_
          reads_via
          refine sp1 ?_
          reads_via
          rw [singles_in]
          simp only [Option.any_some] at h
          cases h7 : gr2.contains s[s.length - 1] with
          | true =>
            simp only [h7, if_true] at h
            refine pickT rfl ?_
            reads_via
            try exact h
          | false =>
            simp only [h7, Bool.false_eq_true, if_false] at h
            refine pickF rfl ?_
            reads_via
            try exact h
        | false =>
          simp only [h6, Bool.false_eq_true, if_false] at h
          refine pickF rfl ?_
          reads_via
          cases h7 : (e == [101, 109]) with
          | true =>
            simp only [h7, if_true] at h
            refine pickT rfl ?_
            reads_via
            cases h8 : List.isSuffixOf [115, 121, 115, 116] s with
            | true =>
              simp only [h8, if_true] at h
              refine pickT rfl ?_
              reads_via
              try exact h
            | false =>
              simp only [h8, Bool.false_eq_true, if_false] at h
              refine pickF rfl ?_
              reads_via
              try exact h
          | false =>
            simp only [h7, Bool.false_eq_true, if_false] at h
            refine pickF rfl ?_
            reads_via
            cases h8 : List.contains [[101], [101, 110], [101, 115]] e with
            | true =>
              simp only [h8, Bool.true_and] at h
              refine pickT rfl ?_
              reads_via
              cases h9 : List.isSuffixOf [110, 105, 115, 115] s with
              | true =>
                simp only [h9, if_true] at h
                refine pickT rfl ?_
                reads_via
                refine m_sliceHi (a := s.length - 1) (by mem_news) (by leaf_len) (by leaf_len) ?_
                reads_via
                try exact h
              | false =>
                simp only [h9, Bool.false_eq_true, if_false] at h
                refine pickF rfl ?_
                reads_via
                try exact h
            | false =>
              simp only [h8, Bool.false_and, Bool.false_eq_true, if_false] at h
              refine pickF rfl ?_
              reads_via
              refine pickF rfl ?_
              reads_via
              try exact h
theorem sp13 {one : Nat} (hw : w.length <= 1000) (h1 : 3 <= one) (h2 : one <= 1000) (h : Q (.str (lSecond w one)) o) : Sp 13 [.str w, .int (one : Int)] o Q := by
  refine sp_fin ?_
  show YL 13 b13 _ _ _
  unfold b13
  reads_via
  refine sp11 hw (by decide) ?_
  have hle := lend_len w en1
  unfold lSecond at h
  dsimp only at h
  generalize lend w en1 [] = e at h hle ⊢
  reads_via
  refine m_sliceHi (a := w.length - e.length) (by mem_news) (by leaf_len) (by leaf_len) ?_
  have hsl : (w.take (w.length - e.length)).length <= 1000 := by rw [List.length_take]; mem_news
  generalize w.take (w.length - e.length) = s at h hsl ⊢
  reads_via
  cases h3 : (e == []) with
  | true =>
    simp only [h3, Bool.true_or, if_true] at h
    refine pickT rfl ?_
    reads_via
    refine pickT rfl ?_
    reads_via
    try exact h
  | false =>
    refine pickF rfl ?_
    reads_via
    by_cases h4 : s.length < one
    · simp only [h3, decide_eq_true h4, Bool.or_true, if_true] at h
      refine pickT (decide_eq_true (by mem_news)) ?_
      reads_via
      try exact h
    · simp only [h3, decide_eq_false h4, Bool.or_false, Bool.false_eq_true, if_false] at h
      refine pickF (decide_eq_false (by mem_news)) ?_
      reads_via
      have hlt : s.length - 1 < s.length := by mem_news
      have hx := List.getElem?_eq_getElem hlt
      refine m_idxs (i := s.length - 1) (by mem_news) hx (by leaf_len) ?_
      have hlast : ∀ l, lastIs s l = l.contains s[s.length - 1] := fun l => by unfold lastIs; rw [hx]; rfl
      rw [hlast, hlast] at h
      reads_via
      have two : ∀ (q2 : KS), (∀ l', q2 (.ret (.str w)) l' o -> False \/ True) -> True := fun _ _ => trivial
      cases h5 : (e == [115, 116]) with
      | true =>
        have h6 : (e == [101, 116]) = false := by
          have := beq_iff_eq.mp h5
          rw [this]; rfl
        simp only [h5, h6, Bool.true_and, Bool.false_and, Bool.false_eq_true, if_false] at h
        refine pickT rfl ?_
        reads_via
        refine sp2 ?_
        reads_via
        rw [singles_in]
        cases h7 : gr3.contains s[s.length - 1] with
        | false =>
          simp only [h7, Bool.not_false, Bool.true_or, if_true] at h
          refine pickT rfl ?_
          reads_via
          refine pickT rfl ?_
          reads_via
          try exact h
        | true =>
          simp only [h7, Bool.not_true, Bool.false_or] at h
          refine pickF rfl ?_
          reads_via
          by_cases h8 : s.length < 4
          · rw [decide_eq_true h8, if_pos rfl] at h
            refine pickT (decide_eq_true (by mem_news)) ?_
            reads_via
            try exact h
          · rw [decide_eq_false h8, if_neg (by decide)] at h
            refine pickF (decide_eq_false (by mem_news)) ?_
            reads_via
            refine pickF h6 ?_
            reads_via
            refine pickF rfl ?_
            reads_via
            try exact h
      | false =>
        simp only [h5, Bool.false_and, Bool.false_eq_true, if_false] at h
        refine pickF rfl ?_
        reads_via
        refine pickF rfl ?_
        reads_via
        cases h6 : (e == [101, 116]) with
        | false =>
          simp only [h6, Bool.false_and, Bool.false_eq_true, if_false] at h
          refine pickF rfl ?_
          reads_via
          refine pickF rfl ?_
          reads_via
          try exact h
        | true =>
          simp only [h6, Bool.true_and] at h
          refine pickT rfl ?_
          reads_via
          refine sp3 ?_
          reads_via
          rw [singles_in]
          cases h7 : bet.contains s[s.length - 1] with
          | false =>
            simp only [h7, Bool.not_false, Bool.true_or, if_true] at h
            refine pickT rfl ?_
            reads_via
            refine pickT rfl ?_
            reads_via
            try exact h
          | true =>
            simp only [h7, Bool.not_true, Bool.false_or] at h
            refine pickF rfl ?_
            reads_via
            refine sp11 hsl (by decide) ?_
            reads_via
            cases h8 : (lend s en4 [] == []) with
            | true =>
              simp only [h8, Bool.not_true, Bool.false_eq_true, if_false] at h
              refine pickF rfl ?_
              reads_via
              try exact h
            | false =>
              simp only [h8, Bool.not_false, if_true] at h
              refine pickT rfl ?_
              reads_via
              try exact h
theorem sp15 (hw : w.length <= 1000) (h : Q (.str (lFourth w)) o) : Sp 15 [.str w] o Q := by
  refine sp_fin ?_
  show YL 15 b15 _ _ _
  unfold b15
  reads_via
  refine sp11 hw (by decide) ?_
  have hle := lend_len w en3
  unfold lFourth at h
  dsimp only at h
  generalize lend w en3 [] = e at h hle ⊢
  reads_via
  refine m_sliceHi (a := w.length - e.length) (by mem_news) (by leaf_len) (by leaf_len) ?_
  have hsl : (w.take (w.length - e.length)).length <= 1000 := by rw [List.length_take]; mem_news
  generalize w.take (w.length - e.length) = s at h hsl ⊢
  reads_via
  by_cases h2 : 2 <= s.length
  · rw [decide_eq_true h2, if_pos rfl] at h
    refine pickT (decide_eq_true (by mem_news)) ?_
    reads_via
    try exact h
  · rw [decide_eq_false h2, if_neg (by decide)] at h
    refine pickF (decide_eq_false (by mem_news)) ?_
    reads_via
    try exact h
theorem sp14 {one two : Nat} (hw : w.length <= 1000) (h2 : one <= 1000) (h3 : two <= 1000) (h : Q (.str (lThird w one two)) o) : Sp 14 [.str w, .int (one : Int), .int (two : Int)] o Q := by
  refine sp_fin ?_
  show YL 14 b14 _ _ _
  unfold b14
  reads_via
  refine sp11 hw (by decide) ?_
  have hle := lend_len w en2
  unfold lThird at h
  dsimp only at h
  generalize lend w en2 [] = e at h hle ⊢
  reads_via
  refine m_sliceHi (a := w.length - e.length) (by mem_news) (by leaf_len) (by leaf_len) ?_
  have hsl : (w.take (w.length - e.length)).length <= 1000 := by rw [List.length_take]; mem_news
  generalize w.take (w.length - e.length) = s at h hsl ⊢
  reads_via
  cases h3 : (e == []) with
  | true =>
    simp only [h3, Bool.true_or, if_true] at h
    refine pickT rfl ?_
    reads_via
    refine pickT rfl ?_
    reads_via
    try exact h
  | false =>
    refine pickF rfl ?_
    reads_via
    by_cases h4 : s.length < two
    · simp only [h3, decide_eq_true h4, Bool.or_true, if_true] at h
      refine pickT (decide_eq_true (by mem_news)) ?_
      reads_via
      try exact h
    · simp only [h3, decide_eq_false h4, Bool.or_false, Bool.false_eq_true, if_false] at h
      refine pickF (decide_eq_false (by mem_news)) ?_
      reads_via
      cases h5 : List.contains [[105, 103], [105, 107], [105, 115, 99, 104]] e with
      | true =>
        simp only [h5, if_true] at h
        refine pickT rfl ?_
        reads_via
        cases h6 : List.isSuffixOf [101] s with
        | true =>
          simp only [h6, if_true] at h
          refine pickT rfl ?_
          reads_via
          try exact h
        | false =>
          simp only [h6, Bool.false_eq_true, if_false] at h
          refine pickF rfl ?_
          reads_via
          try exact h
      | false =>
        simp only [h5, Bool.false_eq_true, if_false] at h
        refine pickF rfl ?_
        reads_via
        have cut : ∀ (more : List Nat) (least : Nat) (l : Lc), more.length <= s.length -> least <= 1000 -> l.lookup 11 = some (.str s) -> l.lookup 16 = some (.str more) -> l.lookup 15 = some (.int (least : Int)) -> Q (.str (lCut s more least)) o →
            YL 14 [.ret (.ite (.cmp .ge (.bin .sub (.len (.var 11)) (.len (.var 16))) (.var 15)) (.sliceHi (.var 11) (.bin .sub (.len (.var 11)) (.len (.var 16)))) (.var 11))] l o (fin Q) := by
          intro more least l hm hl g11 g16 g15 hq
          unfold lCut at hq
          reads_via
          by_cases h6 : least + more.length <= s.length
          · rw [decide_eq_true h6, if_pos rfl] at hq
            refine pickT (decide_eq_true (by mem_news)) ?_
            reads_via
            refine m_sliceHi (a := s.length - more.length) (by mem_news) (by leaf_len) (by leaf_len) ?_
            reads_via
            try exact hq
          · rw [decide_eq_false h6, if_neg (by decide)] at hq
            refine pickF (decide_eq_false (by mem_news)) ?_
            reads_via
            try exact hq
        cases h6 : List.contains [[101, 110, 100], [117, 110, 103]] e with
        | true =>
          simp only [h6, if_true] at h
          refine pickT rfl ?_
          refine yl_cons (ys_asg (ye_ite (ye_endsw (ye_var (x := .str s) (by got_up) ⟨_, rfl, ye_str ⟨_, rfl, m_bool ?_⟩⟩))))
          cases h7 : List.isSuffixOf [101, 105, 103] s with
          | true =>
            simp only [h7, if_true] at h
            refine pickT rfl (ye_str (sq_next (yl_nil (sq_next ?_))))
            exact cut [] two _ (by simp) (by mem_news) (by got_up) (by got_up) (by got_up) h
          | false =>
            simp only [h7, Bool.false_eq_true, if_false] at h
            refine pickF rfl (ye_call2 (ye_var (x := .str s) (by got_up) (ye_strs (by decide) (sp11 hsl (by decide) (sq_next (yl_nil (sq_next ?_)))))))
            exact cut _ two _ (lend_len s _) (by mem_news) (by got_up) (by got_up) (by got_up) h
        | false =>
          simp only [h6, Bool.false_eq_true, if_false] at h
          refine pickF rfl (yl_cons (ys_ite (ye_cmp (ye_var (x := .str e) (by got_up) (ye_strs (by decide) (m_ins (m_bool ?_)))))))
          cases h7 : List.contains [[108, 105, 99, 104], [104, 101, 105, 116]] e with
          | true =>
            simp only [h7, if_true] at h
            refine pickT rfl (yl_cons (ys_asg (ye_call2 (ye_var (x := .str s) (by got_up) (ye_strs (by decide) (sp11 hsl (by decide) (sq_next ?_)))))))
            refine yl_cons (ys_asg (ye_var (x := .int (one : Int)) (by got_up) (sq_next (yl_nil (sq_next (yl_nil (sq_next ?_)))))))
            exact cut _ one _ (lend_len s _) (by mem_news) (by got_up) (by got_up) (by got_up) h
          | false =>
            simp only [h7, Bool.false_eq_true, if_false] at h
            refine pickF rfl (yl_cons (ys_asg (ye_call2 (ye_var (x := .str s) (by got_up) (ye_strs (by decide) (sp11 hsl (by decide) (sq_next (yl_nil (sq_next (yl_nil (sq_next ?_)))))))))))
            exact cut _ two _ (lend_len s _) (by mem_news) (by got_up) (by got_up) (by got_up) h
end
theorem pastL_le : ∀ (l : List Nat) (k n : Nat), k + l.length <= n -> pastL l k n <= n
  | [], _, n, _ => Nat.le_refl n
  | [_], _, n, _ => Nat.le_refl n
  | a :: b :: r, k, n, h => by
    unfold pastL
    simp only [List.length_cons] at h
    split
    · mem_news
    · exact pastL_le (b :: r) (k + 1) n (by simp only [List.length_cons]; mem_news)
theorem past_le {w : List Nat} {p : Nat} (h : p <= w.length) : past w p <= w.length := pastL_le _ _ _ (by rw [List.length_drop]; mem_news)
theorem lFirst_len (w : List Nat) (one : Nat) : (lFirst w one).length <= w.length + 1 := by
  unfold lFirst
  dsimp only
  repeat' split
  all_goals first
    | mem_news
    | (simp only [List.length_append, List.length_take, List.length_cons, List.length_nil]; mem_news)
theorem lSecond_len (w : List Nat) (one : Nat) : (lSecond w one).length <= w.length := by
  unfold lSecond
  dsimp only
  repeat' split
  all_goals first
    | mem_news
    | (simp only [List.length_append, List.length_take, List.length_cons, List.length_nil]; mem_news)
theorem lCut_len (s m : List Nat) (k : Nat) : (lCut s m k).length <= s.length := by
  unfold lCut
  split
  · rw [List.length_take]; mem_news
  · mem_news
theorem lThird_len (w : List Nat) (one two : Nat) : (lThird w one two).length <= w.length := by
  unfold lThird
  dsimp only
  split
  · mem_news
  · split
    · split
      · mem_news
      · rw [List.length_take]; mem_news
    · split
      · exact Nat.le_trans (lCut_len _ _ _) (by rw [List.length_take]; mem_news)
      · split
        · exact Nat.le_trans (lCut_len _ _ _) (by rw [List.length_take]; mem_news)
        · exact Nat.le_trans (lCut_len _ _ _) (by rw [List.length_take]; mem_news)
theorem lFourth_len (w : List Nat) : (lFourth w).length <= w.length := by
  unfold lFourth
  dsimp only
  split
  · rw [List.length_take]; mem_news
  · mem_news
noncomputable def back (c : Nat) : Nat := match dBack.lookup [c] with | some [y] => y | _ => c
theorem back_some {c : Nat} {y : List Nat} (h : dBack.lookup [c] = some y) : y = [back c] := by
  have hm := mem_lookup h
  have : ∀ p ∈ dBack, p.2.length = 1 := by decide
  have hl := this _ hm
  match y, hl with
  | [z], _ => unfold back; rw [h]
theorem back_none {c : Nat} (h : dBack.lookup [c] = none) : back c = c := by unfold back; rw [h]
noncomputable def lSteps (v : List Nat) (one two : Nat) : List Nat := lFourth (lThird (lSecond (lFirst v one) one) one two)
noncomputable def lStem (w : List Nat) : List Nat :=
  let v := jn false false (mark false w)
  (lSteps v (max (past v 0) 3) (past v (past v 0))).map back
noncomputable def eltB : E := .ite (.cmp .isin (.var 1) (.call0 5 )) (.idx (.call0 5 ) (.var 1)) (.var 1)
section
variable {o : Option Ob} {Q : MV -> Option Ob -> Prop} {w : List Nat}
theorem comp_back {K : List (List Nat) -> Option Ob -> Prop} : ∀ (cs : List Nat) (acc : List (List Nat)), K (acc ++ cs.map fun c => [back c]) o -> compL (VE Gst (OA 16) eltB) 1 (cs.map fun c => .str [c]) acc o K
  | [], acc, h => by rw [List.map_nil, List.append_nil] at h; exact h
  | c :: r, acc, h => by
    show YE 16 eltB [(1, .str [c])] o fun y l o' => ∃ q, y = .str q /\ compL (VE Gst (OA 16) eltB) 1 (r.map fun c => .str [c]) (acc ++ [q]) o' K
    have ih := comp_back r (acc ++ [[back c]]) (by rw [List.append_assoc]; exact h)
    unfold eltB
    refine ye_ite (ye_cmp (ye_var rfl (ye_call0 (sp5 (m_indict (m_bool ?_))))))
    cases hb : dBack.lookup [c] with
    | none =>
      refine pickF rfl (ye_var rfl ⟨_, rfl, ?_⟩)
      rw [back_none hb] at ih
      exact ih
    | some y =>
      have := back_some hb
      subst this
      refine pickT rfl (ye_idx (ye_call0 (sp5 (ye_var rfl (m_idxd hb ⟨_, rfl, ih⟩)))))
theorem flat_one (f : Nat -> Nat) : ∀ l : List Nat, (l.map fun c => [f c]).flatten = l.map f
  | [] => rfl
  | a :: r => by rw [List.map_cons, List.flatten_cons, flat_one f r]; rfl
theorem sp16 (hw : w.length <= 200) (h : Q (.str (lStem w)) o) : Sp 16 [.str w] o Q := by
  have hv : (jn false false (mark false w)).length <= 400 := by
    have := jn_len false false (mark false w)
    rw [mark_len] at this; mem_news
  unfold lStem at h
  dsimp only at h
  refine sp_fin ?_
  have e : bodyOf 16 = [.asg 4 (.call1 9 (.call1 7 (.var 4))), .asg 12 (.call2 10 (.var 4) (.int 0)), .asg 14 (.call2 10 (.var 4) (.var 12)), .asg 12 (.max (.var 12) (.int 3)), .asg 4 (.call2 12 (.var 4) (.var 12)), .asg 4 (.call2 13 (.var 4) (.var 12)), .asg 4 (.call3 14 (.var 4) (.var 12) (.var 14)), .asg 4 (.call1 15 (.var 4)), .ret (.join (.comp eltB 1 (.var 4)))] := rfl
  rw [e]
  refine yl_cons (ys_asg (ye_call1 (ye_call1 (ye_var (x := .str w) (by got_up) (sp7 (by mem_news) (sp9 (by rw [mark_len]; mem_news) (sq_next ?_)))))))
  generalize jn false false (mark false w) = v at h hv ⊢
  have p0 := past_le (w := v) (p := 0) (by mem_news)
  have p1 := past_le (w := v) p0
  refine yl_cons (ys_asg (ye_call2 (ye_var (x := .str v) (by got_up) (ye_int (sp10 (p := 0) (by mem_news) (by mem_news) (sq_next ?_))))))
  generalize past v 0 = one at h p0 p1 ⊢
  refine yl_cons (ys_asg (ye_call2 (ye_var (x := .str v) (by got_up) (ye_var (x := .int (one : Int)) (by got_up) (sp10 (p := one) (by mem_news) p0 (sq_next ?_))))))
  generalize past v one = two at h p1 ⊢
  refine yl_cons (ys_asg (ye_max (ye_var (x := .int (one : Int)) (by got_up) (ye_int ⟨_, _, rfl, rfl, sq_next ?_⟩))))
  have em : (if (one : Int) < 3 then (3 : Int) else one) = ((max one 3 : Nat) : Int) := by split <;> mem_news
  rw [em]
  have h3 : 3 <= max one 3 := Nat.le_max_right ..
  have h4 : max one 3 <= 1000 := by mem_news
  generalize max one 3 = one3 at h h3 h4 ⊢
  unfold lSteps at h
  have l1 := lFirst_len v one3
  have l2 := lSecond_len (lFirst v one3) one3
  have l3 := lThird_len (lSecond (lFirst v one3) one3) one3 two
  have l4 := lFourth_len (lThird (lSecond (lFirst v one3) one3) one3 two)
  refine yl_cons (ys_asg (ye_call2 (ye_var (x := .str v) (by got_up) (ye_var (x := .int (one3 : Int)) (by got_up) (sp12 (by mem_news) h3 h4 (sq_next ?_))))))
  refine yl_cons (ys_asg (ye_call2 (ye_var (x := .str (lFirst v one3)) (by got_up) (ye_var (x := .int (one3 : Int)) (by got_up) (sp13 (by mem_news) h3 h4 (sq_next ?_))))))
  refine yl_cons (ys_asg (ye_call3 (ye_var (x := .str (lSecond (lFirst v one3) one3)) (by got_up) (ye_var (x := .int (one3 : Int)) (by got_up) (ye_var (x := .int (two : Int)) (by got_up) (sp14 (by mem_news) h4 (by mem_news) (sq_next ?_)))))))
  refine yl_cons (ys_asg (ye_call1 (ye_var (x := .str (lThird (lSecond (lFirst v one3) one3) one3 two)) (by got_up) (sp15 (by mem_news) (sq_next ?_)))))
  generalize lFourth (lThird (lSecond (lFirst v one3) one3) one3 two) = z at h l4 ⊢
  refine yl_cons (ys_ret (ye_join (ye_comp (ye_var (x := .str z) (by got_up) ⟨_, rfl, ?_, ?_⟩))))
  · rw [List.length_map]; show z.length <= 4096; mem_news
  · refine comp_back z [] ⟨_, rfl, ?_, ?_, ?_⟩
    · rw [List.nil_append, flat_one, List.length_map]; show z.length <= 4096; mem_news
    · rw [List.nil_append, List.length_map]; show z.length <= 4096; mem_news
    · rw [List.nil_append, flat_one]
      exact sq_ret (fin_ret h)
noncomputable def piece (n : Int) : List Nat := if (Int.fmod n 86).toNat < 37 then (letters[(Int.fmod n 86).toNat]?).toList else (texts[(Int.fmod n 86).toNat - 37]?).getD []
theorem fmod86 (n : Int) : 0 <= Int.fmod n 86 /\ Int.fmod n 86 < 86 := by
  rw [Int.fmod_eq_emod_of_nonneg _ (by decide)]; mem_news
theorem texts_len : texts.length = 49 := by decide
theorem letters_len : letters.length = 37 := by decide
theorem texts_ok : ∀ x ∈ texts, x.length <= 20 /\ ∀ c ∈ x, c < 1000 := by decide
theorem letters_ok : ∀ c ∈ letters, c < 1000 := by decide
theorem piece_ok (n : Int) : (piece n).length <= 20 /\ ∀ c ∈ piece n, c < 1000 := by
  unfold piece
  split
  · cases h : letters[(Int.fmod n 86).toNat]? with
    | none => simp
    | some x =>
      refine ⟨by simp, fun c hc => ?_⟩
      simp only [Option.toList_some, List.mem_singleton] at hc
      rw [hc]; exact letters_ok x (List.mem_of_getElem? h)
  · cases h : texts[(Int.fmod n 86).toNat - 37]? with
    | none => simp
    | some x => exact texts_ok x (List.mem_of_getElem? h)
noncomputable def drawn (most : Nat) : List Nat -> List Int -> List Nat
  | acc, [] => acc
  | acc, n :: r => if most < acc.length + (piece n).length then acc else drawn most (acc ++ piece n) r
theorem drawn_ok {most : Nat} : ∀ (l : List Int) (acc : List Nat), acc.length <= most -> (∀ c ∈ acc, c < 1000) -> (drawn most acc l).length <= most /\ ∀ c ∈ drawn most acc l, c < 1000
  | [], acc, h1, h2 => ⟨h1, h2⟩
  | n :: r, acc, h1, h2 => by
    unfold drawn
    split
    · exact ⟨h1, h2⟩
    · refine drawn_ok r _ (by rw [List.length_append]; mem_news) fun c hc => ?_
      rcases List.mem_append.mp hc with h | h
      · exact h2 c h
      · exact (piece_ok n).2 c h
noncomputable def body17 : List S := [.asg 7 (.bin .mod (.var 17) (.int 86)), .asg 18 (.ite (.cmp .lt (.var 7) (.int 37)) (.idx (.glob 0) (.var 7)) (.idx (.call0 6 ) (.bin .sub (.var 7) (.int 37)))), .ite (.cmp .gt (.bin .add (.len (.var 4)) (.len (.var 18))) (.var 19)) [.brk] [], .asg 4 (.bin .add (.var 4) (.var 18))]
theorem lp17_ok {most : Nat} (hm : most <= 100) {q : KS} : ∀ (r : List Int) (acc : List Nat) (l : Lc), acc.length <= most -> l.lookup 4 = some (.str acc) -> l.lookup 19 = some (.int (most : Int)) -> (∀ l' : Lc, l'.lookup 4 = some (.str (drawn most acc r)) -> q .next l' o) -> YI 17 17 (r.map .int) body17 l o q := by
  intro r
  induction r with
  | nil => exact fun acc l ha h4 h19 K => yi_nil (K l h4)
  | cons n r ih =>
    intro acc l ha h4 h19 K
    have hp := (piece_ok n).1
    obtain ⟨f1, f2⟩ := fmod86 n
    have rest : ∀ l' : Lc, l'.lookup 4 = some (.str acc) -> l'.lookup 19 = some (.int (most : Int)) -> l'.lookup 18 = some (.str (piece n)) -> YL 17 [.ite (.cmp .gt (.bin .add (.len (.var 4)) (.len (.var 18))) (.var 19)) [.brk] [], .asg 4 (.bin .add (.var 4) (.var 18))] l' o (tn (fun l o => YI 17 17 (r.map .int) body17 l o q) q) := by
      intro l' g4 g19 g18
      have hd : drawn most acc (n :: r) = if most < acc.length + (piece n).length then acc else drawn most (acc ++ piece n) r := rfl
      reads_via
      by_cases hc : most < acc.length + (piece n).length
      · rw [hd, if_pos hc] at K
        refine pickT (decide_eq_true (by mem_news)) ?_
        reads_via
        exact K _ g4
      · rw [hd, if_neg hc] at K
        refine pickF (decide_eq_false (by mem_news)) ?_
        reads_via
        refine m_adds (by leaf_len) (by leaf_len) ?_
        reads_via
        exact ih _ _ (by rw [List.length_append]; mem_news) (by got_up) (by got_up) K
    refine yi_cons ?_
    unfold body17
    refine yl_cons (ys_asg (ye_bin (ye_var (x := .int n) (by got_up) (ye_int (m_mod (sq_next ?_))))))
    refine yl_cons (ys_asg (ye_ite (ye_cmp (ye_var (x := .int (Int.fmod n 86)) (by got_up) (ye_int (m_lti (m_bool ?_)))))))
    unfold piece at rest
    have ek : Int.fmod n 86 = (((Int.fmod n 86).toNat : Nat) : Int) := by mem_news
    by_cases h37 : (Int.fmod n 86).toNat < 37
    · rw [if_pos h37] at rest
      have hlt : (Int.fmod n 86).toNat < letters.length := by rw [letters_len]; exact h37
      have hx := List.getElem?_eq_getElem hlt
      rw [hx] at rest
      refine pickT (decide_eq_true (by mem_news)) (ye_idx (ye_glob rfl (ye_var (x := .int (Int.fmod n 86)) (by got_up) (m_idxs ek hx (by decide) (sq_next ?_)))))
      exact rest _ (by got_up) (by got_up) (by rw [lookup_upd, if_pos rfl]; rfl)
    · rw [if_neg h37] at rest
      have hlt : (Int.fmod n 86).toNat - 37 < texts.length := by rw [texts_len]; mem_news
      have hx := List.getElem?_eq_getElem hlt
      rw [hx] at rest
      refine pickF (decide_eq_false (by mem_news)) (ye_idx (ye_call0 (sp6 (ye_bin (ye_var (x := .int (Int.fmod n 86)) (by got_up) (ye_int (m_subi (m_idxss (i := (Int.fmod n 86).toNat - 37) (by mem_news) hx (by decide) (sq_next ?_)))))))))
      exact rest _ (by got_up) (by got_up) (by rw [lookup_upd, if_pos rfl]; rfl)
theorem sp17 {most : Nat} {l : List Int} (hm : most <= 100) (hl : l.length <= 1000) (h : Q (.str (drawn most [] l)) o) : Sp 17 [.ints l, .int (most : Int)] o Q := by
  refine sp_fin ?_
  have e : bodyOf 17 = [.asg 4 (.str []), .forL 17 (.var 20) body17, .ret (.var 4)] := rfl
  rw [e]
  refine yl_cons (ys_asg (ye_str (sq_next (yl_cons (ys_forL (ye_var rfl ⟨_, rfl, ?_, ?_⟩))))))
  · rw [List.length_map]; show l.length <= 4096; mem_news
  · refine lp17_ok hm l [] _ (Nat.zero_le _) (by got_up) (by got_up) fun l' h4 => ?_
    exact sq_next (yl_cons (ys_ret (ye_var h4 (sq_ret (fin_ret h)))))
end
theorem rev_in (l : List Nat) (c : Nat) : l.reverse.contains c = l.contains c := by
  rw [Bool.eq_iff_iff]; simp
theorem any_rev (l : List Nat) (x : Option Nat) : x.any l.reverse.contains = x.any l.contains := by
  cases x with
  | none => rfl
  | some c => exact rev_in l c
noncomputable def sc (X : List Nat) (p : Nat) : Option Nat := if (X[p]?).any V then (match X[p + 1]? with | some x => if uy x && (X[p + 2]?).any V then some x else none | none => none) else none
noncomputable def markB : List S := [.asg 42 (.fld 1), .tryE [.ite (.bop false (.cmp .eq (.fld 1) (.fld 2)) (.cmp .ne (.idx (.fld 0) (.fld 1)) (.str [117]))) [.raise 2] [], .augF 1 .add (.int 1), .asgF 5 (.fld 1), .ite (.not (.meth1 20 (.cattr 0))) [.raise 2] [], .ex (.meth1 28 (.str [85])), .brk] 2, .asgF 1 (.var 42), .ite (.bop false (.cmp .eq (.fld 1) (.fld 2)) (.cmp .ne (.idx (.fld 0) (.fld 1)) (.str [121]))) [.raise 1] [], .augF 1 .add (.int 1), .asgF 5 (.fld 1), .ite (.not (.meth1 20 (.cattr 0))) [.raise 1] [], .ex (.meth1 28 (.str [89])), .brk]
noncomputable def inB : List S := [.asg 41 (.fld 1), .tryE [.ite (.not (.meth1 20 (.cattr 0))) [.raise 1] [], .asgF 4 (.fld 1), .wh (.bool true) markB, .asgF 1 (.var 41), .brk] 1, .asgF 1 (.var 41), .ite (.cmp .ge (.fld 1) (.fld 2)) [.raise 0] [], .augF 1 .add (.int 1)]
noncomputable def inW : S := .wh (.bool true) inB
noncomputable def outB : List S := [.asg 40 (.fld 1), .tryE [inW, .cont] 0, .asgF 1 (.var 40), .brk]
noncomputable def outW : S := .wh (.bool true) outB
noncomputable def secB : List S := [.asg 43 (.fld 1), .tryE [.asgF 4 (.fld 1), .asg 44 (.meth1 25 (.cattr 4)), .asgF 5 (.fld 1), .ite (.cmp .eq (.var 44) (.int 1)) [.ex (.meth1 28 (.str [115, 115]))] [.ite (.cmp .eq (.var 44) (.int 2)) [.ex (.meth1 28 (.str [228]))] [.ite (.cmp .eq (.var 44) (.int 3)) [.ex (.meth1 28 (.str [246]))] [.ite (.cmp .eq (.var 44) (.int 4)) [.ex (.meth1 28 (.str [252]))] [.ite (.cmp .eq (.var 44) (.int 5)) [.ite (.cmp .ge (.fld 1) (.fld 2)) [.raise 0] [], .augF 1 .add (.int 1)] []]]]], .cont] 0, .asgF 1 (.var 43), .brk]
noncomputable def secW : S := .wh (.bool true) secB
theorem b32_eq : b32 = [.asg 39 (.fld 1), outW, .asgF 1 (.var 39), secW, .ret (.bool true)] := rfl
section
variable {X : List Nat} {lb : Nat} {q1 q2 : Int}
theorem cut_at {X : List Nat} {p x y : Nat} (h : X[p]? = some x) : cut X p (p + 1) [y] = X.set p y := by
  have hp := (List.getElem?_eq_some_iff.mp h).1
  unfold cut
  rw [List.set_eq_take_append_cons_drop, if_pos hp, List.append_assoc]; rfl
theorem markB_ok (hX : X.length <= 900) {p : Nat} (hp : p + 1 <= X.length) {ket : Nat} {l : Lc} {q : KS} (h0 : l.lookup 0 = some .obj)
    (hS : ∀ x l' c ket', X[p + 1]? = some x -> uy x = true -> (X[p + 2]?).any V = true -> l'.lookup 0 = some .obj -> (∀ v, v ≠ 42 -> l'.lookup v = l.lookup v) -> c <= 1000 -> q .next l' (some (mo (X.set (p + 1) (upc x)) c lb (p + 1) ket' q1 q2)))
    (hF : ∀ l' c ket', (∀ x, X[p + 1]? = some x -> uy x = true -> (X[p + 2]?).any V = false) -> l'.lookup 0 = some .obj -> (∀ v, v ≠ 42 -> l'.lookup v = l.lookup v) -> q (.exc 1) l' (some (mo X c lb (p + 1) ket' q1 q2))) :
    YS 32 (.wh (.bool true) markB) l (some (mo X (p + 1) lb (p + 1) ket q1 q2)) q := by
  have fr : ∀ (x : MV) v, v ≠ 42 -> (upd 42 x l).lookup v = l.lookup v := fun x v hv => by rw [lookup_upd, if_neg hv]
  refine ys_wh (ye_bool (m_bool (pickT rfl ?_)))
  unfold markB
  refine yl_cons (ys_asg (ye_fld h0 rfl (sq_next ?_)))
  have second : ∀ (ket' : Nat) (c : Nat), (X[p + 1]? = some 117 -> (X[p + 2]?).any V = false) -> YL 32 [.asgF 1 (.var 42), .ite (.bop false (.cmp .eq (.fld 1) (.fld 2)) (.cmp .ne (.idx (.fld 0) (.fld 1)) (.str [121]))) [.raise 1] [], .augF 1 .add (.int 1), .asgF 5 (.fld 1), .ite (.not (.meth1 20 (.cattr 0))) [.raise 1] [], .ex (.meth1 28 (.str [89])), .brk]
      (upd 42 (.int ((p + 1 : Nat) : Int)) l) (some (mo X c lb (p + 1) ket' q1 q2)) (tn (fun l o => YS 32 (.wh (.bool true) markB) l o q) q) := by
    intro ket' c hu
    refine yl_cons (ys_asgF (ye_var (x := .int ((p + 1 : Nat) : Int)) (by got_up) (p1 (by got_up) (sq_next ?_))))
    reads_via
    by_cases hend : p + 1 = X.length
    · refine pickT (decide_eq_true (by mem_news)) ?_
      reads_via
      refine pickT rfl ?_
      reads_via
      refine hF _ _ _ (fun x hx => ?_) (by got_up) (fr _)
      rw [List.getElem?_eq_none (by mem_news)] at hx; cases hx
    · have hlt : p + 1 < X.length := by mem_news
      have hx := List.getElem?_eq_getElem hlt
      generalize X[p + 1] = x at hx
      refine pickF (decide_eq_false (by mem_news)) ?_
      reads_via
      refine m_idxs rfl hx (by leaf_len) ?_
      reads_via
      rw [one_eq]
      by_cases hy : x = 121
      · subst hy
        refine pickF rfl ?_
        reads_via
        refine sp20 (c := p + 2) (by mem_news) (by decide) ?_
        rw [any_rev]
        cases hv : (X[p + 2]?).any gr0.contains with
        | true =>
          reads_via
          refine pickF rfl ?_
          reads_via
          have hlt2 : p + 2 < X.length := by
            cases hh : X[p + 2]? with
            | none => rw [hh] at hv; cases hv
            | some z => exact (List.getElem?_eq_some_iff.mp hh).1
          refine sp28 (w := X) (c := p + 2 + 1) (bra := p + 1) (ket := p + 2) (s := [89]) (by mem_news) (by mem_news) (by decide) (by mem_news) (by mem_news) ?_
          have e : cut X (p + 1) (p + 2) [89] = X.set (p + 1) 89 := cut_at hx
          rw [e]
          reads_via
          refine hS 121 _ _ _ hx rfl hv (by got_up) (fr _) ?_
          unfold mv
          rw [if_pos (by mem_news)]; simp only [List.length_cons, List.length_nil]; mem_news
        | false =>
          reads_via
          refine pickT rfl ?_
          reads_via
          refine hF _ _ _ (fun x hx' hux => hv) (by got_up) (fr _)
      · refine pickT (by rw [beq_eq_false_iff_ne.mpr hy]; rfl) ?_
        reads_via
        refine hF _ _ _ (fun x' hx' hux => ?_) (by got_up) (fr _)
        rw [hx] at hx'; cases hx'
        simp only [uy, Bool.or_eq_true, beq_iff_eq] at hux
        rcases hux with rfl | rfl
        · exact hu hx
        · exact absurd rfl hy
  reads_via
  by_cases hend : p + 1 = X.length
  · refine pickT (decide_eq_true (by mem_news)) ?_
    reads_via
    refine pickT rfl ?_
    refine yl_cons (ys_raise (sq_exc (sq_exc (ct_eq (sq_next ?_)))))
    exact second _ _ fun hx => by rw [List.getElem?_eq_none (by mem_news)] at hx; cases hx
  · have hlt : p + 1 < X.length := by mem_news
    have hx := List.getElem?_eq_getElem hlt
    generalize X[p + 1] = x at hx
    refine pickF (decide_eq_false (by mem_news)) ?_
    reads_via
    refine m_idxs rfl hx (by leaf_len) ?_
    reads_via
    rw [one_eq]
    by_cases hy : x = 117
    · subst hy
      refine pickF rfl ?_
      reads_via
      refine sp20 (c := p + 2) (by mem_news) (by decide) ?_
      rw [any_rev]
      cases hv : (X[p + 2]?).any gr0.contains with
      | true =>
        reads_via
        refine pickF rfl ?_
        reads_via
        have hlt2 : p + 2 < X.length := by
          cases hh : X[p + 2]? with
          | none => rw [hh] at hv; cases hv
          | some z => exact (List.getElem?_eq_some_iff.mp hh).1
        refine sp28 (w := X) (c := p + 2 + 1) (bra := p + 1) (ket := p + 2) (s := [85]) (by mem_news) (by mem_news) (by decide) (by mem_news) (by mem_news) ?_
        have e : cut X (p + 1) (p + 2) [85] = X.set (p + 1) 85 := cut_at hx
        rw [e]
        reads_via
        refine hS 117 _ _ _ hx rfl hv (by got_up) (fr _) ?_
        unfold mv
        rw [if_pos (by mem_news)]; simp only [List.length_cons, List.length_nil]; mem_news
      | false =>
        reads_via
        refine pickT rfl ?_
        refine yl_cons (ys_raise (sq_exc (sq_exc (ct_eq (sq_next ?_)))))
        exact second _ _ fun _ => hv
    · refine pickT (by rw [beq_eq_false_iff_ne.mpr hy]; rfl) ?_
      refine yl_cons (ys_raise (sq_exc (sq_exc (ct_eq (sq_next ?_)))))
      exact second _ _ fun hx' => by rw [hx] at hx'; cases hx'; exact absurd rfl hy
theorem inB_ok (hX : X.length <= 900) {p : Nat} (hp : p <= X.length) {bra ket : Nat} {l : Lc} {q : KS} (h0 : l.lookup 0 = some .obj)
    (K1 : ∀ l' bra ket, sc X p = none -> p < X.length -> l'.lookup 0 = some .obj -> (∀ v, v ≠ 41 -> v ≠ 42 -> l'.lookup v = l.lookup v) -> q .next l' (some (mo X (p + 1) lb bra ket q1 q2)))
    (K2 : ∀ l' bra ket, sc X p = none -> p = X.length -> l'.lookup 0 = some .obj -> (∀ v, v ≠ 41 -> v ≠ 42 -> l'.lookup v = l.lookup v) -> q (.exc 0) l' (some (mo X p lb bra ket q1 q2)))
    (K3 : ∀ x l' bra ket, sc X p = some x -> l'.lookup 0 = some .obj -> (∀ v, v ≠ 41 -> v ≠ 42 -> l'.lookup v = l.lookup v) -> q .brk l' (some (mo (X.set (p + 1) (upc x)) p lb bra ket q1 q2))) :
    YL 32 inB l (some (mo X p lb bra ket q1 q2)) q := by
  have fin : ∀ (c : Nat) (bra ket : Nat) (l' : Lc), sc X p = none -> l'.lookup 0 = some .obj -> l'.lookup 41 = some (.int (p : Int)) -> (∀ v, v ≠ 41 -> v ≠ 42 -> l'.lookup v = l.lookup v) →
      YL 32 [.asgF 1 (.var 41), .ite (.cmp .ge (.fld 1) (.fld 2)) [.raise 0] [], .augF 1 .add (.int 1)] l' (some (mo X c lb bra ket q1 q2)) q := by
    intro c bra ket l' hs g0 g41 gf
    reads_via
    by_cases he : p = X.length
    · refine pickT (decide_eq_true (by mem_news)) ?_
      reads_via
      exact K2 _ _ _ hs he g0 gf
    · refine pickF (decide_eq_false (by mem_news)) ?_
      reads_via
      exact K1 _ _ _ hs (by mem_news) g0 gf
  have f41 : ∀ v, v ≠ 41 -> v ≠ 42 -> (upd 41 (.int (p : Int)) l).lookup v = l.lookup v := fun v hv _ => by rw [lookup_upd, if_neg hv]
  unfold inB
  refine yl_cons (ys_asg (ye_fld h0 rfl (sq_next ?_)))
  reads_via
  refine sp20 (by mem_news) (by decide) ?_
  rw [any_rev]
  cases hv : (X[p]?).any gr0.contains with
  | false =>
    have hs : sc X p = none := by
      unfold sc
      rw [show (X[p]?).any V = false from hv]; rfl
    reads_via
    refine pickT rfl ?_
    refine yl_cons (ys_raise (sq_exc (sq_exc (ct_eq (sq_next ?_)))))
    exact fin _ _ _ _ hs (by got_up) (by got_up) f41
  | true =>
    have hs : sc X p = (match X[p + 1]? with | some x => if uy x && (X[p + 2]?).any V then some x else none | none => none) := by
      unfold sc
      rw [show (X[p]?).any V = true from hv]; rfl
    have hlt : p < X.length := by
      cases hh : X[p]? with
      | none => rw [hh] at hv; cases hv
      | some z => exact (List.getElem?_eq_some_iff.mp hh).1
    reads_via
    refine pickF rfl ?_
    refine yl_nil (sq_next (yl_cons (ys_asgF (ye_fld (by got_up) rfl (p4 (by got_up) (sq_next (yl_cons ?_)))))))
    refine markB_ok hX (by mem_news) (by got_up) (fun x l' c ket' h1 h2 h3 g0 gf hc => ?_) (fun l' c ket' h1 g0 gf => ?_)
    · have hsx : sc X p = some x := by rw [hs, h1]; dsimp only; rw [h2, h3]; rfl
      have g41 : l'.lookup 41 = some (.int (p : Int)) := by rw [gf 41 (by decide)]; got_up
      refine sq_next (yl_cons (ys_asgF (ye_var g41 (p1 g0 (sq_next (yl_cons (ys_brk (sq_brk (ct_brk (sq_brk ?_))))))))))
      exact K3 x l' _ _ hsx g0 (fun v n1 n2 => by rw [gf v n2, f41 v n1 n2])
    · have hsn : sc X p = none := by
        rw [hs]
        cases hh : X[p + 1]? with
        | none => rfl
        | some x =>
          cases hu : uy x with
          | false => simp [hu]
          | true => simp [h1 x hh hu]
      have g41 : l'.lookup 41 = some (.int (p : Int)) := by rw [gf 41 (by decide)]; got_up
      refine sq_exc (ct_eq (sq_next ?_))
      exact fin _ _ _ _ hsn g0 g41 (fun v n1 n2 => by rw [gf v n2, f41 v n1 n2])
end
theorem upc_V (c : Nat) : V (upc c) = false := by
  unfold upc; split <;> decide
theorem upc_uy (c : Nat) : uy (upc c) = false := by
  unfold upc; split <;> decide
theorem mark_cons (pv : Bool) (c : Nat) (r : List Nat) : mark pv (c :: r) = if uy c && pv && r.head?.any V then upc c :: mark false r else c :: mark (V c) r := rfl
theorem mark_drop {w : List Nat} : ∀ p, p <= w.length -> (mark false w).drop p = mark (decide (0 < p) && ((mark false w)[p - 1]?).any V) (w.drop p)
  | 0, _ => rfl
  | p + 1, h => by
    have ih := mark_drop (w := w) p (by mem_news)
    have hlt : p < w.length := by mem_news
    rw [List.drop_eq_getElem_cons hlt] at ih
    generalize (decide (0 < p) && ((mark false w)[p - 1]?).any V) = pv at ih
    have hM : p < (mark false w).length := by rw [mark_len]; exact hlt
    rw [List.drop_eq_getElem_cons hM] at ih
    rw [show p + 1 - 1 = p by mem_news, List.getElem?_eq_getElem hM, decide_eq_true (show 0 < p + 1 by mem_news), Bool.true_and, Option.any_some]
    generalize (mark false w)[p] = m at ih
    rw [mark_cons] at ih
    split at ih
    · obtain ⟨h1, h2⟩ := List.cons.inj ih
      rw [h1, upc_V]; exact h2
    · obtain ⟨h1, h2⟩ := List.cons.inj ih
      rw [h1]; exact h2
theorem mark_next {w : List Nat} {p x : Nat} (h : w[p + 1]? = some x) : (mark false w)[p + 1]? = some (if uy x && ((mark false w)[p]?).any V && (w[p + 2]?).any V then upc x else x) := by
  have hlt := (List.getElem?_eq_some_iff.mp h).1
  have hd := mark_drop (w := w) (p + 1) (by mem_news)
  rw [show p + 1 - 1 = p by mem_news, decide_eq_true (show 0 < p + 1 by mem_news), Bool.true_and, List.drop_eq_getElem_cons hlt] at hd
  have hx : w[p + 1] = x := by rw [List.getElem?_eq_getElem hlt] at h; injection h
  rw [hx] at hd
  have hg : (mark false w)[p + 1]? = ((mark false w).drop (p + 1)).head? := by rw [List.head?_drop]
  rw [hg, hd, mark_cons, List.head?_drop, show p + 1 + 1 = p + 2 by mem_news]
  split <;> rfl
noncomputable def Yk (w : List Nat) (k : Nat) : List Nat := (mark false w).take k ++ w.drop k
theorem Yk_len (w : List Nat) (k : Nat) : (Yk w k).length = w.length := by
  unfold Yk
  rw [List.length_append, List.length_take, mark_len, List.length_drop]; mem_news
theorem Yk_lo {w : List Nat} {k i : Nat} (h : i < k) : (Yk w k)[i]? = (mark false w)[i]? := by
  unfold Yk
  by_cases hl : i < w.length
  · rw [List.getElem?_append_left (by rw [List.length_take, mark_len]; mem_news), List.getElem?_take_of_lt h]
  · rw [List.getElem?_eq_none (by rw [List.length_append, List.length_take, mark_len, List.length_drop]; mem_news), List.getElem?_eq_none (by rw [mark_len]; mem_news)]
theorem Yk_hi {w : List Nat} {k i : Nat} (h : k <= i) : (Yk w k)[i]? = w[i]? := by
  unfold Yk
  by_cases hl : k <= w.length
  · rw [List.getElem?_append_right (by rw [List.length_take, mark_len]; mem_news), List.length_take, mark_len, Nat.min_eq_left hl, List.getElem?_drop]
    congr 1; mem_news
  · rw [List.getElem?_eq_none (by rw [List.length_append, List.length_take, mark_len, List.length_drop]; mem_news), List.getElem?_eq_none (by mem_news)]
theorem Yk_all {w : List Nat} {k : Nat} (h : w.length <= k) : Yk w k = mark false w := by
  unfold Yk
  rw [List.take_of_length_le (by rw [mark_len]; exact h), List.drop_of_length_le h, List.append_nil]
theorem Yk_one (w : List Nat) : Yk w 1 = w := by
  cases w with
  | nil => rfl
  | cons c r =>
    unfold Yk mark
    simp
theorem Yk_same {w : List Nat} {k : Nat} (h : w[k]? = (mark false w)[k]?) : Yk w (k + 1) = Yk w k := by
  refine List.ext_getElem? fun i => ?_
  rcases Nat.lt_trichotomy i k with hi | rfl | hi
  · rw [Yk_lo (by mem_news), Yk_lo hi]
  · rw [Yk_lo (by mem_news), Yk_hi (Nat.le_refl _), h]
  · rw [Yk_hi (by mem_news), Yk_hi (by mem_news)]
set_option tactic.hygienic true in
theorem sc_some {w : List Nat} {p x : Nat} (h : sc (Yk w (p + 1)) p = some x) : (Yk w (p + 1)).set (p + 1) (upc x) = Yk w (p + 2) := by
  unfold sc at h
  rw [Yk_lo (by mem_news), Yk_hi (by mem_news), Yk_hi (by mem_news)] at h
  split at h
  · rename_i hv
    cases hx : w[p + 1]? with
    | none => rw [hx] at h; cases h
    | some y =>
      rw [hx] at h
      dsimp only at h
      split at h
      · rename_i hc
        cases h
        obtain ⟨c1, c2⟩ := Bool.and_eq_true_iff.mp hc
        have hn := mark_next hx
        rw [c1, hv, c2] at hn
        have hlt := (List.getElem?_eq_some_iff.mp hx).1
        refine List.ext_getElem? fun i => ?_
        rcases Nat.lt_trichotomy i (p + 1) with hi | rfl | hi
        · rw [List.getElem?_set_ne (by mem_news), Yk_lo (by mem_news), Yk_lo (by mem_news)]
        · rw [List.getElem?_set_self (by rw [Yk_len]; exact hlt), Yk_lo (by mem_news), hn]; rfl
        · rw [List.getElem?_set_ne (by mem_news), Yk_hi (by mem_news), Yk_hi (by mem_news)]
      · cases h
  · cases h
set_option tactic.hygienic true in
theorem sc_none {w : List Nat} {p : Nat} (h : sc (Yk w (p + 1)) p = none) : Yk w (p + 2) = Yk w (p + 1) := by
  refine Yk_same ?_
  unfold sc at h
  rw [Yk_lo (by mem_news), Yk_hi (by mem_news), Yk_hi (by mem_news)] at h
  cases hx : w[p + 1]? with
  | none =>
    have := List.getElem?_eq_none_iff.mp hx
    rw [List.getElem?_eq_none (by rw [mark_len]; mem_news)]
  | some y =>
    rw [mark_next hx]
    rw [hx] at h
    dsimp only at h
    split at h
    · rename_i hv
      split at h
      · cases h
      · rename_i hc
        rw [hv, Bool.and_true]
        rw [if_neg hc]
    · rename_i hv
      rw [Bool.eq_false_iff.mpr hv, Bool.and_false, Bool.false_and]; rfl
set_option tactic.hygienic true in
theorem sc_settled (w : List Nat) (p : Nat) : sc (Yk w (p + 2)) p = none := by
  cases h : sc (Yk w (p + 1)) p with
  | none => rw [sc_none h, h]
  | some x =>
    have h2 := h
    unfold sc at h2 ⊢
    rw [Yk_lo (by mem_news), Yk_hi (by mem_news), Yk_hi (by mem_news)] at h2
    rw [Yk_lo (by mem_news), Yk_lo (by mem_news), Yk_hi (by mem_news)]
    split at h2
    · rename_i hv
      cases hx : w[p + 1]? with
      | none => rw [hx] at h2; cases h2
      | some y =>
        rw [hx] at h2
        dsimp only at h2
        split at h2
        · rename_i hc
          obtain ⟨c1, c2⟩ := Bool.and_eq_true_iff.mp hc
          rw [mark_next hx, c1, hv, c2, if_pos rfl]
          simp [upc_uy]
        · cases h2
    · cases h2
section
variable {w : List Nat} {lb : Nat} {q1 q2 : Int} {q0 : KS}
noncomputable def KO (q0 : KS) : KS := tn (fun l o => YS 32 outW l o q0) q0
noncomputable def KB (q0 : KS) : KS := sq (fun l o => YL 32 [.asgF 1 (.var 40), .brk] l o (KO q0)) (KO q0)
noncomputable def KI (q0 : KS) : KS := sq (fun l o => YL 32 [.cont] l o (ct 0 (KB q0))) (ct 0 (KB q0))
theorem out_roll {X : List Nat} {p bra ket : Nat} {l : Lc} (h0 : l.lookup 0 = some .obj) (h : YS 32 inW (upd 40 (.int (p : Int)) l) (some (mo X p lb bra ket q1 q2)) (KI q0)) : YS 32 outW l (some (mo X p lb bra ket q1 q2)) q0 := by
  unfold outW
  refine ys_wh (ye_bool (m_bool (pickT rfl ?_)))
  unfold outB
  exact yl_cons (ys_asg (ye_fld h0 rfl (sq_next (yl_cons (ys_try (yl_cons h))))))
structure LP (l : Lc) : Prop where
  h0 : l.lookup 0 = some .obj
  h39 : l.lookup 39 = some (.int 0)
  h40 : ∃ c : Nat, c <= 1000 /\ l.lookup 40 = some (.int (c : Int))
theorem LP.fr {l l' : Lc} (h : LP l) (g0 : l'.lookup 0 = some .obj) (gf : ∀ v, v ≠ 41 -> v ≠ 42 -> l'.lookup v = l.lookup v) : LP l' := by
  obtain ⟨_, h39, c, hc, h40⟩ := h
  exact ⟨g0, (gf 39 (by decide) (by decide)).trans h39, c, hc, (gf 40 (by decide) (by decide)).trans h40⟩
theorem LP.set {l : Lc} (h : LP l) {p : Nat} (hp : p <= 1000) : LP (upd 40 (.int (p : Int)) l) := by
  obtain ⟨h0, h39, c, hc, h40⟩ := h
  exact ⟨by got_up, by got_up, p, hp, by got_up⟩
theorem pre_loop (hw : w.length <= 400) (K : ∀ l' c bra ket, LP l' -> c <= 1000 -> q0 .next l' (some (mo (mark false w) c lb bra ket q1 q2))) : ∀ (r p : Nat), p + r = w.length →
    (∀ l bra ket, LP l -> YS 32 inW l (some (mo (Yk w (p + 2)) p lb bra ket q1 q2)) (KI q0)) /\ (∀ l bra ket, LP l -> YS 32 inW l (some (mo (Yk w (p + 1)) p lb bra ket q1 q2)) (KI q0)) := by
  intro r
  induction r with
  | zero =>
    intro p hp
    have B : ∀ l bra ket, LP l -> YS 32 inW l (some (mo (Yk w (p + 2)) p lb bra ket q1 q2)) (KI q0) := fun l bra ket L => by
      unfold inW
      refine ys_wh (ye_bool (m_bool (pickT rfl ?_)))
      refine inB_ok (by rw [Yk_len]; mem_news) (by rw [Yk_len]; mem_news) L.h0 (fun l' b k _ hlt _ _ => ?_) (fun l' b k _ _ g0 gf => ?_) (fun x l' b k hs _ _ => ?_)
      · rw [Yk_len] at hlt; mem_news
      · have L' := L.fr g0 gf
        obtain ⟨_, _, c, hc, h40⟩ := L'
        refine tn_exc (sq_exc (ct_eq (sq_next (yl_cons (ys_asgF (ye_var h40 (p1 g0 (sq_next (yl_cons (ys_brk (sq_brk (tn_brk ?_))))))))))))
        rw [Yk_all (by mem_news)]
        exact K _ _ _ _ (L.fr g0 gf) hc
      · rw [sc_settled] at hs; cases hs
    refine ⟨B, fun l bra ket L => ?_⟩
    have e : Yk w (p + 1) = Yk w (p + 2) := by rw [Yk_all (by mem_news), Yk_all (by mem_news)]
    rw [e]; exact B l bra ket L
  | succ r ih =>
    intro p hp
    obtain ⟨_, ihA⟩ := ih (p + 1) (by mem_news)
    have B : ∀ l bra ket, LP l -> YS 32 inW l (some (mo (Yk w (p + 2)) p lb bra ket q1 q2)) (KI q0) := fun l bra ket L => by
      unfold inW
      refine ys_wh (ye_bool (m_bool (pickT rfl ?_)))
      refine inB_ok (by rw [Yk_len]; mem_news) (by rw [Yk_len]; mem_news) L.h0 (fun l' b k _ hlt g0 gf => ?_) (fun l' b k _ he g0 gf => ?_) (fun x l' b k hs _ _ => ?_)
      · exact tn_next (ihA _ _ _ (L.fr g0 gf))
      · rw [Yk_len] at he; mem_news
      · rw [sc_settled] at hs; cases hs
    refine ⟨B, fun l bra ket L => ?_⟩
    unfold inW
    refine ys_wh (ye_bool (m_bool (pickT rfl ?_)))
    refine inB_ok (by rw [Yk_len]; mem_news) (by rw [Yk_len]; mem_news) L.h0 (fun l' b k hs hlt g0 gf => ?_) (fun l' b k _ he g0 gf => ?_) (fun x l' b k hs g0 gf => ?_)
    · have := ihA l' b k (L.fr g0 gf)
      rw [sc_none hs] at this
      exact tn_next this
    · rw [Yk_len] at he; mem_news
    · rw [sc_some hs]
      refine tn_brk (sq_next (yl_cons (ys_cont (sq_cont (ct_cont (sq_cont (tn_cont ?_)))))))
      have L' := L.fr g0 gf
      exact out_roll g0 (B _ _ _ (L'.set (by mem_news)))
theorem tb0_ok : TabOk tb0 (·.s) := tabB_of (by decide +kernel)
theorem tb1_ok : TabOk tb1 (·.s) := tabB_of (by decide +kernel)
theorem drop_at (d r : List Nat) : (d ++ r).drop d.length = r := by simp
theorem cut_mid (d p s r : List Nat) : cut (d ++ (p ++ r)) d.length (d.length + p.length) s = d ++ s ++ r := by
  unfold cut
  rw [List.take_left' rfl, <- List.append_assoc d p r, List.drop_left' (by rw [List.length_append])]
theorem sp28m {d p s r : List Nat} {Q : MV -> Option Ob -> Prop} (hl : d.length + p.length + r.length <= 1000) (hs : s.length <= 100) (h : Q .none (some (mo (d ++ s ++ r) (d.length + s.length) lb d.length (d.length + s.length) q1 q2))) :
    Sp 28 [.str s] (some (mo (d ++ (p ++ r)) (d.length + p.length) lb d.length (d.length + p.length) q1 q2)) Q := by
  refine sp28 (by simp only [List.length_append]; mem_news) (by mem_news) hs (by mem_news) (by simp only [List.length_append]; mem_news) ?_
  rw [cut_mid]
  have e : mv (d.length + p.length) d.length (d.length + p.length) s.length = d.length + s.length := by
    unfold mv; rw [if_pos (Nat.le_refl _)]; mem_news
  rw [e]; exact h
theorem jn_pq {r : List Nat} (h : r.head? ≠ some 117) (b : Bool) : jn false b r = jn false false r := by
  cases r with
  | nil => rfl
  | cons c r =>
    have hc : c ≠ 117 := fun e => h (by rw [e]; rfl)
    have hp : pairAt b c r = pairAt false c r := by
      unfold pairAt
      rw [beq_eq_false_iff_ne.mpr hc, Bool.false_and, Bool.false_and]
    unfold jn
    rw [hp]
theorem sec_loop {q : KS} {target : List Nat} (K : ∀ l' c bra ket, l'.lookup 0 = some .obj -> c <= 1000 -> q .next l' (some (mo target c lb bra ket q1 q2))) : ∀ (n : Nat) (rest done : List Nat) (l : Lc) (bra ket : Nat), rest.length = n -> done.length + 2 * rest.length <= 900 -> (∀ x ∈ done ++ rest, x < 1000) →
    done ++ jn false false rest = target -> l.lookup 0 = some .obj -> YS 32 secW l (some (mo (done ++ rest) done.length lb bra ket q1 q2)) q := by
  intro n
  induction n using Nat.strongRecOn with
  | ind n ih =>
    intro rest done l bra ket hn hb hx ht h0
    have ihx : ∀ (rest' done' : List Nat) (l' : Lc) (bra ket : Nat), rest'.length < rest.length -> done'.length + 2 * rest'.length <= 900 -> (∀ x ∈ done' ++ rest', x < 1000) -> done' ++ jn false false rest' = target -> l'.lookup 0 = some .obj -> YS 32 secW l' (some (mo (done' ++ rest') done'.length lb bra ket q1 q2)) q :=
      fun rest' done' l' bra ket h1 h2 h3 h4 h5 => ih rest'.length (by mem_news) rest' done' l' bra ket rfl h2 h3 h4 h5
    unfold secW
    refine ys_wh (ye_bool (m_bool (pickT rfl ?_)))
    unfold secB
    refine yl_cons (ys_asg (ye_fld h0 rfl (sq_next (yl_cons (ys_try ?_)))))
    refine yl_cons (ys_asgF (ye_fld (by got_up) rfl (p4 (by got_up) (sq_next (yl_cons (ys_asg ?_))))))
    refine ye_meth1 (by got_up) (ye_cattr (x := .tab tb0) rfl ?_)
    refine sp25 tb0_ok (by simp only [List.length_append]; mem_news) (by simp) hx (fun a ha hp hmax => ?_) (fun hno => absurd (by simp) (hno ⟨[], -1, 5⟩ (by simp [tb0])))
    rw [drop_at] at hp hmax
    have repl : ∀ (p s r : List Nat) (l' : Lc), rest = p ++ r -> p ≠ [] -> s.length <= 100 /\ s.length <= p.length + 1 -> (∀ x ∈ s, x < 1000) -> jn false false rest = s ++ jn false false r -> l'.lookup 0 = some .obj →
        Sp 28 [.str s] (some (mo (done ++ rest) (done.length + p.length) lb done.length (done.length + p.length) q1 q2)) fun _ o => YS 32 secW l' o q := by
      intro p s r l' hr hp1 hs hsx hj g0
      have hpl : 0 < p.length := by cases p with
        | nil => exact absurd rfl hp1
        | cons _ _ => simp
      have hl : rest.length = p.length + r.length := by rw [hr, List.length_append]
      subst hr
      refine sp28m (by mem_news) hs.1 ?_
      have := ihx r (done ++ s) l' done.length (done.length + s.length) (by mem_news) (by rw [List.length_append]; mem_news) (fun x hx' => ?_) (by rw [List.append_assoc, <- hj]; exact ht) g0
      · rw [List.length_append] at this; exact this
      · rcases List.mem_append.mp hx' with h | h
        · rcases List.mem_append.mp h with h | h
          · exact hx x (List.mem_append_left _ h)
          · exact hsx x h
        · exact hx x (List.mem_append_right _ (List.mem_append_right _ h))
    simp only [tb0, List.mem_cons, List.not_mem_nil, or_false] at ha
    rcases ha with rfl | rfl | rfl | rfl | rfl | rfl
    · -- nothing fits
      reads_via
      refine pickF rfl ?_
      reads_via
      refine pickF rfl ?_
      reads_via
      refine pickF rfl ?_
      reads_via
      refine pickF rfl ?_
      reads_via
      refine pickT rfl ?_
      reads_via
      cases hr : rest with
      | nil =>
        rw [hr] at ht
        refine pickT (by simp) ?_
        reads_via
        have e : done ++ ([] : List Nat) = target := ht
        rw [e]
        exact K _ _ _ _ (by got_up) (by mem_news)
      | cons x r =>
        have no : ∀ b ∈ tb0, 0 < b.s.length -> ¬ b.s <+: rest := fun b hb h1 h2 => by
          have := hmax b hb h2
          simp only [List.length_nil] at this; mem_news
        have n1 : ¬ [97, 101] <+: x :: r := hr ▸ no ⟨[97, 101], 0, 2⟩ (by simp [tb0]) (by decide)
        have n2 : ¬ [111, 101] <+: x :: r := hr ▸ no ⟨[111, 101], 0, 3⟩ (by simp [tb0]) (by decide)
        have n3 : ¬ [113, 117] <+: x :: r := hr ▸ no ⟨[113, 117], 0, -1⟩ (by simp [tb0]) (by decide)
        have n4 : ¬ [117, 101] <+: x :: r := hr ▸ no ⟨[117, 101], 0, 4⟩ (by simp [tb0]) (by decide)
        have n5 : ¬ [223] <+: x :: r := hr ▸ no ⟨[223], 0, 1⟩ (by simp [tb0]) (by decide)
        refine pickF (decide_eq_false (by rw [List.length_append, List.length_cons]; simp only [List.length_nil]; mem_news)) ?_
        reads_via
        have hpa : pairAt false x r = false := by
          cases r with
          | nil => unfold pairAt; rfl
          | cons y r =>
            unfold pairAt
            by_cases hy : y = 101
            · subst hy
              have a1 : x ≠ 97 := fun e => n1 (by subst e; simp)
              have a2 : x ≠ 111 := fun e => n2 (by subst e; simp)
              have a3 : x ≠ 117 := fun e => n4 (by subst e; simp)
              simp [a1, a2, a3]
            · simp [hy]
        have hss : x ≠ 223 := fun e => n5 (by subst e; simp)
        have hjn : jn false false (x :: r) = x :: jn false false r := by
          have e : jn false false (x :: r) = if pairAt false x r then uml x :: jn true false r else if x = 223 then 115 :: 115 :: jn false false r else x :: jn false (x == 113) r := rfl
          rw [e, hpa, if_neg (by decide), if_neg hss]
          by_cases hq : x = 113
          · subst hq
            rw [jn_pq (fun e => n3 ?_)]
            cases r with
            | nil => cases e
            | cons y r =>
              have : y = 117 := by simpa using e
              subst this; simp
          · rw [beq_eq_false_iff_ne.mpr hq]
        have := ihx r (done ++ [x]) (upd 44 (.int 5) (upd 43 (.int (done.length : Int)) l)) done.length done.length (by rw [hr]; simp) (by rw [hr] at hb; simp only [List.length_append, List.length_cons, List.length_nil] at hb ⊢; mem_news) (fun z hz => hx z (by rw [hr]; simpa using hz)) (by rw [List.append_assoc]; rw [hr, hjn] at ht; exact ht) (by got_up)
        rw [List.append_assoc, List.length_append] at this
        exact this
    · obtain ⟨r, hr⟩ := hp
      reads_via
      refine pickF rfl ?_
      reads_via
      refine pickT rfl ?_
      reads_via
      refine Sp.mono (repl [97, 101] [228] r (upd 44 (.int 2) (upd 43 (.int (done.length : Int)) l)) hr.symm (by decide) (by decide) (by decide) (by rw [<- hr]; rfl) (by got_up)) fun _ o h => ?_
      reads_via
      exact h
    · obtain ⟨r, hr⟩ := hp
      reads_via
      refine pickF rfl ?_
      reads_via
      refine pickF rfl ?_
      reads_via
      refine pickT rfl ?_
      reads_via
      refine Sp.mono (repl [111, 101] [246] r (upd 44 (.int 3) (upd 43 (.int (done.length : Int)) l)) hr.symm (by decide) (by decide) (by decide) (by rw [<- hr]; rfl) (by got_up)) fun _ o h => ?_
      reads_via
      exact h
    · obtain ⟨r, hr⟩ := hp
      reads_via
      refine pickF rfl ?_
      reads_via
      refine pickF rfl ?_
      reads_via
      refine pickF rfl ?_
      reads_via
      refine pickF rfl ?_
      reads_via
      refine pickF rfl ?_
      reads_via
      have hjn : jn false false ([113, 117] ++ r) = 113 :: 117 :: jn false false r := by
        have e : jn false false ([113, 117] ++ r) = 113 :: jn false true (117 :: r) := rfl
        have e2 : jn false true (117 :: r) = if pairAt true 117 r then uml 117 :: jn true false r else 117 :: jn false false r := rfl
        have e3 : pairAt true 117 r = false := by unfold pairAt; simp
        rw [e, e2, e3]; rfl
      have := ihx r (done ++ [113, 117]) (upd 44 (.int (-1)) (upd 43 (.int (done.length : Int)) l)) done.length (done.length + 2) (by rw [<- hr]; simp only [List.cons_append, List.nil_append, List.length_cons]; mem_news) (by rw [<- hr] at hb; simp only [List.length_append, List.length_cons, List.length_nil] at hb ⊢; mem_news) (fun z hz => hx z (by rw [<- hr]; simpa using hz)) (by rw [List.append_assoc]; rw [<- hr, hjn] at ht; exact ht) (by got_up)
      rw [List.append_assoc, List.length_append, hr] at this
      exact this
    · obtain ⟨r, hr⟩ := hp
      reads_via
      refine pickF rfl ?_
      reads_via
      refine pickF rfl ?_
      reads_via
      refine pickF rfl ?_
      reads_via
      refine pickT rfl ?_
      reads_via
      refine Sp.mono (repl [117, 101] [252] r (upd 44 (.int 4) (upd 43 (.int (done.length : Int)) l)) hr.symm (by decide) (by decide) (by decide) (by rw [<- hr]; rfl) (by got_up)) fun _ o h => ?_
      reads_via
      exact h
    · obtain ⟨r, hr⟩ := hp
      reads_via
      refine pickT rfl ?_
      reads_via
      refine Sp.mono (repl [223] [115, 115] r (upd 44 (.int 1) (upd 43 (.int (done.length : Int)) l)) hr.symm (by decide) (by decide) (by decide) (by rw [<- hr]; show (if pairAt false 223 r then _ else _) = _; rw [show pairAt false 223 r = false by unfold pairAt; simp]; rfl) (by got_up)) fun _ o h => ?_
      reads_via
      exact h
theorem mark_lt : ∀ (b : Bool) (w : List Nat), (∀ x ∈ w, x < 1000) -> ∀ x ∈ mark b w, x < 1000
  | _, [], h, x, hx => absurd hx (by unfold mark; simp)
  | b, c :: r, h, x, hx => by
    have hr : ∀ x ∈ r, x < 1000 := fun x hx => h x (List.mem_cons_of_mem _ hx)
    unfold mark at hx
    split at hx
    · rcases List.mem_cons.mp hx with rfl | hx
      · unfold upc; split <;> decide
      · exact mark_lt _ r hr x hx
    · rcases List.mem_cons.mp hx with rfl | hx
      · exact h _ (List.mem_cons_self ..)
      · exact mark_lt _ r hr x hx
theorem sp32 {bra ket : Nat} {Q : MV -> Option Ob -> Prop} (hw : w.length <= 200) (hx : ∀ x ∈ w, x < 1000) (h : ∀ c bra ket, c <= 1000 -> Q (.bool true) (some (mo (jn false false (mark false w)) c lb bra ket q1 q2))) : Sp 32 [] (some (mo w 0 lb bra ket q1 q2)) Q := by
  refine sp_fin ?_
  show YL 32 b32 _ _ _
  rw [b32_eq]
  refine yl_cons (ys_asg (ye_fld rfl rfl (sq_next (yl_cons ?_))))
  refine out_roll rfl ?_
  have e1 : (w : List Nat) = Yk w (0 + 1) := (Yk_one w).symm
  have := (pre_loop (w := w) (lb := lb) (q1 := q1) (q2 := q2) (q0 := sq (fun l o => YL 32 [.asgF 1 (.var 39), secW, .ret (.bool true)] l o (fin Q)) (fin Q)) (by mem_news) (fun l' c bra ket L hc => ?_) w.length 0 (by mem_news)).2 (upd 40 (.int ((0 : Nat) : Int)) (upd 39 (.int 0) [(0, .obj)])) bra ket ⟨by got_up, by got_up, 0, by decide, by got_up⟩
  · rw [<- e1] at this
    exact this
  · refine sq_next (yl_cons (ys_asgF (ye_var L.h39 (p1 L.h0 (sq_next (yl_cons ?_))))))
    have hm := mark_len false w
    have := sec_loop (lb := lb) (q1 := q1) (q2 := q2) (q := sq (fun l o => YL 32 [.ret (.bool true)] l o (fin Q)) (fin Q)) (target := jn false false (mark false w)) (fun l'' c bra ket g0 hc => sq_next (yl_cons (ys_ret (ye_bool (sq_ret (fin_ret (h _ _ _ hc))))))) (mark false w).length (mark false w) [] l' bra ket rfl (by rw [hm, List.length_nil]; mem_news) (fun x hx' => mark_lt false w hx x (by simpa using hx')) rfl L.h0
    exact this
end
theorem past_at {w : List Nat} {c : Nat} (h : c + 1 < w.length) : past w c = if V (w[c]'(by mem_news)) && !V w[c + 1] then c + 2 else past w (c + 1) := by
  unfold past
  rw [List.drop_eq_getElem_cons (show c < w.length by mem_news), List.drop_eq_getElem_cons h]
  rfl
theorem past_last {w : List Nat} {c : Nat} (h : w.length <= c + 1) : past w c = w.length := by
  unfold past
  by_cases h2 : c < w.length
  · rw [List.drop_eq_getElem_cons h2, List.drop_of_length_le h]; rfl
  · rw [List.drop_of_length_le (by mem_news)]; rfl
noncomputable def noV (x : Nat) : Bool := !V x
theorem past_run {w : List Nat} : ∀ (n c : Nat), c + n = w.length -> past w c = if runTo noV w c < w.length /\ runTo V w (runTo noV w c + 1) < w.length then runTo V w (runTo noV w c + 1) + 1 else w.length
  | 0, c, h => by
    rw [past_last (by mem_news), runTo_end (by mem_news), if_neg (by mem_news)]
  | n + 1, c, h => by
    have hlt : c < w.length := by mem_news
    have ih := past_run (w := w) n (c + 1) (by mem_news)
    cases hv : V w[c] with
    | false =>
      have hno : noV w[c] = true := by unfold noV; rw [hv]; rfl
      rw [runTo_on hlt hno, <- ih]
      by_cases h1 : c + 1 < w.length
      · rw [past_at h1, hv]; rfl
      · rw [past_last (by mem_news), past_last (by mem_news)]
    | true =>
      have hno : noV w[c] = false := by unfold noV; rw [hv]; rfl
      rw [runTo_stop hlt hno]
      by_cases h1 : c + 1 < w.length
      · rw [past_at h1, hv]
        cases hv1 : V w[c + 1] with
        | false =>
          rw [runTo_stop h1 hv1]
          simp only [Bool.not_false, Bool.and_true, if_true]
          rw [if_pos ⟨hlt, h1⟩]
        | true =>
          have hno1 : noV w[c + 1] = false := by unfold noV; rw [hv1]; rfl
          rw [runTo_stop h1 hno1] at ih
          rw [runTo_on h1 hv1]
          simp only [Bool.not_true, Bool.and_false, Bool.false_eq_true, if_false]
          rw [ih]
          simp only [h1, hlt, true_and]
      · rw [past_last (by mem_news), runTo_end (c := c + 1) (by mem_news), if_neg (by mem_news)]
theorem revV : (gr0.reverse).contains = V := funext (rev_in gr0)
theorem revN : (fun x => !(gr0.reverse).contains x) = noV := funext fun x => by
  show (!(gr0.reverse).contains x) = !V x
  rw [rev_in]; rfl
section
variable {w : List Nat} {lb : Nat} {q1 q2 : Int}
theorem sp33 {bra ket : Nat} {Q : MV -> Option Ob -> Prop} (hw : w.length <= 500) (h : ∀ b c (r1 r2 : Nat), c <= 1000 -> (∀ n, n < w.length -> (r1 <= n ↔ max (past w 0) 3 <= n)) -> (∀ n, n < w.length -> (r2 <= n ↔ past w (past w 0) <= n)) -> Q (.bool b) (some (mo w c lb bra ket r1 r2))) : Sp 33 [] (some (mo w 0 lb bra ket q1 q2)) Q := by
  have hp0 := past_run (w := w) w.length 0 (by mem_news)
  have hp0' := past_le (w := w) (p := 0) (by mem_news)
  have hp1 := past_run (w := w) (w.length - past w 0) (past w 0) (by mem_news)
  refine sp_fin ?_
  show YL 33 b33 _ _ _
  unfold b33
  reads_via
  by_cases h3 : w.length < 3
  · refine pickT (decide_eq_true (by mem_news)) ?_
    reads_via
    have e2 : past w (past w 0) = w.length := by
      refine past_last ?_
      by_cases h1 : w.length <= 1
      · mem_news
      · rw [past_at (c := 0) (by mem_news)]
        split
        · mem_news
        · rw [past_last (c := 0 + 1) (by mem_news)]; mem_news
    refine h _ _ w.length w.length (by mem_news) (fun n hn => ?_) (fun n hn => ?_)
    · constructor <;> intro <;> mem_news
    · rw [e2]
  · refine pickF (decide_eq_false (by mem_news)) ?_
    reads_via
    refine sp23 (by mem_news) (by mem_news) (by decide) ?_
    rw [revN]
    have none2 : past w 0 = w.length -> ∀ b c, c <= 1000 -> Q (.bool b) (some (mo w c lb bra ket (w.length : Nat) (w.length : Nat))) := fun e b c hc => by
      refine h b c w.length w.length hc (fun n hn => ?_) (fun n hn => ?_)
      · rw [e, Nat.max_eq_left (by mem_news)]
      · rw [e, past_last (by mem_news)]
    by_cases ha : runTo noV w 0 < w.length
    · rw [decide_eq_true ha]
      reads_via
      refine pickF rfl ?_
      reads_via
      refine sp21 (c := runTo noV w 0 + 1) (by mem_news) (by mem_news) (by decide) ?_
      rw [revV]
      by_cases hb : runTo V w (runTo noV w 0 + 1) < w.length
      · rw [decide_eq_true hb]
        rw [if_pos ⟨ha, hb⟩] at hp0
        reads_via
        refine pickF rfl ?_
        refine yl_nil (sq_next (yl_cons (ys_augF (x := .int ((runTo V w (runTo noV w 0 + 1) : Nat) : Int)) (by got_up) rfl (ye_int (m_addi (p1 (by got_up) (sq_next ?_)))))))
        have e1 : ((runTo V w (runTo noV w 0 + 1) : Nat) : Int) + 1 = ((past w 0 : Nat) : Int) := by rw [hp0]; mem_news
        rw [e1]
        have second : ∀ (r1 : Nat) (l' : Lc), r1 = max (past w 0) 3 -> l'.lookup 0 = some .obj -> YL 33 [.ite (.not (.meth1 23 (.cattr 0))) [.ret (.bool false)] [], .augF 1 .add (.int 1), .ite (.not (.meth1 21 (.cattr 0))) [.ret (.bool false)] [], .augF 1 .add (.int 1), .asgF 7 (.fld 1), .ret (.bool true)] l' (some (mo w (past w 0) lb bra ket (r1 : Int) (w.length : Int))) (fin Q) := by
          intro r1 l' hr g0
          subst hr
          reads_via
          refine sp23 (by mem_news) hp0' (by decide) ?_
          rw [revN]
          by_cases ha2 : runTo noV w (past w 0) < w.length
          · rw [decide_eq_true ha2]
            reads_via
            refine pickF rfl ?_
            reads_via
            refine sp21 (c := runTo noV w (past w 0) + 1) (by mem_news) (by mem_news) (by decide) ?_
            rw [revV]
            by_cases hb2 : runTo V w (runTo noV w (past w 0) + 1) < w.length
            · rw [decide_eq_true hb2]
              rw [if_pos ⟨ha2, hb2⟩] at hp1
              reads_via
              refine pickF rfl ?_
              reads_via
              refine h true (runTo V w (runTo noV w (past w 0) + 1) + 1) _ (past w (past w 0)) (by mem_news) (fun n hn => Iff.rfl) (fun n hn => Iff.rfl) |> fun z => ?_
              rw [hp1] at z
              exact z
            · rw [decide_eq_false hb2]
              rw [if_neg (fun z => hb2 z.2)] at hp1
              reads_via
              refine pickT rfl ?_
              reads_via
              exact h _ _ _ w.length (by have := runTo_le (p := V) (w := w) (c := runTo noV w (past w 0) + 1) (by mem_news); mem_news) (fun n hn => Iff.rfl) (fun n hn => by rw [hp1])
          · rw [decide_eq_false ha2]
            rw [if_neg (fun z => ha2 z.1)] at hp1
            reads_via
            refine pickT rfl ?_
            reads_via
            exact h _ _ _ w.length (by have := runTo_le (p := noV) (w := w) hp0'; mem_news) (fun n hn => Iff.rfl) (fun n hn => by rw [hp1])
        refine yl_cons (ys_asgF (ye_fld (by got_up) rfl (p6 (by got_up) (sq_next (yl_cons (ys_try (yl_cons (ys_ite (ye_cmp (ye_fld (by got_up) rfl (ye_var (x := .int 3) (by got_up) (m_gei (m_bool ?_)))))))))))))
        by_cases hge : 3 <= past w 0
        · refine pickT (show decide ((3 : Int) <= ((past w 0 : Nat) : Int)) = true from decide_eq_true (by mem_news)) (yl_cons (ys_raise (sq_exc (sq_exc (ct_eq (sq_next ?_))))))
          exact second (past w 0) _ (by mem_news) (by got_up)
        · refine pickF (show decide ((3 : Int) <= ((past w 0 : Nat) : Int)) = false from decide_eq_false (by mem_news)) (yl_nil (sq_next (yl_cons (ys_asgF (ye_var (x := .int 3) (by got_up) (p6 (by got_up) (sq_next (yl_nil (ct_next (sq_next ?_))))))))))
          exact second 3 _ (by mem_news) (by got_up)
      · rw [decide_eq_false hb]
        rw [if_neg (fun z => hb z.2)] at hp0
        reads_via
        refine pickT rfl ?_
        reads_via
        exact none2 hp0 _ _ (by have := runTo_le (p := V) (w := w) (c := runTo noV w 0 + 1) (by mem_news); mem_news)
    · rw [decide_eq_false ha]
      rw [if_neg (fun z => ha z.1)] at hp0
      reads_via
      refine pickT rfl ?_
      reads_via
      exact none2 hp0 _ _ (by have := runTo_le (p := noV) (w := w) (c := 0) (by mem_news); mem_news)
end
noncomputable def posB : List S := [.asg 39 (.fld 1), .tryE [.asgF 4 (.fld 1), .asg 44 (.meth1 25 (.cattr 5)), .asgF 5 (.fld 1), .ite (.cmp .eq (.var 44) (.int 1)) [.ex (.meth1 28 (.str [121]))] [.ite (.cmp .eq (.var 44) (.int 2)) [.ex (.meth1 28 (.str [117]))] [.ite (.cmp .eq (.var 44) (.int 3)) [.ex (.meth1 28 (.str [97]))] [.ite (.cmp .eq (.var 44) (.int 4)) [.ex (.meth1 28 (.str [111]))] [.ite (.cmp .ge (.fld 1) (.fld 2)) [.raise 0] [], .augF 1 .add (.int 1)]]]], .cont] 0, .asgF 1 (.var 39), .brk]
noncomputable def posW : S := .wh (.bool true) posB
section
variable {lb : Nat} {q1 q2 : Int}
theorem pos_loop {q : KS} {target : List Nat} (K : ∀ l' c bra ket, l'.lookup 0 = some .obj -> c <= 1000 -> q .next l' (some (mo target c lb bra ket q1 q2))) : ∀ (n : Nat) (rest done : List Nat) (l : Lc) (bra ket : Nat), rest.length = n -> done.length + rest.length <= 900 -> (∀ x ∈ done ++ rest, x < 1000) →
    done ++ rest.map back = target -> l.lookup 0 = some .obj -> YS 34 posW l (some (mo (done ++ rest) done.length lb bra ket q1 q2)) q := by
  intro n
  induction n using Nat.strongRecOn with
  | ind n ih =>
    intro rest done l bra ket hn hb hx ht h0
    have ihx : ∀ (x y : Nat) (r : List Nat) (l' : Lc) (bra ket : Nat), rest = x :: r -> y < 1000 -> back x = y -> l'.lookup 0 = some .obj -> YS 34 posW l' (some (mo (done ++ [y] ++ r) (done.length + 1) lb bra ket q1 q2)) q := by
      intro x y r l' bra ket hr hy hxy g0
      have := ih r.length (by rw [hr] at hn; simp only [List.length_cons] at hn; mem_news) r (done ++ [y]) l' bra ket rfl (by rw [hr] at hb; simp only [List.length_append, List.length_cons, List.length_nil] at hb ⊢; mem_news) (fun z hz => ?_) (by rw [<- hxy, List.append_assoc]; rw [hr] at ht; exact ht) g0
      · rw [List.length_append] at this; exact this
      · rcases List.mem_append.mp hz with h | h
        · rcases List.mem_append.mp h with h | h
          · exact hx z (List.mem_append_left _ h)
          · rw [List.mem_singleton.mp h]; exact hy
        · exact hx z (List.mem_append_right _ (by rw [hr]; exact List.mem_cons_of_mem _ h))
    unfold posW
    refine ys_wh (ye_bool (m_bool (pickT rfl ?_)))
    unfold posB
    refine yl_cons (ys_asg (ye_fld h0 rfl (sq_next (yl_cons (ys_try ?_)))))
    refine yl_cons (ys_asgF (ye_fld (by got_up) rfl (p4 (by got_up) (sq_next (yl_cons (ys_asg ?_))))))
    refine ye_meth1 (by got_up) (ye_cattr (x := .tab tb1) rfl ?_)
    refine sp25 tb1_ok (by simp only [List.length_append]; mem_news) (by simp) hx (fun a ha hp hmax => ?_) (fun hno => absurd (by simp) (hno ⟨[], -1, 5⟩ (by simp [tb1])))
    rw [drop_at] at hp hmax
    have repl : ∀ (x y : Nat) (r : List Nat) (l' : Lc), rest = x :: r -> y < 1000 -> back x = y -> l'.lookup 0 = some .obj →
        Sp 28 [.str [y]] (some (mo (done ++ rest) (done.length + [x].length) lb done.length (done.length + [x].length) q1 q2)) fun _ o => YS 34 posW l' o q := by
      intro x y r l' hr hy hxy g0
      have e : rest = [x] ++ r := hr
      rw [e]
      refine sp28m (by rw [hr] at hb; simp only [List.length_cons, List.length_nil] at hb ⊢; mem_news) (by simp) ?_
      exact ihx x y r l' done.length (done.length + 1) hr hy hxy g0
    simp only [tb1, List.mem_cons, List.not_mem_nil, or_false] at ha
    rcases ha with rfl | rfl | rfl | rfl | rfl | rfl
    · reads_via
      refine pickF rfl ?_
      reads_via
      refine pickF rfl ?_
      reads_via
      refine pickF rfl ?_
      reads_via
      refine pickF rfl ?_
      reads_via
      cases hr : rest with
      | nil =>
        rw [hr] at ht
        refine pickT (by simp) ?_
        reads_via
        have e : done ++ ([] : List Nat) = target := ht
        rw [e]
        exact K _ _ _ _ (by got_up) (by mem_news)
      | cons x r =>
        have no : ∀ b ∈ tb1, 0 < b.s.length -> ¬ b.s <+: rest := fun b hb h1 h2 => by
          have := hmax b hb h2
          simp only [List.length_nil] at this; mem_news
        have n1 : ¬ [85] <+: x :: r := hr ▸ no ⟨[85], 0, 2⟩ (by simp [tb1]) (by decide)
        have n2 : ¬ [89] <+: x :: r := hr ▸ no ⟨[89], 0, 1⟩ (by simp [tb1]) (by decide)
        have n3 : ¬ [228] <+: x :: r := hr ▸ no ⟨[228], 0, 3⟩ (by simp [tb1]) (by decide)
        have n4 : ¬ [246] <+: x :: r := hr ▸ no ⟨[246], 0, 4⟩ (by simp [tb1]) (by decide)
        have n5 : ¬ [252] <+: x :: r := hr ▸ no ⟨[252], 0, 2⟩ (by simp [tb1]) (by decide)
        have hbk : back x = x := by
          refine back_none ?_
          have a1 : x ≠ 85 := fun e => n1 (by subst e; simp)
          have a2 : x ≠ 89 := fun e => n2 (by subst e; simp)
          have a3 : x ≠ 228 := fun e => n3 (by subst e; simp)
          have a4 : x ≠ 246 := fun e => n4 (by subst e; simp)
          have a5 : x ≠ 252 := fun e => n5 (by subst e; simp)
          have e : ∀ y, x ≠ y -> ([x] == [y]) = false := fun y h => by rw [one_eq]; exact beq_eq_false_iff_ne.mpr h
          simp only [dBack, List.lookup_cons, e 85 a1, e 89 a2, e 228 a3, e 246 a4, e 252 a5]
          rfl
        refine pickF (decide_eq_false (by rw [List.length_append, List.length_cons]; simp only [List.length_nil]; mem_news)) ?_
        reads_via
        have := ihx x x r (upd 44 (.int 5) (upd 39 (.int (done.length : Int)) l)) done.length done.length hr (hx x (by rw [hr]; simp)) hbk (by got_up)
        rw [List.append_assoc] at this
        exact this
    · obtain ⟨r, hr⟩ := hp
      reads_via
      refine pickF rfl ?_
      reads_via
      refine pickT rfl ?_
      reads_via
      refine Sp.mono (repl 85 117 r (upd 44 (.int 2) (upd 39 (.int (done.length : Int)) l)) hr.symm (by decide) (by decide) (by got_up)) fun _ o h => ?_
      reads_via
      exact h
    · obtain ⟨r, hr⟩ := hp
      reads_via
      refine pickT rfl ?_
      reads_via
      refine Sp.mono (repl 89 121 r (upd 44 (.int 1) (upd 39 (.int (done.length : Int)) l)) hr.symm (by decide) (by decide) (by got_up)) fun _ o h => ?_
      reads_via
      exact h
    · obtain ⟨r, hr⟩ := hp
      reads_via
      refine pickF rfl ?_
      reads_via
      refine pickF rfl ?_
      reads_via
      refine pickT rfl ?_
      reads_via
      refine Sp.mono (repl 228 97 r (upd 44 (.int 3) (upd 39 (.int (done.length : Int)) l)) hr.symm (by decide) (by decide) (by got_up)) fun _ o h => ?_
      reads_via
      exact h
    · obtain ⟨r, hr⟩ := hp
      reads_via
      refine pickF rfl ?_
      reads_via
      refine pickF rfl ?_
      reads_via
      refine pickF rfl ?_
      reads_via
      refine pickT rfl ?_
      reads_via
      refine Sp.mono (repl 246 111 r (upd 44 (.int 4) (upd 39 (.int (done.length : Int)) l)) hr.symm (by decide) (by decide) (by got_up)) fun _ o h => ?_
      reads_via
      exact h
    · obtain ⟨r, hr⟩ := hp
      reads_via
      refine pickF rfl ?_
      reads_via
      refine pickT rfl ?_
      reads_via
      refine Sp.mono (repl 252 117 r (upd 44 (.int 2) (upd 39 (.int (done.length : Int)) l)) hr.symm (by decide) (by decide) (by got_up)) fun _ o h => ?_
      reads_via
      exact h
theorem sp34 {w : List Nat} {bra ket : Nat} {Q : MV -> Option Ob -> Prop} (hw : w.length <= 500) (hx : ∀ x ∈ w, x < 1000) (h : ∀ c bra ket, c <= 1000 -> Q (.bool true) (some (mo (w.map back) c lb bra ket q1 q2))) : Sp 34 [] (some (mo w 0 lb bra ket q1 q2)) Q := by
  refine sp_fin ?_
  have e : bodyOf 34 = [posW, .ret (.bool true)] := rfl
  rw [e]
  refine yl_cons ?_
  exact pos_loop (target := w.map back) (fun l' c bra ket g0 hc => sq_next (yl_cons (ys_ret (ye_bool (sq_ret (fin_ret (h _ _ _ hc))))))) w.length w [] _ bra ket rfl (by rw [List.length_nil]; mem_news) (fun x h => hx x (by simpa using h)) rfl rfl
end
theorem lend_spec {w : List Nat} : ∀ (ends : List (List Nat)) (f : List Nat), f.length <= (lend w ends f).length /\ (∀ x ∈ ends, x <:+ w -> x.length <= (lend w ends f).length) /\ (lend w ends f = f \/ (lend w ends f ∈ ends /\ lend w ends f <:+ w))
  | [], f => ⟨Nat.le_refl _, fun x hx => (by cases hx), .inl rfl⟩
  | e :: r, f => by
    have hl : lend w (e :: r) f = lend w r (if decide (f.length < e.length) && e.isSuffixOf w then e else f) := rfl
    rw [hl]
    cases hc : decide (f.length < e.length) && e.isSuffixOf w with
    | true =>
      rw [if_pos rfl]
      obtain ⟨c1, c2⟩ := Bool.and_eq_true_iff.mp hc
      have c1 := of_decide_eq_true c1
      have c2 := List.isSuffixOf_iff_suffix.mp c2
      obtain ⟨i1, i2, i3⟩ := lend_spec (w := w) r e
      refine ⟨by mem_news, fun x hx hs => ?_, ?_⟩
      · rcases List.mem_cons.mp hx with rfl | hx
        · exact i1
        · exact i2 x hx hs
      · rcases i3 with h | ⟨h1, h2⟩
        · rw [h]; exact .inr ⟨List.mem_cons_self .., c2⟩
        · exact .inr ⟨List.mem_cons_of_mem _ h1, h2⟩
    | false =>
      rw [if_neg (by decide)]
      obtain ⟨i1, i2, i3⟩ := lend_spec (w := w) r f
      refine ⟨i1, fun x hx hs => ?_, ?_⟩
      · rcases List.mem_cons.mp hx with rfl | hx
        · rw [List.isSuffixOf_iff_suffix.mpr hs, Bool.and_true] at hc
          have := of_decide_eq_false hc
          mem_news
        · exact i2 x hx hs
      · rcases i3 with h | ⟨h1, h2⟩
        · exact .inl h
        · exact .inr ⟨List.mem_cons_of_mem _ h1, h2⟩
theorem suf_eq {a b w : List Nat} (h1 : a <:+ w) (h2 : b <:+ w) (h : a.length = b.length) : a = b := by
  have h3 := List.suffix_of_suffix_length_le h1 h2 (by mem_news)
  exact h3.eq_of_length h
theorem lend_of {w a : List Nat} {ends : List (List Nat)} (ha : a ∈ ends) (hs : a <:+ w) (hm : ∀ b ∈ ends, b <:+ w -> b.length <= a.length) : lend w ends [] = a := by
  obtain ⟨_, i2, i3⟩ := lend_spec (w := w) ends []
  have h1 := i2 a ha hs
  rcases i3 with h | ⟨h2, h3⟩
  · rw [h] at h1 ⊢
    exact (List.length_eq_zero_iff.mp (by simpa using h1)).symm
  · exact suf_eq h3 hs (Nat.le_antisymm (hm _ h2 h3) h1)
theorem lend_no {w : List Nat} {ends : List (List Nat)} (hm : ∀ b ∈ ends, ¬ b <:+ w) : lend w ends [] = [] := by
  obtain ⟨_, _, i3⟩ := lend_spec (w := w) ends []
  rcases i3 with h | ⟨h2, h3⟩
  · exact h
  · exact absurd h3 (hm _ h2)
structure TabEnds (tab : List Amg) (ends : List (List Nat)) : Prop where
  ok : TabOk tab (·.s.reverse)
  to : ∀ t ∈ tab, t.s ∈ ends
  from_ : ∀ b ∈ ends, ∃ t ∈ tab, t.s = b
theorem te2 : TabEnds tb2 en0 := ⟨tabB_of (by decide +kernel), by decide, by decide⟩
theorem te3 : TabEnds tb3 en4 := ⟨tabB_of (by decide +kernel), by decide, by decide⟩
theorem te4 : TabEnds tb4 en1 := ⟨tabB_of (by decide +kernel), by decide, by decide⟩
theorem te5 : TabEnds tb5 [[105, 103], [108, 105, 99, 104]] := ⟨tabB_of (by decide +kernel), by decide, by decide⟩
theorem te6 : TabEnds tb6 en2 := ⟨tabB_of (by decide +kernel), by decide, by decide⟩
theorem te7 : TabEnds tb7 en3 := ⟨tabB_of (by decide +kernel), by decide, by decide⟩
section
variable {bra ket : Nat} {q1 q2 : Int} {Q : MV -> Option Ob -> Prop}
theorem spB {tab : List Amg} {ends : List (List Nat)} (T : TabEnds tab ends) {w x : List Nat} {c : Nat} (hw : w.length <= 1000) (hc : c <= w.length) (hx : ∀ x ∈ w, x < 1000) (ht : w.take c = x)
    (hS : ∀ a ∈ tab, ∀ s, x = s ++ a.s -> lend x ends [] = a.s -> Q (.int a.res) (some (mo w s.length 0 bra ket q1 q2)))
    (hN : lend x ends [] = [] -> Q (.int 0) (some (mo w c 0 bra ket q1 q2))) : Sp 26 [.tab tab] (some (mo w c 0 bra ket q1 q2)) Q := by
  have hxl : x.length = c := by rw [<- ht, List.length_take]; mem_news
  refine sp26 T.ok hw hc hx (fun a ha hp hm => ?_) (fun hno => hN (lend_no fun b hb hs => ?_))
  · rw [ht] at hp hm
    rw [List.reverse_prefix] at hp
    obtain ⟨s, hs⟩ := hp
    have := hS a ha s hs.symm (lend_of (T.to a ha) ⟨s, hs⟩ fun b hb hbs => ?_)
    · rw [show c - a.s.length = s.length by rw [<- hxl, <- hs, List.length_append]; mem_news]
      exact this
    · obtain ⟨t, ht1, rfl⟩ := T.from_ b hb
      exact hm t ht1 (List.reverse_prefix.mpr hbs)
  · obtain ⟨t, ht1, rfl⟩ := T.from_ b hb
    refine hno t ht1 ?_
    rw [ht]; exact List.reverse_prefix.mpr hs
theorem take_at (s e : List Nat) : (s ++ e).take s.length = s := List.take_left' rfl
theorem spD {s e : List Nat} {c k : Nat} (hl : s.length + e.length <= 1000) (hc : c <= s.length) (hk : k = s.length + e.length) (h : Q .none (some (mo s c 0 s.length s.length q1 q2))) : Sp 29 [] (some (mo (s ++ e) c 0 s.length k q1 q2)) Q := by
  subst hk
  refine sp29 (by rw [List.length_append]; exact hl) (by mem_news) (by mem_news) (by rw [List.length_append]; exact Nat.le_refl _) ?_
  have e1 : cut (s ++ e) s.length (s.length + e.length) [] = s := by
    have := cut_mid s e [] []
    rw [List.append_nil, List.append_nil, List.append_nil] at this; exact this
  have e2 : mv c s.length (s.length + e.length) 0 = c := by
    unfold mv
    split
    · mem_news
    · rw [if_neg (by mem_news)]
  rw [e1, e2]; exact h
theorem spF {s e t : List Nat} {c k : Nat} (hl : s.length + e.length <= 1000) (ht : t.length <= 100) (hc : c <= s.length) (he : 0 < e.length) (hk : k = s.length + e.length) (h : Q .none (some (mo (s ++ t) c 0 s.length (s.length + t.length) q1 q2))) : Sp 28 [.str t] (some (mo (s ++ e) c 0 s.length k q1 q2)) Q := by
  subst hk
  refine sp28 (by rw [List.length_append]; exact hl) (by mem_news) ht (by mem_news) (by rw [List.length_append]; exact Nat.le_refl _) ?_
  have e1 : cut (s ++ e) s.length (s.length + e.length) t = s ++ t := by
    have := cut_mid s e t []
    rw [List.append_nil, List.append_nil] at this; exact this
  have e2 : mv c s.length (s.length + e.length) t.length = c := by
    unfold mv
    rw [if_neg (by mem_news), if_neg (by mem_news)]
  rw [e1, e2]; exact h
theorem spE {w x t : List Nat} {c : Nat} (hw : w.length <= 1000) (ht : t.length <= 100) (hc : c <= w.length) (hx : w.take c = x) (h : Q (.bool (t.isSuffixOf x)) (some (mo w (if t.isSuffixOf x then c - t.length else c) 0 bra ket q1 q2))) : Sp 24 [.str t] (some (mo w c 0 bra ket q1 q2)) Q := by
  refine sp24 hw ht hc ?_
  rw [hx]; exact h
theorem spG {g s e : List Nat} (hl : s.length + e.length <= 1000) (hg : g.length < 100) (hs : 0 < s.length) (h : Q (.bool (lastIs s g)) (some (mo (s ++ e) (if lastIs s g then s.length - 1 else s.length) 0 bra ket q1 q2))) : Sp 22 [.set g.reverse] (some (mo (s ++ e) s.length 0 bra ket q1 q2)) Q := by
  refine sp22 (by rw [List.length_append]; exact hl) (by rw [List.length_append]; mem_news) (by rw [List.length_reverse]; exact hg) ?_
  rw [any_rev, List.getElem?_append_left (by mem_news)]
  simp only [hs, decide_true, Bool.true_and, true_and]
  exact h
end
noncomputable def KK (vk : Nat) (X : List Nat) (r1 r2 : Nat) (q : KS) : Prop := ∀ fl l' (c : Int) (bra ket : Nat), (fl = .next \/ fl = .exc 0) -> l'.lookup 0 = some .obj -> l'.lookup vk = some (.int 0) -> q fl l' (some ⟨some X, some c, some X.length, some (0 : Nat), some bra, some ket, r1, r2⟩)
theorem lFirst_s {s e : List Nat} {one : Nat} (hl : lend (s ++ e) en0 [] = e) : lFirst (s ++ e) one =
    if (e == []) || decide (s.length < one) then s ++ e
    else if List.contains [[108, 110], [108, 110, 115]] e then s ++ [108]
    else if e == [115] then (if lastIs s gr2 then s else s ++ e)
    else if e == [101, 109] then (if List.isSuffixOf [115, 121, 115, 116] s then s ++ e else s)
    else if List.contains [[101], [101, 110], [101, 115]] e && List.isSuffixOf [110, 105, 115, 115] s then s.take (s.length - 1)
    else s := by
  unfold lFirst
  dsimp only
  rw [hl, show (s ++ e).length - e.length = s.length by rw [List.length_append]; mem_news, take_at]
theorem suf_snoc (a b : List Nat) (x y : Nat) : (a ++ [x]).isSuffixOf (b ++ [y]) = (a.isSuffixOf b && x == y) := by
  rw [Bool.eq_iff_iff, Bool.and_eq_true, List.isSuffixOf_iff_suffix, List.isSuffixOf_iff_suffix, beq_iff_eq, <- List.reverse_prefix, List.reverse_append, List.reverse_append, List.reverse_singleton, List.reverse_singleton, List.singleton_append, List.singleton_append, List.cons_prefix_cons, List.reverse_prefix]
  exact And.comm
theorem snoc_of {s : List Nat} (h : 0 < s.length) : ∃ t x, s = t ++ [x] := by
  refine ⟨s.dropLast, s.getLast (List.ne_nil_of_length_pos h), (List.dropLast_concat_getLast _).symm⟩
noncomputable def t1a : S := .ite (.cmp .eq (.var 44) (.int 1)) [.tryE [.ite (.not (.meth1 24 (.str [115, 121, 115, 116]))) [.raise 1] [], .raise 0] 1, .ex (.meth0 29 )] [.ite (.cmp .eq (.var 44) (.int 2)) [.ex (.meth0 29 )] [.ite (.cmp .eq (.var 44) (.int 3)) [.ex (.meth0 29 ), .asg 40 (.bin .sub (.fld 2) (.fld 1)), .tryE [.asgF 5 (.fld 1), .ite (.bop false (.cmp .le (.fld 1) (.fld 3)) (.cmp .ne (.idx (.fld 0) (.bin .sub (.fld 1) (.int 1))) (.str [115]))) [.asgF 1 (.bin .sub (.fld 2) (.var 40)), .raise 1] [], .augF 1 .sub (.int 1), .asgF 4 (.fld 1), .ite (.not (.meth1 24 (.str [110, 105, 115]))) [.asgF 1 (.bin .sub (.fld 2) (.var 40)), .raise 1] [], .ex (.meth0 29 )] 1] [.ite (.cmp .eq (.var 44) (.int 4)) [.ite (.not (.meth1 22 (.cattr 2))) [.raise 0] [], .ex (.meth0 29 )] [.ex (.meth1 28 (.str [108]))]]]]
noncomputable def sfx1 : List S := [.asgF 5 (.fld 1), .asg 44 (.meth1 26 (.cattr 6)), .ite (.cmp .eq (.var 44) (.int 0)) [.raise 0] [], .asgF 4 (.fld 1), .ite (.not (.meth0 30 )) [.raise 0] [], t1a]
set_option maxHeartbeats 1000000 in
theorem sfx1_ok {w : List Nat} {one r1 r2 bra ket : Nat} {l : Lc} {q : KS} (hw : w.length <= 500) (hx : ∀ x ∈ w, x < 1000) (h1 : 3 <= one) (hR : ∀ n, n < w.length -> (r1 <= n ↔ one <= n)) (h0 : l.lookup 0 = some .obj) (h39 : l.lookup 39 = some (.int 0))
    (K : KK 39 (lFirst w one) r1 r2 q) : YL 35 sfx1 l (some (mo w w.length 0 bra ket r1 r2)) q := by
  unfold sfx1
  refine yl_cons (ys_asgF (ye_fld h0 rfl (p5 h0 (sq_next (yl_cons (ys_asg (ye_meth1 h0 (ye_cattr (x := .tab tb2) rfl ?_))))))))
  refine spB te2 (by mem_news) (Nat.le_refl _) hx (List.take_length) (fun a ha s hs hl => ?_) (fun hl => ?_)
  · -- an ending
    have hane : 0 < a.s.length := by
      have : ∀ a ∈ tb2, 0 < a.s.length := by decide
      exact this a ha
    have hwl : w.length = s.length + a.s.length := by rw [hs, List.length_append]
    rw [hwl]
    subst hs
    rw [hwl] at hw hR
    have hres : decide (a.res = 0) = false := by
      have : ∀ a ∈ tb2, decide (a.res = 0) = false := by decide
      exact this a ha
    reads_via
    refine pickF hres ?_
    reads_via
    refine sp30 ?_
    rw [lFirst_s hl] at K
    by_cases hr1 : r1 <= s.length
    · have hone : one <= s.length := (hR _ (by mem_news)).mp hr1
      rw [decide_eq_false (show ¬ s.length < one by mem_news)] at K
      refine m_bool (pickF (show (!decide ((r1 : Int) <= (s.length : Int))) = false by rw [decide_eq_true (show (r1 : Int) <= (s.length : Int) by mem_news)]; rfl) (yl_nil (sq_next ?_)))
      have g39 : (upd 44 (.int a.res) l).lookup 39 = some (.int 0) := by got_up
      have g0 : (upd 44 (.int a.res) l).lookup 0 = some .obj := by got_up
      have g44 : (upd 44 (.int a.res) l).lookup 44 = some (.int a.res) := by got_up
      generalize upd 44 (.int a.res) l = l1 at g39 g0 g44
      have hspos : 0 < s.length := by mem_news
      have ty2 : a.res = 2 -> KK 39 s r1 r2 q -> YL 35 [t1a] l1 (some (mo (s ++ a.s) s.length 0 s.length (s.length + a.s.length) r1 r2)) q := fun hr K => by
        rw [hr] at g44
        unfold t1a
        reads_via
        refine pickF rfl ?_
        reads_via
        refine pickT rfl ?_
        reads_via
        refine spD (by mem_news) (Nat.le_refl _) rfl ?_
        reads_via
        exact K .next _ _ _ _ (.inl rfl) g0 g39
      have ty5 : a.res = 5 -> KK 39 (s ++ [108]) r1 r2 q -> YL 35 [t1a] l1 (some (mo (s ++ a.s) s.length 0 s.length (s.length + a.s.length) r1 r2)) q := fun hr K => by
        rw [hr] at g44
        unfold t1a
        reads_via
        refine pickF rfl ?_
        reads_via
        refine pickF rfl ?_
        reads_via
        refine pickF rfl ?_
        reads_via
        refine pickF rfl ?_
        reads_via
        refine spF (by mem_news) (by decide) (Nat.le_refl _) hane rfl ?_
        reads_via
        exact K .next _ _ _ _ (.inl rfl) g0 g39
      have ty4 : a.res = 4 -> KK 39 (if lastIs s gr2 then s else s ++ a.s) r1 r2 q -> YL 35 [t1a] l1 (some (mo (s ++ a.s) s.length 0 s.length (s.length + a.s.length) r1 r2)) q := fun hr K => by
        rw [hr] at g44
        unfold t1a
        reads_via
        refine pickF rfl ?_
        reads_via
        refine pickF rfl ?_
        reads_via
        refine pickF rfl ?_
        reads_via
        refine pickT rfl ?_
        reads_via
        refine spG (g := gr2) (by mem_news) (by decide) hspos ?_
        reads_via
        cases hg : lastIs s gr2 with
        | true =>
          rw [hg] at K
          refine pickF rfl ?_
          reads_via
          refine spD (c := s.length - 1) (by mem_news) (by mem_news) rfl ?_
          reads_via
          exact K .next _ _ _ _ (.inl rfl) g0 g39
        | false =>
          rw [hg] at K
          refine pickT rfl ?_
          reads_via
          exact K (.exc 0) _ _ _ _ (.inr rfl) g0 g39
      have ty1 : a.res = 1 -> KK 39 (if List.isSuffixOf [115, 121, 115, 116] s then s ++ a.s else s) r1 r2 q -> YL 35 [t1a] l1 (some (mo (s ++ a.s) s.length 0 s.length (s.length + a.s.length) r1 r2)) q := fun hr K => by
        rw [hr] at g44
        unfold t1a
        reads_via
        refine pickT rfl ?_
        reads_via
        refine spE (x := s) (by rw [List.length_append]; mem_news) (by decide) (by rw [List.length_append]; mem_news) (take_at _ _) ?_
        reads_via
        cases hg : List.isSuffixOf [115, 121, 115, 116] s with
        | true =>
          rw [hg] at K
          refine pickF rfl ?_
          refine yl_nil (sq_next (yl_cons (ys_raise (sq_exc (ct_ne (sq_exc (sq_exc ?_)) (by decide))))))
          exact K (.exc 0) _ _ _ _ (.inr rfl) g0 g39
        | false =>
          rw [hg] at K
          refine pickT rfl ?_
          refine yl_cons (ys_raise (sq_exc (sq_exc (ct_eq (sq_next ?_)))))
          reads_via
          refine spD (c := s.length) (by mem_news) (Nat.le_refl _) rfl ?_
          reads_via
          exact K .next _ _ _ _ (.inl rfl) g0 g39
      have ty3 : a.res = 3 -> KK 39 (if List.isSuffixOf [110, 105, 115, 115] s then s.take (s.length - 1) else s) r1 r2 q -> YL 35 [t1a] l1 (some (mo (s ++ a.s) s.length 0 s.length (s.length + a.s.length) r1 r2)) q := fun hr K => by
        rw [hr] at g44
        unfold t1a
        reads_via
        refine pickF rfl ?_
        reads_via
        refine pickF rfl ?_
        reads_via
        refine pickT rfl ?_
        refine yl_cons (ys_ex (ye_meth0 g0 (spD (by mem_news) (Nat.le_refl _) rfl (sq_next ?_))))
        obtain ⟨t, x, hs⟩ := snoc_of hspos
        have htl : s.length = t.length + 1 := by rw [hs, List.length_append]; rfl
        have hsuf : List.isSuffixOf [110, 105, 115, 115] s = (List.isSuffixOf [110, 105, 115] t && (115 == x)) := by
          rw [hs]; exact suf_snoc [110, 105, 115] t 115 x
        have htk : s.take (s.length - 1) = t := by rw [htl, hs]; exact take_at t [x]
        have hg : s[t.length]? = some x := by rw [hs, List.getElem?_append_right (Nat.le_refl _), Nat.sub_self]; rfl
        have htake : s.take t.length = t := by rw [hs]; exact take_at t [x]
        rw [hsuf, htk] at K
        refine yl_cons (ys_asg (ye_bin (ye_fld g0 rfl (ye_fld g0 rfl (m_subi (sq_next ?_))))))
        refine yl_cons (ys_try (yl_cons (ys_asgF (ye_fld (by got_up) rfl (p5 (by got_up) (sq_next ?_))))))
        reads_via
        refine pickF (decide_eq_false (by mem_news)) ?_
        reads_via
        refine m_idxs (i := t.length) (by mem_news) hg (by leaf_len) ?_
        reads_via
        rw [one_eq]
        cases hx115 : (x == 115) with
        | false =>
          have : (115 == x) = false := beq_eq_false_iff_ne.mpr fun e => (beq_eq_false_iff_ne.mp hx115) e.symm
          rw [this, Bool.and_false] at K
          refine pickT rfl ?_
          reads_via
          exact K .next _ _ _ _ (.inl rfl) (by got_up) (by got_up)
        | true =>
          have : (115 == x) = true := by rw [beq_iff_eq] at hx115 ⊢; exact hx115.symm
          rw [this, Bool.and_true] at K
          refine pickF rfl ?_
          refine yl_nil (sq_next (yl_cons (ys_augF (x := .int (s.length : Int)) (by got_up) rfl (ye_int (m_subi (p1 (by got_up) (sq_next ?_)))))))
          have ec : (s.length : Int) - 1 = ((t.length : Nat) : Int) := by mem_news
          rw [ec]
          reads_via
          refine spE (x := t) (c := t.length) (by mem_news) (by decide) (by mem_news) htake ?_
          reads_via
          cases hn : List.isSuffixOf [110, 105, 115] t with
          | false =>
            rw [hn] at K
            refine pickT rfl ?_
            reads_via
            exact K .next _ _ _ _ (.inl rfl) (by got_up) (by got_up)
          | true =>
            rw [hn] at K
            refine pickF rfl ?_
            refine yl_nil (sq_next (yl_cons (ys_ex (ye_meth0 (by got_up) ?_))))
            rw [hs]
            refine spD (s := t) (e := [x]) (c := t.length - 3) (by simp only [List.length_cons, List.length_nil]; mem_news) (by mem_news) (by rw [List.length_append]) ?_
            reads_via
            exact K .next _ _ _ _ (.inl rfl) (by got_up) (by got_up)
      simp only [tb2, List.mem_cons, List.not_mem_nil, or_false] at ha
      rcases ha with rfl | rfl | rfl | rfl | rfl | rfl | rfl | rfl | rfl | rfl | rfl
      · exact ty3 rfl K
      · exact ty1 rfl K
      · exact ty3 rfl K
      · exact ty2 rfl K
      · exact ty2 rfl K
      · exact ty5 rfl K
      · exact ty2 rfl K
      · exact ty2 rfl K
      · exact ty4 rfl K
      · exact ty3 rfl K
      · exact ty5 rfl K
    · have hone : ¬ one <= s.length := fun h => hr1 ((hR _ (by mem_news)).mpr h)
      rw [decide_eq_true (show s.length < one by mem_news), Bool.or_true, if_pos rfl] at K
      refine m_bool (pickT (show (!decide ((r1 : Int) <= (s.length : Int))) = true by rw [decide_eq_false (show ¬ (r1 : Int) <= (s.length : Int) by mem_news)]; rfl) (yl_cons (ys_raise (sq_exc (sq_exc ?_)))))
      exact K (.exc 0) _ _ _ _ (.inr rfl) (by got_up) (by got_up)
  · have hid : lFirst w one = w := by
      unfold lFirst
      dsimp only
      rw [hl]; rfl
    rw [hid] at K
    reads_via
    refine pickT rfl ?_
    reads_via
    exact K (.exc 0) _ _ _ _ (.inr rfl) (by got_up) (by got_up)
theorem lSecond_s {s e : List Nat} {one : Nat} (hl : lend (s ++ e) en1 [] = e) : lSecond (s ++ e) one =
    if (e == []) || decide (s.length < one) then s ++ e
    else if (e == [115, 116]) && (!lastIs s gr3 || decide (s.length < 4)) then s ++ e
    else if (e == [101, 116]) && (!lastIs s bet || !(lend s en4 [] == [])) then s ++ e
    else s := by
  unfold lSecond
  dsimp only
  rw [hl, show (s ++ e).length - e.length = s.length by rw [List.length_append]; mem_news, take_at]
theorem bet_gr1 (s : List Nat) : lastIs s gr1 = lastIs s bet := by
  have h : ∀ c, gr1.contains c = bet.contains c := fun c => by
    have hp : gr1.Perm bet := by decide
    rw [Bool.eq_iff_iff, List.contains_iff_mem, List.contains_iff_mem]
    exact hp.mem_iff
  unfold lastIs
  rw [show gr1.contains = bet.contains from funext h]
noncomputable def t2a : S := .ite (.cmp .eq (.var 44) (.int 1)) [.ex (.meth0 29 )] [.ite (.cmp .eq (.var 44) (.int 2)) [.ite (.not (.meth1 22 (.cattr 3))) [.raise 0] [], .ite (.cmp .lt (.bin .sub (.fld 1) (.int 3)) (.fld 3)) [.raise 0] [], .augF 1 .sub (.int 3), .ex (.meth0 29 )] [.asg 42 (.bin .sub (.fld 2) (.fld 1)), .ite (.not (.meth1 22 (.cattr 1))) [.raise 0] [], .asgF 1 (.bin .sub (.fld 2) (.var 42)), .asg 43 (.bin .sub (.fld 2) (.fld 1)), .tryE [.ite (.cmp .eq (.meth1 26 (.cattr 7)) (.int 0)) [.raise 1] [], .raise 0] 1, .asgF 1 (.bin .sub (.fld 2) (.var 43)), .ex (.meth0 29 )]]
noncomputable def sfx2 : List S := [.asgF 5 (.fld 1), .asg 44 (.meth1 26 (.cattr 8)), .ite (.cmp .eq (.var 44) (.int 0)) [.raise 0] [], .asgF 4 (.fld 1), .ite (.not (.meth0 30 )) [.raise 0] [], t2a]
theorem spG2 {bra ket : Nat} {q1 q2 : Int} {Q : MV -> Option Ob -> Prop} {g s e : List Nat} (hl : s.length + e.length <= 1000) (hg : g.length < 100) (hs : 0 < s.length) (ht : lastIs s g = true -> Q (.bool true) (some (mo (s ++ e) (s.length - 1) 0 bra ket q1 q2))) (hf : lastIs s g = false -> Q (.bool false) (some (mo (s ++ e) s.length 0 bra ket q1 q2))) : Sp 22 [.set g.reverse] (some (mo (s ++ e) s.length 0 bra ket q1 q2)) Q := by
  refine spG hl hg hs ?_
  cases h : lastIs s g with
  | true => exact ht h
  | false => exact hf h
theorem spE2 {bra ket : Nat} {q1 q2 : Int} {Q : MV -> Option Ob -> Prop} {w x t : List Nat} {c : Nat} (hw : w.length <= 1000) (ht : t.length <= 100) (hc : c <= w.length) (hx : w.take c = x) (h1 : t.isSuffixOf x = true -> Q (.bool true) (some (mo w (c - t.length) 0 bra ket q1 q2))) (h2 : t.isSuffixOf x = false -> Q (.bool false) (some (mo w c 0 bra ket q1 q2))) : Sp 24 [.str t] (some (mo w c 0 bra ket q1 q2)) Q := by
  refine spE hw ht hc hx ?_
  cases h : t.isSuffixOf x with
  | true => exact h1 h
  | false => exact h2 h
set_option maxHeartbeats 1000000 in
theorem sfx2_ok {w : List Nat} {one r1 r2 bra ket : Nat} {l : Lc} {q : KS} (hw : w.length <= 500) (hx : ∀ x ∈ w, x < 1000) (h1 : 3 <= one) (hR : ∀ n, n < w.length -> (r1 <= n ↔ one <= n)) (h0 : l.lookup 0 = some .obj) (h41 : l.lookup 41 = some (.int 0))
    (K : KK 41 (lSecond w one) r1 r2 q) : YL 35 sfx2 l (some (mo w w.length 0 bra ket r1 r2)) q := by
  unfold sfx2
  refine yl_cons (ys_asgF (ye_fld h0 rfl (p5 h0 (sq_next (yl_cons (ys_asg (ye_meth1 h0 (ye_cattr (x := .tab tb4) rfl ?_))))))))
  refine spB te4 (by mem_news) (Nat.le_refl _) hx (List.take_length) (fun a ha s hs hl => ?_) (fun hl => ?_)
  · have hane : 0 < a.s.length := by
      have : ∀ a ∈ tb4, 0 < a.s.length := by decide
      exact this a ha
    have hwl : w.length = s.length + a.s.length := by rw [hs, List.length_append]
    rw [hwl]
    subst hs
    rw [hwl] at hw hR
    have hres : decide (a.res = 0) = false := by
      have : ∀ a ∈ tb4, decide (a.res = 0) = false := by decide
      exact this a ha
    reads_via
    refine pickF hres ?_
    reads_via
    refine sp30 ?_
    rw [lSecond_s hl] at K
    by_cases hr1 : r1 <= s.length
    · have hone : one <= s.length := (hR _ (by mem_news)).mp hr1
      rw [decide_eq_false (show ¬ s.length < one by mem_news)] at K
      refine m_bool (pickF (show (!decide ((r1 : Int) <= (s.length : Int))) = false by rw [decide_eq_true (show (r1 : Int) <= (s.length : Int) by mem_news)]; rfl) (yl_nil (sq_next ?_)))
      have g41 : (upd 44 (.int a.res) l).lookup 41 = some (.int 0) := by got_up
      have g0 : (upd 44 (.int a.res) l).lookup 0 = some .obj := by got_up
      have g44 : (upd 44 (.int a.res) l).lookup 44 = some (.int a.res) := by got_up
      generalize upd 44 (.int a.res) l = l1 at g41 g0 g44
      have hspos : 0 < s.length := by mem_news
      have ty1 : a.res = 1 -> KK 41 s r1 r2 q -> YL 35 [t2a] l1 (some (mo (s ++ a.s) s.length 0 s.length (s.length + a.s.length) r1 r2)) q := fun hr K => by
        rw [hr] at g44
        unfold t2a
        reads_via
        refine pickT rfl ?_
        reads_via
        refine spD (by mem_news) (Nat.le_refl _) rfl ?_
        reads_via
        exact K .next _ _ _ _ (.inl rfl) g0 g41
      have ty2 : a.res = 2 -> KK 41 (if !lastIs s gr3 || decide (s.length < 4) then s ++ a.s else s) r1 r2 q -> YL 35 [t2a] l1 (some (mo (s ++ a.s) s.length 0 s.length (s.length + a.s.length) r1 r2)) q := fun hr K => by
        rw [hr] at g44
        unfold t2a
        reads_via
        refine pickF rfl ?_
        reads_via
        refine pickT rfl ?_
        reads_via
        refine spG2 (g := gr3) (by mem_news) (by decide) hspos (fun hg => ?_) (fun hg => ?_)
        · rw [hg] at K
          simp only [Bool.not_true, Bool.false_or] at K
          reads_via
          refine pickF rfl ?_
          reads_via
          by_cases h4 : s.length < 4
          · rw [decide_eq_true h4, if_pos rfl] at K
            refine pickT (decide_eq_true (by mem_news)) ?_
            reads_via
            exact K (.exc 0) _ _ _ _ (.inr rfl) g0 g41
          · rw [decide_eq_false h4, if_neg (by decide)] at K
            refine pickF (decide_eq_false (by mem_news)) ?_
            refine yl_nil (sq_next (yl_cons (ys_augF (x := .int ((s.length - 1 : Nat) : Int)) g0 rfl (ye_int (m_subi (p1 g0 (sq_next ?_)))))))
            rw [show ((s.length - 1 : Nat) : Int) - 3 = ((s.length - 4 : Nat) : Int) by mem_news]
            reads_via
            refine spD (c := s.length - 4) (by mem_news) (by mem_news) rfl ?_
            reads_via
            exact K .next _ _ _ _ (.inl rfl) g0 g41
        · rw [hg] at K
          reads_via
          refine pickT rfl ?_
          reads_via
          exact K (.exc 0) _ _ _ _ (.inr rfl) g0 g41
      have ty3 : a.res = 3 -> KK 41 (if !lastIs s bet || !(lend s en4 [] == []) then s ++ a.s else s) r1 r2 q -> YL 35 [t2a] l1 (some (mo (s ++ a.s) s.length 0 s.length (s.length + a.s.length) r1 r2)) q := fun hr K => by
        rw [hr] at g44
        unfold t2a
        reads_via
        refine pickF rfl ?_
        reads_via
        refine pickF rfl ?_
        reads_via
        refine spG2 (g := gr1) (by mem_news) (by decide) hspos (fun hg => ?_) (fun hg => ?_)
        · rw [bet_gr1] at hg
          rw [hg] at K
          simp only [Bool.not_true, Bool.false_or] at K
          reads_via
          refine pickF rfl ?_
          refine yl_nil (sq_next (yl_cons (ys_asgF (ye_bin (ye_fld (by got_up) rfl (ye_var (x := .int (((s ++ a.s).length : Int) - (s.length : Int))) (by got_up) (m_subi (p1 (by got_up) (sq_next ?_)))))))))
          rw [show ((s ++ a.s).length : Int) - (((s ++ a.s).length : Int) - (s.length : Int)) = ((s.length : Nat) : Int) by mem_news]
          refine yl_cons (ys_asg (ye_bin (ye_fld (by got_up) rfl (ye_fld (by got_up) rfl (m_subi (sq_next (yl_cons (ys_try ?_))))))))
          refine yl_cons (ys_ite (ye_cmp (ye_meth1 (by got_up) (ye_cattr (x := .tab tb3) rfl ?_))))
          refine spB te3 (by rw [List.length_append]; mem_news) (by rw [List.length_append]; mem_news) hx (take_at _ _) (fun b hb t ht hlt => ?_) (fun hlt => ?_)
          · have hb0 : decide (b.res = 0) = false := by
              have : ∀ a ∈ tb3, decide (a.res = 0) = false := by decide
              exact this b hb
            have hbne : (b.s == []) = false := by
              have : ∀ a ∈ tb3, (a.s == []) = false := by decide
              exact this b hb
            rw [hlt, hbne] at K
            simp only [Bool.not_false, if_true] at K
            refine ye_int (m_eqi (m_bool (pickF hb0 (yl_nil (sq_next (yl_cons (ys_raise (sq_exc (ct_ne (sq_exc ?_) (by decide))))))))))
            exact K (.exc 0) _ _ _ _ (.inr rfl) (by got_up) (by got_up)
          · rw [hlt] at K
            refine ye_int (m_eqi (m_bool (pickT rfl (yl_cons (ys_raise (sq_exc (sq_exc (ct_eq (sq_next ?_)))))))))
            refine yl_cons (ys_asgF (ye_bin (ye_fld (by got_up) rfl (ye_var (x := .int (((s ++ a.s).length : Int) - (s.length : Int))) (by got_up) (m_subi (p1 (by got_up) (sq_next ?_)))))))
            rw [show ((s ++ a.s).length : Int) - (((s ++ a.s).length : Int) - (s.length : Int)) = ((s.length : Nat) : Int) by mem_news]
            reads_via
            refine spD (c := s.length) (by mem_news) (Nat.le_refl _) rfl ?_
            reads_via
            exact K .next _ _ _ _ (.inl rfl) (by got_up) (by got_up)
        · rw [bet_gr1] at hg
          rw [hg] at K
          reads_via
          refine pickT rfl ?_
          reads_via
          exact K (.exc 0) _ _ _ _ (.inr rfl) (by got_up) (by got_up)
      simp only [tb4, List.mem_cons, List.not_mem_nil, or_false] at ha
      rcases ha with rfl | rfl | rfl | rfl | rfl
      · exact ty1 rfl K
      · exact ty1 rfl K
      · exact ty3 rfl K
      · exact ty2 rfl K
      · exact ty1 rfl K
    · have hone : ¬ one <= s.length := fun h => hr1 ((hR _ (by mem_news)).mpr h)
      rw [decide_eq_true (show s.length < one by mem_news), Bool.or_true, if_pos rfl] at K
      refine m_bool (pickT (show (!decide ((r1 : Int) <= (s.length : Int))) = true by rw [decide_eq_false (show ¬ (r1 : Int) <= (s.length : Int) by mem_news)]; rfl) (yl_cons (ys_raise (sq_exc (sq_exc ?_)))))
      exact K (.exc 0) _ _ _ _ (.inr rfl) (by got_up) (by got_up)
  · have hid : lSecond w one = w := by
      unfold lSecond
      dsimp only
      rw [hl]; rfl
    rw [hid] at K
    reads_via
    refine pickT rfl ?_
    reads_via
    exact K (.exc 0) _ _ _ _ (.inr rfl) (by got_up) (by got_up)
theorem lThird_s {s e : List Nat} {one two : Nat} (hl : lend (s ++ e) en2 [] = e) : lThird (s ++ e) one two =
    if (e == []) || decide (s.length < two) then s ++ e
    else if List.contains [[105, 103], [105, 107], [105, 115, 99, 104]] e then (if List.isSuffixOf [101] s then s ++ e else s)
    else if List.contains [[101, 110, 100], [117, 110, 103]] e then lCut s (if List.isSuffixOf [101, 105, 103] s then [] else lend s [[105, 103]] []) two
    else if List.contains [[108, 105, 99, 104], [104, 101, 105, 116]] e then lCut s (lend s [[101, 114], [101, 110]] []) one
    else lCut s (lend s [[105, 103], [108, 105, 99, 104]] []) two := by
  unfold lThird
  dsimp only
  rw [hl, show (s ++ e).length - e.length = s.length by rw [List.length_append]; mem_news, take_at]
theorem lCut_nil (s : List Nat) (k : Nat) : lCut s [] k = s := by
  unfold lCut
  split
  · rw [List.length_nil, Nat.sub_zero, List.take_length]
  · rfl
theorem lCut_app (t m : List Nat) (k : Nat) : lCut (t ++ m) m k = if k <= t.length then t else t ++ m := by
  unfold lCut
  rw [List.length_append, show t.length + m.length - m.length = t.length by mem_news, take_at]
  by_cases h : k <= t.length
  · rw [if_pos h, decide_eq_true (by mem_news), if_pos rfl]
  · rw [if_neg h, decide_eq_false (by mem_news), if_neg (by decide)]
noncomputable def KN (X : List Nat) (r1 r2 : Nat) (q : KS) (l : Lc) : Prop := ∀ (c : Int) (bra ket : Nat), q .next l (some ⟨some X, some c, some X.length, some (0 : Nat), some bra, some ket, r1, r2⟩)
section
variable {r1 r2 : Nat} {l : Lc} {qq : KS}
theorem ye_ahead {w s : List Nat} {c x bra ket : Nat} {K : KE} (hw : w.length <= 900) (h0 : l.lookup 0 = some .obj) (hc : c <= w.length) (ht : w.take c = s) (h : K (.bool (!List.isSuffixOf [x] s)) l (some (mo w c 0 bra ket r1 r2))) :
    YE 35 (.bop false (.cmp .le (.fld 1) (.fld 3)) (.cmp .ne (.idx (.fld 0) (.bin .sub (.fld 1) (.int 1))) (.str [x]))) l (some (mo w c 0 bra ket r1 r2)) K := by
  have hsl : s.length = c := by rw [<- ht, List.length_take]; mem_news
  refine ye_or (ye_cmp (ye_fld h0 rfl (ye_fld h0 rfl (m_lei (m_bool ?_)))))
  by_cases hz : c = 0
  · have : s = [] := List.length_eq_zero_iff.mp (by mem_news)
    rw [this] at h
    refine pickT (decide_eq_true (by mem_news)) ?_
    exact h
  · refine pickF (decide_eq_false (by mem_news)) ?_
    obtain ⟨t, y, hs⟩ := snoc_of (s := s) (by mem_news)
    have htl : t.length + 1 = c := by rw [<- hsl, hs, List.length_append]; rfl
    have hg : w[t.length]? = some y := by
      have h1 : s[t.length]? = some y := by rw [hs, List.getElem?_append_right (Nat.le_refl _), Nat.sub_self]; rfl
      rw [<- ht, List.getElem?_take_of_lt (by mem_news)] at h1
      exact h1
    refine ye_cmp (ye_idx (ye_fld h0 rfl (ye_bin (ye_fld h0 rfl (ye_int (m_subi (m_idxs (i := t.length) (by mem_news) hg (by leaf_len) (ye_str (m_nes (m_bool ?_))))))))))
    have e : List.isSuffixOf [x] s = (x == y) := by
      rw [hs]
      have := suf_snoc [] t x y
      rw [List.nil_append] at this
      rw [this]
      have e2 : List.isSuffixOf [] t = true := List.isSuffixOf_iff_suffix.mpr List.nil_suffix
      rw [e2, Bool.true_and]
    rw [e] at h
    rw [one_eq]
    have e3 : (y == x) = (x == y) := by rw [Bool.eq_iff_iff, beq_iff_eq, beq_iff_eq]; exact eq_comm
    rw [e3]
    exact h
theorem cutEnd {s t m : List Nat} {f vk least : Nat} {rr : Nat} {z : Int} (hl : s.length <= 900) (hs : s = t ++ m) (hm : m ≠ []) (h0 : l.lookup 0 = some .obj) (hv : l.lookup vk = some (.int z)) (hf : (f < 35 /\ 18 <= f /\ f < 40))
    (hsp : ∀ Q : MV -> Option Ob -> Prop, Q (.bool (decide ((rr : Int) <= (t.length : Int)))) (some (mo s t.length 0 t.length s.length r1 r2)) -> Sp f [] (some (mo s t.length 0 t.length s.length r1 r2)) Q)
    (hR : rr <= t.length ↔ least <= t.length) (K : KN (lCut s m least) r1 r2 qq l) :
    YL 35 [.ite (.not (.meth0 f)) [.asgF 1 (.bin .sub (.fld 2) (.var vk)), .raise 1] [], .ex (.meth0 29)] l (some (mo s t.length 0 t.length s.length r1 r2)) (ct 1 qq) := by
  have hlen : s.length = t.length + m.length := by rw [hs, List.length_append]
  rw [show lCut s m least = if least <= t.length then t else s by rw [hs]; exact lCut_app t m least] at K
  refine yl_cons (ys_ite (ye_not (ye_meth0 h0 (hsp _ (m_bool ?_)) hf.1 hf.2)))
  by_cases hr : rr <= t.length
  · rw [if_pos (hR.mp hr)] at K
    refine pickF (by rw [decide_eq_true (show (rr : Int) <= (t.length : Int) by mem_news)]; rfl) (yl_nil (sq_next (yl_cons (ys_ex (ye_meth0 h0 ?_)))))
    rw [hlen]
    subst hs
    refine spD (by mem_news) (Nat.le_refl _) rfl (sq_next (yl_nil (ct_next ?_)))
    exact K _ _ _
  · rw [if_neg (fun h => hr (hR.mpr h))] at K
    refine pickT (by rw [decide_eq_false (show ¬ (rr : Int) <= (t.length : Int) by mem_news)]; rfl) (yl_cons (ys_asgF (ye_bin (ye_fld h0 rfl (ye_var hv (m_subi (p1 h0 (sq_next (yl_cons (ys_raise (sq_exc (sq_exc (ct_eq ?_)))))))))))))
    exact K _ _ _
noncomputable def t3x1 : List S := [.asgF 5 (.fld 1), .ite (.not (.meth1 24 (.str [105, 103]))) [.asgF 1 (.bin .sub (.fld 2) (.var 47)), .raise 1] [], .asgF 4 (.fld 1), .tryE [.ite (.bop false (.cmp .le (.fld 1) (.fld 3)) (.cmp .ne (.idx (.fld 0) (.bin .sub (.fld 1) (.int 1))) (.str [101]))) [.raise 2] [], .augF 1 .sub (.int 1), .asgF 1 (.bin .sub (.fld 2) (.var 47)), .raise 1] 2, .ite (.not (.meth0 31 )) [.asgF 1 (.bin .sub (.fld 2) (.var 47)), .raise 1] [], .ex (.meth0 29 )]
theorem t3x1_ok {s : List Nat} {two : Nat} {z : Int} {bra ket : Nat} (hl : s.length <= 900) (h0 : l.lookup 0 = some .obj) (hv : l.lookup 47 = some (.int z)) (hR : ∀ n, n <= s.length -> (r2 <= n ↔ two <= n))
    (K : KN (lCut s (if List.isSuffixOf [101, 105, 103] s then [] else lend s [[105, 103]] []) two) r1 r2 qq l) : YL 35 t3x1 l (some (mo s s.length 0 bra ket r1 r2)) (ct 1 qq) := by
  unfold t3x1
  refine yl_cons (ys_asgF (ye_fld h0 rfl (p5 h0 (sq_next (yl_cons (ys_ite (ye_not (ye_meth1 h0 (ye_str ?_)))))))))
  refine spE2 (by mem_news) (by decide) (Nat.le_refl _) (List.take_length) (fun hi => m_bool (pickF rfl (yl_nil (sq_next ?_)))) (fun hi => m_bool (pickT rfl ?_))
  · obtain ⟨t, hs⟩ := List.isSuffixOf_iff_suffix.mp hi
    have htl : s.length = t.length + 2 := by rw [<- hs, List.length_append]; rfl
    have heig : List.isSuffixOf [101, 105, 103] s = List.isSuffixOf [101] t := by
      rw [<- hs]
      have e1 : t ++ [105, 103] = (t ++ [105]) ++ [103] := by rw [List.append_assoc]; rfl
      rw [e1]
      have h1 := suf_snoc [101, 105] (t ++ [105]) 103 103
      have h2 := suf_snoc [101] t 105 105
      have h1' : List.isSuffixOf [101, 105, 103] (t ++ [105] ++ [103]) = (List.isSuffixOf [101, 105] (t ++ [105]) && (103 == 103)) := h1
      have h2' : List.isSuffixOf [101, 105] (t ++ [105]) = (List.isSuffixOf [101] t && (105 == 105)) := h2
      rw [h1', h2']; simp
    have hlend : lend s [[105, 103]] [] = [105, 103] := lend_of (List.mem_singleton.mpr rfl) ⟨t, hs⟩ fun b hb _ => by rw [List.mem_singleton.mp hb]; exact Nat.le_refl _
    have htake : s.take t.length = t := by rw [<- hs]; exact take_at _ _
    rw [heig, hlend] at K
    rw [show s.length - [105, 103].length = t.length by rw [htl]; rfl]
    refine yl_cons (ys_asgF (ye_fld h0 rfl (p4 h0 (sq_next (yl_cons (ys_try ?_))))))
    refine yl_cons (ys_ite (ye_ahead (by mem_news) h0 (by mem_news) htake (m_bool ?_)))
    cases he : List.isSuffixOf [101] t with
    | true =>
      rw [he, if_pos rfl, lCut_nil] at K
      refine pickF rfl (yl_nil (sq_next ?_))
      refine yl_cons (ys_augF (x := .int (t.length : Int)) h0 rfl (ye_int (m_subi (p1 h0 (sq_next ?_)))))
      refine yl_cons (ys_asgF (ye_bin (ye_fld h0 rfl (ye_var hv (m_subi (p1 h0 (sq_next (yl_cons (ys_raise (sq_exc (ct_ne (sq_exc (ct_eq ?_)) (by decide))))))))))))
      exact K _ _ _
    | false =>
      rw [he, if_neg (by decide)] at K
      refine pickT rfl (yl_cons (ys_raise (sq_exc (sq_exc (ct_eq (sq_next ?_))))))
      exact cutEnd (f := 31) (vk := 47) (rr := r2) hl hs.symm (by decide) h0 hv (by decide) (fun Q hq => sp31 hq) (hR _ (by mem_news)) K
  · have hno : lend s [[105, 103]] [] = [] := lend_no fun b hb hbs => by
      rw [List.mem_singleton.mp hb] at hbs
      rw [List.isSuffixOf_iff_suffix.mpr hbs] at hi; cases hi
    rw [hno] at K
    have e : (if List.isSuffixOf [101, 105, 103] s = true then ([] : List Nat) else []) = [] := by split <;> rfl
    rw [e, lCut_nil] at K
    refine yl_cons (ys_asgF (ye_bin (ye_fld h0 rfl (ye_var hv (m_subi (p1 h0 (sq_next (yl_cons (ys_raise (sq_exc (sq_exc (ct_eq ?_))))))))))))
    exact K _ _ _
noncomputable def t3x3 : List S := [.asgF 5 (.fld 1), .wh (.bool true) [.tryE [.ite (.not (.meth1 24 (.str [101, 114]))) [.raise 2] [], .brk] 2, .ite (.not (.meth1 24 (.str [101, 110]))) [.asgF 1 (.bin .sub (.fld 2) (.var 48)), .raise 1] [], .brk], .asgF 4 (.fld 1), .ite (.not (.meth0 30 )) [.asgF 1 (.bin .sub (.fld 2) (.var 48)), .raise 1] [], .ex (.meth0 29 )]
theorem t3x3_ok {s : List Nat} {one : Nat} {z : Int} {bra ket : Nat} (hl : s.length <= 900) (h0 : l.lookup 0 = some .obj) (hv : l.lookup 48 = some (.int z)) (hR : ∀ n, n <= s.length -> (r1 <= n ↔ one <= n))
    (K : KN (lCut s (lend s [[101, 114], [101, 110]] []) one) r1 r2 qq l) : YL 35 t3x3 l (some (mo s s.length 0 bra ket r1 r2)) (ct 1 qq) := by
  unfold t3x3
  refine yl_cons (ys_asgF (ye_fld h0 rfl (p5 h0 (sq_next (yl_cons (ys_wh (ye_bool (m_bool (pickT rfl ?_)))))))))
  refine yl_cons (ys_try (yl_cons (ys_ite (ye_not (ye_meth1 h0 (ye_str ?_))))))
  have fin2 : ∀ (t m : List Nat), s = t ++ m -> m ≠ [] -> lend s [[101, 114], [101, 110]] [] = m -> YL 35 [.asgF 4 (.fld 1), .ite (.not (.meth0 30 )) [.asgF 1 (.bin .sub (.fld 2) (.var 48)), .raise 1] [], .ex (.meth0 29 )] l (some (mo s t.length 0 bra s.length r1 r2)) (ct 1 qq) := by
    intro t m hs hm hle
    rw [hle] at K
    refine yl_cons (ys_asgF (ye_fld h0 rfl (p4 h0 (sq_next ?_))))
    exact cutEnd (f := 30) (vk := 48) (rr := r1) hl hs hm h0 hv (by decide) (fun Q hq => sp30 hq) (hR _ (by rw [hs, List.length_append]; mem_news)) K
  refine spE2 (by mem_news) (by decide) (Nat.le_refl _) (List.take_length) (fun hi => m_bool (pickF rfl (yl_nil (sq_next ?_)))) (fun hi => m_bool (pickT rfl ?_))
  · obtain ⟨t, hs⟩ := List.isSuffixOf_iff_suffix.mp hi
    have htl : s.length = t.length + 2 := by rw [<- hs, List.length_append]; rfl
    have hlend : lend s [[101, 114], [101, 110]] [] = [101, 114] := lend_of (by decide) ⟨t, hs⟩ fun b hb _ => by
      have : ∀ b ∈ [[101, 114], [101, 110]], b.length <= [101, 114].length := by decide
      exact this b hb
    rw [show s.length - [101, 114].length = t.length by rw [htl]; rfl]
    refine yl_cons (ys_brk (sq_brk (ct_brk (sq_brk (tn_brk (sq_next ?_))))))
    exact fin2 t _ hs.symm (by decide) hlend
  · refine yl_cons (ys_raise (sq_exc (sq_exc (ct_eq (sq_next (yl_cons (ys_ite (ye_not (ye_meth1 h0 (ye_str ?_))))))))))
    refine spE2 (by mem_news) (by decide) (Nat.le_refl _) (List.take_length) (fun hi2 => m_bool (pickF rfl (yl_nil (sq_next ?_)))) (fun hi2 => m_bool (pickT rfl ?_))
    · obtain ⟨t, hs⟩ := List.isSuffixOf_iff_suffix.mp hi2
      have htl : s.length = t.length + 2 := by rw [<- hs, List.length_append]; rfl
      have hlend : lend s [[101, 114], [101, 110]] [] = [101, 110] := lend_of (by decide) ⟨t, hs⟩ fun b hb _ => by
        have : ∀ b ∈ [[101, 114], [101, 110]], b.length <= [101, 110].length := by decide
        exact this b hb
      rw [show s.length - [101, 110].length = t.length by rw [htl]; rfl]
      refine yl_cons (ys_brk (sq_brk (tn_brk (sq_next ?_))))
      exact fin2 t _ hs.symm (by decide) hlend
    · have hno : lend s [[101, 114], [101, 110]] [] = [] := lend_no fun b hb hbs => by
        simp only [List.mem_cons, List.not_mem_nil, or_false] at hb
        rcases hb with rfl | rfl
        · rw [List.isSuffixOf_iff_suffix.mpr hbs] at hi; cases hi
        · rw [List.isSuffixOf_iff_suffix.mpr hbs] at hi2; cases hi2
      rw [hno, lCut_nil] at K
      refine yl_cons (ys_asgF (ye_bin (ye_fld h0 rfl (ye_var hv (m_subi (p1 h0 (sq_next (yl_cons (ys_raise (sq_exc (sq_exc (tn_exc (sq_exc (ct_eq ?_))))))))))))))
      exact K _ _ _
noncomputable def t3x4 : List S := [.asgF 5 (.fld 1), .ite (.cmp .eq (.meth1 26 (.cattr 9)) (.int 0)) [.asgF 1 (.bin .sub (.fld 2) (.var 49)), .raise 1] [], .asgF 4 (.fld 1), .ite (.not (.meth0 31 )) [.asgF 1 (.bin .sub (.fld 2) (.var 49)), .raise 1] [], .ex (.meth0 29 )]
theorem t3x4_ok {s : List Nat} {two : Nat} {z : Int} {bra ket : Nat} (hl : s.length <= 900) (hx : ∀ x ∈ s, x < 1000) (h0 : l.lookup 0 = some .obj) (hv : l.lookup 49 = some (.int z)) (hR : ∀ n, n <= s.length -> (r2 <= n ↔ two <= n))
    (K : KN (lCut s (lend s [[105, 103], [108, 105, 99, 104]] []) two) r1 r2 qq l) : YL 35 t3x4 l (some (mo s s.length 0 bra ket r1 r2)) (ct 1 qq) := by
  unfold t3x4
  refine yl_cons (ys_asgF (ye_fld h0 rfl (p5 h0 (sq_next (yl_cons (ys_ite (ye_cmp (ye_meth1 h0 (ye_cattr (x := .tab tb5) rfl ?_)))))))))
  refine spB te5 (by mem_news) (Nat.le_refl _) hx (List.take_length) (fun b hb t ht hlt => ?_) (fun hlt => ?_)
  · have hb0 : decide (b.res = 0) = false := by
      have : ∀ a ∈ tb5, decide (a.res = 0) = false := by decide
      exact this b hb
    have hbne : b.s ≠ [] := by
      have : ∀ a ∈ tb5, a.s ≠ [] := by decide
      exact this b hb
    rw [hlt] at K
    refine ye_int (m_eqi (m_bool (pickF hb0 (yl_nil (sq_next (yl_cons (ys_asgF (ye_fld h0 rfl (p4 h0 (sq_next ?_))))))))))
    exact cutEnd (f := 31) (vk := 49) (rr := r2) hl ht hbne h0 hv (by decide) (fun Q hq => sp31 hq) (hR _ (by rw [ht, List.length_append]; mem_news)) K
  · rw [hlt, lCut_nil] at K
    refine ye_int (m_eqi (m_bool (pickT rfl ?_)))
    refine yl_cons (ys_asgF (ye_bin (ye_fld h0 rfl (ye_var hv (m_subi (p1 h0 (sq_next (yl_cons (ys_raise (sq_exc (sq_exc (ct_eq ?_))))))))))))
    exact K _ _ _
end
noncomputable def t3a : S := .ite (.cmp .eq (.var 44) (.int 1)) [.ex (.meth0 29 ), .asg 47 (.bin .sub (.fld 2) (.fld 1)), .tryE t3x1 1] [.ite (.cmp .eq (.var 44) (.int 2)) [.tryE [.ite (.bop false (.cmp .le (.fld 1) (.fld 3)) (.cmp .ne (.idx (.fld 0) (.bin .sub (.fld 1) (.int 1))) (.str [101]))) [.raise 1] [], .augF 1 .sub (.int 1), .raise 0] 1, .ex (.meth0 29 )] [.ite (.cmp .eq (.var 44) (.int 3)) [.ex (.meth0 29 ), .asg 48 (.bin .sub (.fld 2) (.fld 1)), .tryE t3x3 1] [.ex (.meth0 29 ), .asg 49 (.bin .sub (.fld 2) (.fld 1)), .tryE t3x4 1]]]
noncomputable def sfx3 : List S := [.asgF 5 (.fld 1), .asg 44 (.meth1 26 (.cattr 10)), .ite (.cmp .eq (.var 44) (.int 0)) [.raise 0] [], .asgF 4 (.fld 1), .ite (.not (.meth0 31 )) [.raise 0] [], t3a]
set_option maxHeartbeats 1000000 in
theorem sfx3_ok {w : List Nat} {one two r1 r2 bra ket : Nat} {l : Lc} {q : KS} (hw : w.length <= 500) (hx : ∀ x ∈ w, x < 1000) (hR1 : ∀ n, n < w.length -> (r1 <= n ↔ one <= n)) (hR2 : ∀ n, n < w.length -> (r2 <= n ↔ two <= n)) (h0 : l.lookup 0 = some .obj) (h46 : l.lookup 46 = some (.int 0))
    (K : KK 46 (lThird w one two) r1 r2 q) : YL 35 sfx3 l (some (mo w w.length 0 bra ket r1 r2)) q := by
  unfold sfx3
  refine yl_cons (ys_asgF (ye_fld h0 rfl (p5 h0 (sq_next (yl_cons (ys_asg (ye_meth1 h0 (ye_cattr (x := .tab tb6) rfl ?_))))))))
  refine spB te6 (by mem_news) (Nat.le_refl _) hx (List.take_length) (fun a ha s hs hl => ?_) (fun hl => ?_)
  · have hane : 0 < a.s.length := by
      have : ∀ a ∈ tb6, 0 < a.s.length := by decide
      exact this a ha
    have hwl : w.length = s.length + a.s.length := by rw [hs, List.length_append]
    rw [hwl]
    subst hs
    rw [hwl] at hw hR1 hR2
    have hxs : ∀ x ∈ s, x < 1000 := fun x h => hx x (List.mem_append_left _ h)
    have hR1s : ∀ n, n <= s.length -> (r1 <= n ↔ one <= n) := fun n hn => hR1 n (by mem_news)
    have hR2s : ∀ n, n <= s.length -> (r2 <= n ↔ two <= n) := fun n hn => hR2 n (by mem_news)
    have hres : decide (a.res = 0) = false := by
      have : ∀ a ∈ tb6, decide (a.res = 0) = false := by decide
      exact this a ha
    reads_via
    refine pickF hres ?_
    reads_via
    refine sp31 ?_
    rw [lThird_s hl] at K
    by_cases hr2 : r2 <= s.length
    · have htwo : two <= s.length := (hR2s _ (Nat.le_refl _)).mp hr2
      rw [decide_eq_false (show ¬ s.length < two by mem_news)] at K
      refine m_bool (pickF (show (!decide ((r2 : Int) <= (s.length : Int))) = false by rw [decide_eq_true (show (r2 : Int) <= (s.length : Int) by mem_news)]; rfl) (yl_nil (sq_next ?_)))
      have g46 : (upd 44 (.int a.res) l).lookup 46 = some (.int 0) := by got_up
      have g0 : (upd 44 (.int a.res) l).lookup 0 = some .obj := by got_up
      have g44 : (upd 44 (.int a.res) l).lookup 44 = some (.int a.res) := by got_up
      generalize upd 44 (.int a.res) l = l1 at g46 g0 g44
      have ty1 : a.res = 1 -> KK 46 (lCut s (if List.isSuffixOf [101, 105, 103] s then [] else lend s [[105, 103]] []) two) r1 r2 q -> YL 35 [t3a] l1 (some (mo (s ++ a.s) s.length 0 s.length (s.length + a.s.length) r1 r2)) q := fun hr K => by
        rw [hr] at g44
        unfold t3a
        refine yl_cons (ys_ite (ye_cmp (ye_var g44 (ye_int (m_eqi (m_bool (pickT rfl ?_)))))))
        refine yl_cons (ys_ex (ye_meth0 g0 (spD (by mem_news) (Nat.le_refl _) rfl (sq_next ?_))))
        refine yl_cons (ys_asg (ye_bin (ye_fld g0 rfl (ye_fld g0 rfl (m_subi (sq_next (yl_cons (ys_try ?_))))))))
        refine t3x1_ok (by mem_news) (by got_up) lu_eq hR2s fun c b k => sq_next (yl_nil (sq_next (yl_nil ?_)))
        exact K .next _ c b k (.inl rfl) (by got_up) (by got_up)
      have ty2 : a.res = 2 -> KK 46 (if List.isSuffixOf [101] s then s ++ a.s else s) r1 r2 q -> YL 35 [t3a] l1 (some (mo (s ++ a.s) s.length 0 s.length (s.length + a.s.length) r1 r2)) q := fun hr K => by
        rw [hr] at g44
        unfold t3a
        refine yl_cons (ys_ite (ye_cmp (ye_var g44 (ye_int (m_eqi (m_bool (pickF rfl ?_)))))))
        refine yl_cons (ys_ite (ye_cmp (ye_var g44 (ye_int (m_eqi (m_bool (pickT rfl ?_)))))))
        refine yl_cons (ys_try (yl_cons (ys_ite (ye_ahead (s := s) (by rw [List.length_append]; mem_news) g0 (by rw [List.length_append]; mem_news) (take_at _ _) (m_bool ?_)))))
        cases he : List.isSuffixOf [101] s with
        | true =>
          rw [he] at K
          refine pickF rfl (yl_nil (sq_next ?_))
          refine yl_cons (ys_augF (x := .int (s.length : Int)) g0 rfl (ye_int (m_subi (p1 g0 (sq_next (yl_cons (ys_raise (sq_exc (ct_ne (sq_exc (sq_exc (sq_exc ?_))) (by decide))))))))))
          exact K (.exc 0) _ _ _ _ (.inr rfl) g0 g46
        | false =>
          rw [he] at K
          refine pickT rfl (yl_cons (ys_raise (sq_exc (sq_exc (ct_eq (sq_next ?_))))))
          refine yl_cons (ys_ex (ye_meth0 g0 (spD (by mem_news) (Nat.le_refl _) rfl (sq_next (yl_nil (sq_next (yl_nil (sq_next (yl_nil ?_)))))))))
          exact K .next _ _ _ _ (.inl rfl) g0 g46
      have ty3 : a.res = 3 -> KK 46 (lCut s (lend s [[101, 114], [101, 110]] []) one) r1 r2 q -> YL 35 [t3a] l1 (some (mo (s ++ a.s) s.length 0 s.length (s.length + a.s.length) r1 r2)) q := fun hr K => by
        rw [hr] at g44
        unfold t3a
        refine yl_cons (ys_ite (ye_cmp (ye_var g44 (ye_int (m_eqi (m_bool (pickF rfl ?_)))))))
        refine yl_cons (ys_ite (ye_cmp (ye_var g44 (ye_int (m_eqi (m_bool (pickF rfl ?_)))))))
        refine yl_cons (ys_ite (ye_cmp (ye_var g44 (ye_int (m_eqi (m_bool (pickT rfl ?_)))))))
        refine yl_cons (ys_ex (ye_meth0 g0 (spD (by mem_news) (Nat.le_refl _) rfl (sq_next ?_))))
        refine yl_cons (ys_asg (ye_bin (ye_fld g0 rfl (ye_fld g0 rfl (m_subi (sq_next (yl_cons (ys_try ?_))))))))
        refine t3x3_ok (by mem_news) (by got_up) lu_eq hR1s fun c b k => ?_
        reads_via
        exact K .next _ c b k (.inl rfl) (by got_up) (by got_up)
      have ty4 : a.res = 4 -> KK 46 (lCut s (lend s [[105, 103], [108, 105, 99, 104]] []) two) r1 r2 q -> YL 35 [t3a] l1 (some (mo (s ++ a.s) s.length 0 s.length (s.length + a.s.length) r1 r2)) q := fun hr K => by
        rw [hr] at g44
        unfold t3a
        refine yl_cons (ys_ite (ye_cmp (ye_var g44 (ye_int (m_eqi (m_bool (pickF rfl ?_)))))))
        refine yl_cons (ys_ite (ye_cmp (ye_var g44 (ye_int (m_eqi (m_bool (pickF rfl ?_)))))))
        refine yl_cons (ys_ite (ye_cmp (ye_var g44 (ye_int (m_eqi (m_bool (pickF rfl ?_)))))))
        refine yl_cons (ys_ex (ye_meth0 g0 (spD (by mem_news) (Nat.le_refl _) rfl (sq_next ?_))))
        refine yl_cons (ys_asg (ye_bin (ye_fld g0 rfl (ye_fld g0 rfl (m_subi (sq_next (yl_cons (ys_try ?_))))))))
        refine t3x4_ok (by mem_news) hxs (by got_up) lu_eq hR2s fun c b k => ?_
        reads_via
        exact K .next _ c b k (.inl rfl) (by got_up) (by got_up)
      simp only [tb6, List.mem_cons, List.not_mem_nil, or_false] at ha
      rcases ha with rfl | rfl | rfl | rfl | rfl | rfl | rfl | rfl
      · exact ty1 rfl K
      · exact ty2 rfl K
      · exact ty1 rfl K
      · exact ty3 rfl K
      · exact ty2 rfl K
      · exact ty2 rfl K
      · exact ty3 rfl K
      · exact ty4 rfl K
    · have htwo : ¬ two <= s.length := fun h => hr2 ((hR2s _ (Nat.le_refl _)).mpr h)
      rw [decide_eq_true (show s.length < two by mem_news), Bool.or_true, if_pos rfl] at K
      refine m_bool (pickT (show (!decide ((r2 : Int) <= (s.length : Int))) = true by rw [decide_eq_false (show ¬ (r2 : Int) <= (s.length : Int) by mem_news)]; rfl) (yl_cons (ys_raise (sq_exc (sq_exc ?_)))))
      exact K (.exc 0) _ _ _ _ (.inr rfl) (by got_up) (by got_up)
  · have hid : lThird w one two = w := by
      unfold lThird
      dsimp only
      rw [hl]; rfl
    rw [hid] at K
    reads_via
    refine pickT rfl ?_
    reads_via
    exact K (.exc 0) _ _ _ _ (.inr rfl) (by got_up) (by got_up)
noncomputable def sfx4 : List S := [.asgF 5 (.fld 1), .ite (.cmp .eq (.meth1 26 (.cattr 11)) (.int 0)) [.raise 0] [], .asgF 4 (.fld 1), .ite (.cmp .le (.fld 1) (.fld 3)) [.raise 0] [], .augF 1 .sub (.int 1), .ite (.cmp .le (.fld 1) (.fld 3)) [.raise 0] [], .ex (.meth0 29 )]
theorem sfx4_ok {w : List Nat} {r1 r2 bra ket : Nat} {l : Lc} {q : KS} (hw : w.length <= 500) (hx : ∀ x ∈ w, x < 1000) (h0 : l.lookup 0 = some .obj) (h50 : l.lookup 50 = some (.int 0)) (K : KK 50 (lFourth w) r1 r2 q) : YL 35 sfx4 l (some (mo w w.length 0 bra ket r1 r2)) q := by
  unfold sfx4
  refine yl_cons (ys_asgF (ye_fld h0 rfl (p5 h0 (sq_next (yl_cons (ys_ite (ye_cmp (ye_meth1 h0 (ye_cattr (x := .tab tb7) rfl ?_)))))))))
  refine spB te7 (by mem_news) (Nat.le_refl _) hx (List.take_length) (fun a ha s hs hl => ?_) (fun hl => ?_)
  · have hwl : w.length = s.length + a.s.length := by rw [hs, List.length_append]
    rw [hwl]
    subst hs
    rw [hwl] at hw
    have hres : decide (a.res = 0) = false := by
      have : ∀ a ∈ tb7, decide (a.res = 0) = false := by decide
      exact this a ha
    have hfo : lFourth (s ++ a.s) = if decide (2 <= s.length) then s else s ++ a.s := by
      unfold lFourth
      dsimp only
      rw [hl, hwl, show s.length + a.s.length - a.s.length = s.length by mem_news, take_at]
    rw [hfo] at K
    refine ye_int (m_eqi (m_bool (pickF hres (yl_nil (sq_next ?_)))))
    reads_via
    by_cases hz : s.length = 0
    · rw [decide_eq_false (show ¬ 2 <= s.length by mem_news)] at K
      refine pickT (decide_eq_true (by mem_news)) ?_
      reads_via
      exact K (.exc 0) _ _ _ _ (.inr rfl) h0 h50
    · refine pickF (decide_eq_false (by mem_news)) ?_
      refine yl_nil (sq_next (yl_cons (ys_augF (x := .int (s.length : Int)) h0 rfl (ye_int (m_subi (p1 h0 (sq_next ?_)))))))
      rw [show (s.length : Int) - 1 = ((s.length - 1 : Nat) : Int) by mem_news]
      reads_via
      by_cases h1 : s.length = 1
      · rw [decide_eq_false (show ¬ 2 <= s.length by mem_news)] at K
        refine pickT (decide_eq_true (by mem_news)) ?_
        reads_via
        exact K (.exc 0) _ _ _ _ (.inr rfl) h0 h50
      · rw [decide_eq_true (show 2 <= s.length by mem_news)] at K
        refine pickF (decide_eq_false (by mem_news)) ?_
        reads_via
        refine spD (c := s.length - 1) (by mem_news) (by mem_news) rfl ?_
        reads_via
        exact K .next _ _ _ _ (.inl rfl) h0 h50
  · have hid : lFourth w = w := by
      unfold lFourth
      dsimp only
      rw [hl, List.length_nil, Nat.sub_zero, List.take_length]
      split <;> rfl
    rw [hid] at K
    refine ye_int (m_eqi (m_bool (pickT rfl ?_)))
    reads_via
    exact K (.exc 0) _ _ _ _ (.inr rfl) h0 h50
theorem b35_eq : bodyOf 35 = [.asg 39 (.bin .sub (.fld 2) (.fld 1)), .tryE sfx1 0, .asgF 1 (.bin .sub (.fld 2) (.var 39)), .asg 41 (.bin .sub (.fld 2) (.fld 1)), .tryE sfx2 0, .asgF 1 (.bin .sub (.fld 2) (.var 41)), .asg 46 (.bin .sub (.fld 2) (.fld 1)), .tryE sfx3 0, .asgF 1 (.bin .sub (.fld 2) (.var 46)), .asg 50 (.bin .sub (.fld 2) (.fld 1)), .tryE sfx4 0, .asgF 1 (.bin .sub (.fld 2) (.var 50)), .ret (.bool true)] := rfl
set_option tactic.hygienic true in
theorem lFirst_le (w : List Nat) (one : Nat) : (lFirst w one).length <= w.length := by
  have hle := lend_len w en0
  unfold lFirst
  dsimp only
  generalize lend w en0 [] = e at hle ⊢
  split
  · mem_news
  · split
    · rename_i h
      have : 2 <= e.length := by
        simp only [List.contains_iff_mem, List.mem_cons, List.not_mem_nil, or_false] at h
        rcases h with rfl | rfl <;> decide
      simp only [List.length_append, List.length_take, List.length_cons, List.length_nil]; mem_news
    · repeat' split
      all_goals first
        | mem_news
        | (simp only [List.length_append, List.length_take, List.length_cons, List.length_nil]; mem_news)
theorem lFirst_mem {w : List Nat} {one x : Nat} (h : x ∈ lFirst w one) : x ∈ w \/ x = 108 := by
  unfold lFirst at h
  dsimp only at h
  generalize lend w en0 [] = e at h
  repeat' split at h
  all_goals first
    | exact .inl h
    | exact .inl (List.mem_of_mem_take h)
    | exact .inl (List.mem_of_mem_take (List.mem_of_mem_take h))
    | (rcases List.mem_append.mp h with h | h
       · exact .inl (List.mem_of_mem_take h)
       · exact .inr (List.mem_singleton.mp h))
theorem lSecond_mem {w : List Nat} {one x : Nat} (h : x ∈ lSecond w one) : x ∈ w := by
  unfold lSecond at h
  dsimp only at h
  generalize lend w en1 [] = e at h
  repeat' split at h
  all_goals first
    | exact h
    | exact List.mem_of_mem_take h
theorem lCut_mem {s m : List Nat} {k x : Nat} (h : x ∈ lCut s m k) : x ∈ s := by
  unfold lCut at h
  split at h
  · exact List.mem_of_mem_take h
  · exact h
theorem lThird_mem {w : List Nat} {one two x : Nat} (h : x ∈ lThird w one two) : x ∈ w := by
  unfold lThird at h
  dsimp only at h
  split at h
  · exact h
  · split at h
    · split at h
      · exact h
      · exact List.mem_of_mem_take h
    · split at h
      · exact List.mem_of_mem_take (lCut_mem h)
      · split at h
        · exact List.mem_of_mem_take (lCut_mem h)
        · exact List.mem_of_mem_take (lCut_mem h)
theorem lFourth_mem {w : List Nat} {x : Nat} (h : x ∈ lFourth w) : x ∈ w := by
  unfold lFourth at h
  dsimp only at h
  split at h
  · exact List.mem_of_mem_take h
  · exact h
theorem jn_lt : ∀ (a b : Bool) (w : List Nat), (∀ x ∈ w, x < 1000) -> ∀ x ∈ jn a b w, x < 1000
  | a, b, [], h, x, hx => by
    have e : jn a b [] = [] := by cases a <;> rfl
    rw [e] at hx; cases hx
  | true, b, c :: r, h, x, hx => jn_lt false false r (fun x hx => h x (List.mem_cons_of_mem _ hx)) x hx
  | false, b, c :: r, h, x, hx => by
    have hr : ∀ x ∈ r, x < 1000 := fun x hx => h x (List.mem_cons_of_mem _ hx)
    unfold jn at hx
    split at hx
    · rcases List.mem_cons.mp hx with rfl | hx
      · unfold uml
        split
        · decide
        · split <;> decide
      · exact jn_lt true false r hr x hx
    · split at hx
      · rcases List.mem_cons.mp hx with rfl | hx
        · decide
        · rcases List.mem_cons.mp hx with rfl | hx
          · decide
          · exact jn_lt false false r hr x hx
      · rcases List.mem_cons.mp hx with rfl | hx
        · exact h _ (List.mem_cons_self ..)
        · exact jn_lt false _ r hr x hx
section
variable {r1 r2 : Nat}
theorem glue {vk vk2 : Nat} {X : List Nat} {B rest : List S} {q0 : KS} (h2 : vk2 ≠ 0) (hX : X.length <= 500) (K : ∀ (l' : Lc) (bra ket : Nat), l'.lookup 0 = some .obj -> l'.lookup vk2 = some (.int 0) -> YL 35 (.tryE B 0 :: rest) l' (some (mo X X.length 0 bra ket r1 r2)) q0) :
    KK vk X r1 r2 (ct 0 (sq (fun l o => YL 35 (.asgF 1 (.bin .sub (.fld 2) (.var vk)) :: .asg vk2 (.bin .sub (.fld 2) (.fld 1)) :: .tryE B 0 :: rest) l o q0) q0)) := by
  intro fl l' c bra ket hfl h0 hv
  have main : YL 35 (.asgF 1 (.bin .sub (.fld 2) (.var vk)) :: .asg vk2 (.bin .sub (.fld 2) (.fld 1)) :: .tryE B 0 :: rest) l' (some ⟨some X, some c, some X.length, some (0 : Nat), some bra, some ket, r1, r2⟩) q0 := by
    refine yl_cons (ys_asgF (ye_bin (ye_fld h0 rfl (ye_var hv (m_subi (p1 h0 (sq_next ?_)))))))
    rw [Int.sub_zero]
    refine yl_cons (ys_asg (ye_bin (ye_fld h0 rfl (ye_fld h0 rfl (m_subi (sq_next ?_))))))
    rw [Int.sub_self]
    exact K _ bra ket (by rw [lookup_upd, if_neg h2.symm]; exact h0) lu_eq
  rcases hfl with rfl | rfl
  · exact ct_next (sq_next main)
  · exact ct_eq (sq_next main)
set_option maxHeartbeats 1000000 in
theorem sp35 {w : List Nat} {one two bra ket : Nat} {Q : MV -> Option Ob -> Prop} (hw : w.length <= 500) (hx : ∀ x ∈ w, x < 1000) (h1 : 3 <= one) (hR1 : ∀ n, n < w.length -> (r1 <= n ↔ one <= n)) (hR2 : ∀ n, n < w.length -> (r2 <= n ↔ two <= n))
    (h : ∀ c bra ket : Nat, Q (.bool true) (some (mo (lSteps w one two) c 0 bra ket r1 r2))) : Sp 35 [] (some (mo w w.length 0 bra ket r1 r2)) Q := by
  unfold lSteps at h
  have m1 : ∀ x ∈ lFirst w one, x < 1000 := fun x hxm => by
    rcases lFirst_mem hxm with h | rfl
    · exact hx x h
    · decide
  have n1 := lFirst_le w one
  have m2 : ∀ x ∈ lSecond (lFirst w one) one, x < 1000 := fun x hxm => m1 x (lSecond_mem hxm)
  have n2 := lSecond_len (lFirst w one) one
  have m3 : ∀ x ∈ lThird (lSecond (lFirst w one) one) one two, x < 1000 := fun x hxm => m2 x (lThird_mem hxm)
  have n3 := lThird_len (lSecond (lFirst w one) one) one two
  have n4 := lFourth_len (lThird (lSecond (lFirst w one) one) one two)
  refine sp_fin ?_
  rw [b35_eq]
  refine yl_cons (ys_asg (ye_bin (ye_fld rfl rfl (ye_fld rfl rfl (m_subi (sq_next ?_))))))
  rw [Int.sub_self]
  refine yl_cons (ys_try ?_)
  refine sfx1_ok hw hx h1 hR1 (by got_up) (by got_up) ?_
  refine glue (by decide) (by mem_news) fun l' bra ket h0 hv => ?_
  refine yl_cons (ys_try ?_)
  refine sfx2_ok (by mem_news) m1 h1 (fun n hn => hR1 n (by mem_news)) h0 hv ?_
  refine glue (by decide) (by mem_news) fun l' bra ket h0 hv => ?_
  refine yl_cons (ys_try ?_)
  refine sfx3_ok (by mem_news) m2 (fun n hn => hR1 n (by mem_news)) (fun n hn => hR2 n (by mem_news)) h0 hv ?_
  refine glue (by decide) (by mem_news) fun l' bra ket h0 hv => ?_
  refine yl_cons (ys_try ?_)
  refine sfx4_ok (by mem_news) m3 h0 hv ?_
  intro fl l' c bra ket hfl h0 hv
  have main : YL 35 [.asgF 1 (.bin .sub (.fld 2) (.var 50)), .ret (.bool true)] l' (some ⟨some (lFourth (lThird (lSecond (lFirst w one) one) one two)), some c, some (lFourth (lThird (lSecond (lFirst w one) one) one two)).length, some (0 : Nat), some bra, some ket, r1, r2⟩) (fin Q) := by
    refine yl_cons (ys_asgF (ye_bin (ye_fld h0 rfl (ye_var hv (m_subi (p1 h0 (sq_next ?_)))))))
    rw [Int.sub_zero]
    exact yl_cons (ys_ret (ye_bool (sq_ret (fin_ret (h _ _ _)))))
  rcases hfl with rfl | rfl
  · exact ct_next (sq_next main)
  · exact ct_eq (sq_next main)
end
section
variable {w : List Nat}
theorem sp36 {bra ket : Nat} {q1 q2 : Int} {Q : MV -> Option Ob -> Prop} (hw : w.length <= 200) (hx : ∀ x ∈ w, x < 1000) (h : ∀ c bra ket r1 r2 : Nat, Q (.bool true) (some (mo (lStem w) c 0 bra ket r1 r2))) : Sp 36 [] (some (mo w 0 0 bra ket q1 q2)) Q := by
  unfold lStem at h
  dsimp only at h
  have hm := mark_len false w
  have hv := jn_len false false (mark false w)
  refine sp_fin ?_
  show YL 36 b36 _ _ _
  unfold b36
  refine yl_cons (ys_asg (ye_fld rfl rfl (sq_next (yl_cons (ys_ex (ye_meth0 (by got_up) ?_))))))
  have hch : ∀ x ∈ jn false false (mark false w), x < 1000 := jn_lt false false _ (mark_lt false w hx)
  refine sp32 hw hx fun c bra ket hc => sq_next ?_
  generalize jn false false (mark false w) = v at h hv hch ⊢
  refine yl_cons (ys_asgF (ye_var (x := .int ((0 : Nat) : Int)) (by got_up) (p1 (by got_up) (sq_next ?_))))
  refine yl_cons (ys_asg (ye_fld (by got_up) rfl (sq_next (yl_cons (ys_ex (ye_meth0 (by got_up) ?_))))))
  refine sp33 (by mem_news) fun b c r1 r2 hc hR1 hR2 => sq_next ?_
  generalize hone : max (past v 0) 3 = one at h hR1
  generalize past v (past v 0) = two at h hR2
  refine yl_cons (ys_asgF (ye_var (x := .int ((0 : Nat) : Int)) (by got_up) (p1 (by got_up) (sq_next ?_))))
  refine yl_cons (ys_asgF (ye_fld (by got_up) rfl (p3 (by got_up) (sq_next ?_))))
  refine yl_cons (ys_asgF (ye_fld (by got_up) rfl (p1 (by got_up) (sq_next (yl_cons (ys_ex (ye_meth0 (by got_up) ?_)))))))
  have l1 := lFirst_le v one
  have l2 := lSecond_len (lFirst v one) one
  have l3 := lThird_len (lSecond (lFirst v one) one) one two
  have l4 := lFourth_len (lThird (lSecond (lFirst v one) one) one two)
  refine sp35 (w := v) (one := one) (two := two) (by mem_news) hch (by mem_news) hR1 hR2 fun c bra ket => sq_next ?_
  refine yl_cons (ys_asgF (ye_fld (by got_up) rfl (p1 (by got_up) (sq_next ?_))))
  refine yl_cons (ys_asg (ye_fld (by got_up) rfl (sq_next (yl_cons (ys_ex (ye_meth0 (by got_up) ?_))))))
  refine sp34 (by unfold lSteps; mem_news) (fun x hxm => ?_) fun c bra ket hc => sq_next ?_
  · unfold lSteps at hxm
    rcases lFirst_mem (lSecond_mem (lThird_mem (lFourth_mem hxm))) with h | rfl
    · exact hch x h
    · decide
  · refine yl_cons (ys_asgF (ye_var (x := .int ((0 : Nat) : Int)) (by got_up) (p1 (by got_up) (sq_next ?_))))
    exact yl_cons (ys_ret (ye_bool (sq_ret (fin_ret (h _ _ _ _ _)))))
theorem sp37 {cur : Option (List Nat)} {c L lb bra ket : Option Int} {q1 q2 : Int} {Q : MV -> Option Ob -> Prop} (hw : w.length <= 200) (hx : ∀ x ∈ w, x < 1000) (h : ∀ c bra ket r1 r2 : Nat, Q (.str (lStem w)) (some (mo (lStem w) c 0 bra ket r1 r2))) : Sp 37 [.str w] (some ⟨cur, c, L, lb, bra, ket, q1, q2⟩) Q := by
  refine sp_fin ?_
  show YL 37 b37 _ _ _
  unfold b37
  refine yl_cons (ys_ex (ye_meth1 rfl (ye_var rfl (sp18 (by mem_news) (sq_next ?_)))))
  refine yl_cons (ys_ex (ye_meth0 rfl (sp36 hw hx fun c bra ket r1 r2 => sq_next ?_)))
  exact yl_cons (ys_ret (ye_meth0 rfl (sp19 (sq_ret (fin_ret (h _ _ _ _ _))))))
theorem row_loop {K : List (List Nat) -> Option Ob -> Prop} : ∀ (row : List (List Nat)) (acc : List (List Nat)) (ob : Ob), (∀ x ∈ row, x.length <= 200 /\ ∀ c ∈ x, c < 1000) -> (∀ ob, K (acc ++ row.map lStem) (some ob)) -> compL (trW (OA 38)) 4 (row.map .str) acc (some ob) K
  | [], acc, ob, _, h => by
    have := h ob
    rw [List.map_nil, List.append_nil] at this; exact this
  | x :: r, acc, ob, hx, h => by
    obtain ⟨h1, h2⟩ := hx x (List.mem_cons_self ..)
    refine ⟨.str x, rfl, rfl, ?_⟩
    obtain ⟨cur, c, L, lb, bra, ket, q1, q2⟩ := ob
    refine call_sp (sp37 (Q := fun y o => ∃ q, y = .str q /\ compL (trW (OA 38)) 4 (r.map .str) (acc ++ [q]) o K) h1 h2 fun c bra ket r1 r2 => ⟨_, rfl, ?_⟩)
    refine row_loop r _ _ (fun y hy => hx y (List.mem_cons_of_mem _ hy)) fun ob => ?_
    have := h ob
    rw [List.append_assoc]; exact this
theorem sp38 {row : List (List Nat)} {ob : Ob} {Q : MV -> Option Ob -> Prop} (hl : row.length <= 100) (hx : ∀ x ∈ row, x.length <= 200 /\ ∀ c ∈ x, c < 1000) (h : ∀ ob, Q (.strs (row.map lStem)) (some ob)) : Sp 38 [.strs row] (some ob) Q := by
  refine Sp.of ?_
  unfold Den
  rw [if_pos rfl]
  exact ⟨row, rfl, Nat.le_trans hl (by decide), row_loop row [] ob hx fun ob => h ob⟩
theorem sp39 {Q : MV -> Option Ob -> Prop} (h : ∀ ob, Q .none (some ob)) : Sp 39 [] (some ob0) Q := by
  refine sp_fin ?_
  show YL 39 b39 _ _ _
  unfold b39 ob0
  exact yl_cons (ys_ex (ye_meth1 rfl (ye_str (sp18 (by decide) (sq_next (yl_nil (fin_next (h _))))))))
theorem law_loop {ob : Ob} {K : List (List Nat) -> Option Ob -> Prop} : ∀ (row : List (List Nat)) (acc : List (List Nat)), (∀ x ∈ row, x.length <= 200) -> K (acc ++ row.map lStem) (some ob) -> compL (VE Gst (OA 40) (.call1 16 (.var 55))) 55 (row.map .str) acc (some ob) K
  | [], acc, _, h => by
    rw [List.map_nil, List.append_nil] at h; exact h
  | x :: r, acc, hx, h => by
    show YE 40 (.call1 16 (.var 55)) [(55, .str x)] (some ob) fun y l o' => ∃ q, y = .str q /\ compL (VE Gst (OA 40) (.call1 16 (.var 55))) 55 (r.map .str) (acc ++ [q]) o' K
    refine ye_call1 (ye_var rfl (sp16 (hx x (List.mem_cons_self ..)) ⟨_, rfl, ?_⟩))
    refine law_loop r _ (fun y hy => hx y (List.mem_cons_of_mem _ hy)) ?_
    rw [List.append_assoc]; exact h
end
theorem law_ok : LawOk ans := by
  intro script hs
  have hd1 := drawn_ok (most := 20) (script.take 20) [] (by decide) (by simp)
  have hd2 := drawn_ok (most := 8) ((script.drop 20).take 8) [] (by decide) (by simp)
  generalize hw : drawn 20 [] (script.take 20) = w at hd1
  generalize hr : drawn 8 [] ((script.drop 20).take 8) = v at hd2
  have hrow : ∀ x ∈ [v, w.take 4], x.length <= 200 /\ ∀ c ∈ x, c < 1000 := fun x hx => by
    simp only [List.mem_cons, List.not_mem_nil, or_false] at hx
    rcases hx with rfl | rfl
    · exact ⟨by mem_news, hd2.2⟩
    · exact ⟨by rw [List.length_take]; mem_news, fun c hc => hd1.2 c (List.mem_of_mem_take hc)⟩
  obtain ⟨r39, o39, h39, rfl, ob1, rfl⟩ : Sp 39 [] (some ob0) fun r o => r = .none /\ ∃ ob, o = some ob := sp39 fun ob => ⟨rfl, ob, rfl⟩
  refine ⟨w, [v, w.take 4], ob1, ?_, ?_, h39, ?_⟩
  · have : YS 40 s1L [(52, .ints script)] none fun fl l o => fl = .next /\ l = [(52, .ints script), (4, .str w)] /\ o = none := by
      unfold s1L
      refine ys_asg (ye_call2 (ye_sliceHi (ye_var rfl (ye_int (m_sliceHiI (a := 20) rfl (by simp only [small, limI]; mem_news) (by simp only [limS]; mem_news) (ye_int (sp17 (most := 20) (by decide) (by rw [List.length_take]; mem_news) ?_)))))))
      rw [hw]
      exact ⟨rfl, rfl, rfl⟩
    obtain ⟨n, h⟩ := XS.mono this fun fl st z => (⟨z.1, by obtain ⟨l, o⟩ := st; obtain ⟨_, h1, h2⟩ := z; dsimp only at h1 h2; rw [h1, h2]⟩ : fl = .next /\ st = ⟨[(52, .ints script), (4, .str w)], none⟩)
    exact ⟨n, h⟩
  · have : YS 40 s2L [(52, .ints script), (4, .str w)] none fun fl l o => fl = .next /\ l = [(52, .ints script), (4, .str w), (53, .strs [v, w.take 4])] /\ o = none := by
      unfold s2L
      refine ys_asg (ye_list2 (ye_call2 (ye_slice (ye_var rfl (ye_int (ye_int (m_sliceI (a := 20) (b := 28) rfl rfl (by simp only [small, limI]; mem_news) (by simp only [small, limI]; mem_news) (by simp only [limS]; mem_news) (ye_int (sp17 (most := 8) (by decide) (by rw [List.length_take]; mem_news) ?_)))))))))
      rw [hr]
      refine ye_sliceHi (ye_var rfl (ye_int (m_sliceHi (a := 4) rfl (by simp only [small, limI]; mem_news) (by simp only [limS]; mem_news) ⟨_, _, rfl, rfl, ?_⟩)))
      exact ⟨rfl, rfl, rfl⟩
    obtain ⟨n, h⟩ := XS.mono this fun fl st z => (⟨z.1, by obtain ⟨l, o⟩ := st; obtain ⟨_, h1, h2⟩ := z; dsimp only at h1 h2; rw [h1, h2]⟩ : fl = .next /\ st = ⟨[(52, .ints script), (4, .str w), (53, .strs [v, w.take 4])], none⟩)
    exact ⟨n, h⟩
  · have : YL 40 b40 [(52, .ints script), (4, .str w), (53, .strs [v, w.take 4]), (54, .obj)] (some ob1) fun fl _ _ => fl = .ret (.bool true) := by
      unfold b40
      obtain ⟨cur, c, L, lb, bra, ket, q1, q2⟩ := ob1
      refine yl_cons (ys_ite (ye_cmp (ye_ometh1 rfl (ye_var rfl (sp37 (w := w) (by mem_news) hd1.2 fun c bra ket r1 r2 => ?_)))))
      refine ye_call1 (ye_var rfl (sp16 (by mem_news) (m_nes (m_bool (pickF (by simp) (yl_nil (sq_next ?_)))))))
      refine yl_cons (ys_ret (ye_cmp (ye_ometh1 rfl (ye_var rfl (sp38 (row := [v, w.take 4]) (by simp) hrow fun ob => ?_)))))
      refine ye_comp (ye_var rfl ⟨_, rfl, (show (2 : Nat) <= 4096 by decide), ?_⟩)
      refine law_loop [v, w.take 4] [] (fun x hx => (hrow x hx).1) ?_
      refine m_eqss ((show (2 : Nat) <= 4096 by decide)) ((show (2 : Nat) <= 4096 by decide)) ?_
      refine sq_ret ?_
      rw [List.nil_append, beq_self_eq_true]
    exact this
theorem holds : PySem.W.OpenLaw.Holds lw := law_holds law_ok
end
end Mine
theorem PySem.Challenge.cw_ip0005_01_holds : PySem.Challenge.rw_ip0005_01.Holds :=
  Mine.holds
