
import PyProof.Rows.All
import Wide.All
import OpenK.AllK
import Wide.FinOn
import Lean
import PySem.Challenge.RW_wb0025_01

set_option Elab.async false
set_option linter.all false
set_option tactic.hygienic false
section
open PySem PyProof.Rows

set_option linter.unusedVariables false
namespace Mine

theorem size_update (h : Heap) (a : Addr) (f : Obj → Obj) : (h.update a f).objs.size = h.objs.size := (Heap.SameBut.update ..).1
theorem runs_size_le {M : Model} {Γ : Ctx} {p : Pos} {t : Sem Fin} {fs : List Frame} {s s' : Shared} {e : End} (h : Runs M Γ p t fs s e s') :
    s.heap.objs.size ≤ s'.heap.objs.size := by
  induction h <;> (try simp only [Shared.setGen, Heap.size_push, size_update] at *) <;> omega

theorem returns_size_le {M : Model} {Γ : Ctx} {p : Pos} {s s' : Shared} {r : Result} (h : Returns M Γ p s r s') : s.heap.objs.size ≤ s'.heap.objs.size := runs_size_le h

theorem wakes_size_le {M : Model} {Γ : Ctx} {p : Pos} {g : Nat} {r : Resume} {s s' : Shared} {res : GenResult} (h : Wakes M Γ p g r s res s') :
    s.heap.objs.size ≤ s'.heap.objs.size := by
  unfold Wakes at h
  split at h
  · exact h.elim
  · split at h
    · obtain ⟨e₁, s₁, hr, _, _, rfl⟩ := h; exact (runs_size_le hr : (s.setGen g .running).heap.objs.size ≤ s₁.heap.objs.size)
    · rw [h.2]; exact Nat.le_refl _
    · rw [h.2]; exact Nat.le_refl _
  · obtain ⟨e₁, s₁, hr, _, _, rfl⟩ := h; exact (runs_size_le hr : (s.setGen g .running).heap.objs.size ≤ s₁.heap.objs.size)
  · rw [h.2]; exact Nat.le_refl _
  · rw [h.2]; exact Nat.le_refl _

open Sem in
theorem wp_size {α : Type} (M : Model) (Γ : Ctx) (n : Nat) (t : Sem α) : ∀ (Q : α → Pos → Shared → Prop) (E : Value → Pos → Shared → Prop) (p : Pos) (s : Shared), n ≤ s.heap.objs.size → Sem.wp M Γ t Q E p s →
    Sem.wp M Γ t (fun a p' s' => n ≤ s'.heap.objs.size ∧ Q a p' s') (fun e p' s' => n ≤ s'.heap.objs.size ∧ E e p' s') p s := by
  induction t with
  | pure a => intro Q E p s hn h; exact ⟨hn, h⟩
  | raise e => intro Q E p s hn h; exact ⟨hn, h⟩
  | unsupported _ => intro Q E p s _ h; exact h
  | finish _ => intro Q E p s _ h; exact h
  | rule _ k ih => intro Q E p s hn h; exact ih () Q E p s hn h
  | «at» p' k ih => intro Q E p s hn h; exact ih () Q E p' s hn h
  | load a _ k ih => intro Q E p s hn h; obtain ⟨o, ho, h⟩ := h; exact ⟨o, ho, ih o Q E p s hn h⟩
  | update a _ f k ih =>
    intro Q E p s hn h
    refine ⟨h.1, ih () Q E p _ ?_ h.2⟩
    simpa only [size_update] using hn
  | loadIfAlive a k ih => intro Q E p s hn h; exact ih _ Q E p s hn h
  | point _ k ih => intro Q E p s hn h; exact ih () Q E p s hn h
  | register _ _ => intro Q E p s _ h; exact h
  | alloc o k ih =>
    intro Q E p s hn h
    refine ih _ Q E p _ ?_ h
    simp only [Heap.size_push]; omega
  | fresh k ih => intro Q E p s hn h; exact ih _ Q E p _ hn h
  | ask k ih => intro Q E p s hn h; exact ih _ Q E p s hn h
  | choose src m k ih => intro Q E p s hn h; exact ⟨h.1, ih _ Q E p _ hn h.2⟩
  | os q _ k ih => intro Q E p s hn h; exact ih _ Q E p _ hn h
  | call c hd _ _ k ih => intro Q E p s hn h; obtain ⟨r, s', hr, h⟩ := h; exact ⟨r, s', hr, ih r Q E p s' (Nat.le_trans hn (returns_size_le hr)) h⟩
  | handled own k ih => intro Q E p s hn h; exact ih _ Q E p s hn h
  | genState g k ih => intro Q E p s hn h; obtain ⟨st, hs, h⟩ := h; exact ⟨st, hs, ih _ Q E p s hn h⟩
  | newGen c k ih => intro Q E p s hn h; exact ih _ Q E p _ hn h
  | resume g r _ k ih => intro Q E p s hn h; obtain ⟨res, s', hw, h⟩ := h; exact ⟨res, s', hw, ih res Q E p s' (Nat.le_trans hn (wakes_size_le hw)) h⟩
  | yield _ _ _ _ => intro Q E p s _ h; exact h
  | stack k ih => intro Q E p s hn h; exact ih _ Q E p s hn h
  | fork _ _ => intro Q E p s _ h; exact h
  | thread k ih => intro Q E p s hn h; exact ih _ Q E p s hn h
  | await _ _ _ _ _ => intro Q E p s _ h; exact h

theorem wpAny_size {α : Type} {M : Model} {A : Around} {s : Shared} {t : Sem α} {Q : α → Shared → Prop} {E : Value → Shared → Prop} (h : wpAny M A t (fun a s' => s.heap.objs.size ≤ s'.heap.objs.size → Q a s') E s) :
    wpAny M A t Q E s :=
  fun Γ p hΓ => Sem.wp_mono M Γ t (fun u0 u1 u2 x => x.2 x.1) (fun u0 u1 u2 x => x.2) p s (wp_size M Γ _ t _ _ p s (Nat.le_refl _) (h Γ p hΓ))

inductive MV where
  | none
  | bool (b : Bool)
  | int (i : Int)
  | str (cs : List Nat)
  | bytes (bs : List UInt8)
  | list (xs : List MV)
  | tuple (xs : List MV)

noncomputable def asInt : MV → Option Int
  | .int x => some x
  | _ => none
noncomputable def asStr : MV → Option (List Nat)
  | .str x => some x
  | _ => none
noncomputable def asBytes : MV → Option (List UInt8)
  | .bytes x => some x
  | _ => none
noncomputable def asList : MV → Option (List MV)
  | .list x => some x
  | _ => none
theorem asInt_inv {a : MV} {x : Int} (h : asInt a = some x) : a = .int x := by
  cases a with
  | int y => exact congrArg MV.int (Option.some.inj h)
  | _ => cases h
theorem asStr_inv {a : MV} {x : List Nat} (h : asStr a = some x) : a = .str x := by
  cases a with
  | str y => exact congrArg MV.str (Option.some.inj h)
  | _ => cases h
theorem asBytes_inv {a : MV} {x : List UInt8} (h : asBytes a = some x) : a = .bytes x := by
  cases a with
  | bytes y => exact congrArg MV.bytes (Option.some.inj h)
  | _ => cases h
theorem asList_inv {a : MV} {x : List MV} (h : asList a = some x) : a = .list x := by
  cases a with
  | list y => exact congrArg MV.list (Option.some.inj h)
  | _ => cases h
noncomputable def asBool : MV → Option Bool
  | .bool x => some x
  | _ => none
noncomputable def asNone : MV → Option Unit
  | .none => some ()
  | _ => none
theorem asBool_inv {a : MV} {x : Bool} (h : asBool a = some x) : a = .bool x := by
  cases a with
  | bool y => exact congrArg MV.bool (Option.some.inj h)
  | _ => cases h
theorem asNone_inv {a : MV} {x : Unit} (h : asNone a = some x) : a = .none := by
  cases a with
  | none => rfl
  | _ => cases h
theorem elim_inv {α γ : Type} {o : Option α} {k : Option γ} {f : α → Option γ} {c : γ} (h : o.elim k f = some c) : (∃ x, o = some x ∧ f x = some c) ∨ k = some c := by
  cases o with
  | none => exact .inr h
  | some x => exact .inl ⟨x, rfl, h⟩
noncomputable def on2 {α β γ : Type} (p : MV → Option α) (q : MV → Option β) (f : α → β → Option γ) (k : Option γ) (a b : MV) : Option γ := (p a).elim k fun x => (q b).bind fun y => f x y
theorem on2_inv {α β γ : Type} {p : MV → Option α} {q : MV → Option β} {f : α → β → Option γ} {k : Option γ} {a b : MV} {c : γ} (h : on2 p q f k a b = some c) : (∃ x y, p a = some x ∧ q b = some y ∧ f x y = some c) ∨ k = some c := by
  rcases elim_inv h with ⟨x, hx, h⟩ | h
  · obtain ⟨y, hy, h⟩ := Option.bind_eq_some_iff.1 h
    exact .inl ⟨x, y, hx, hy, h⟩
  · exact .inr h

noncomputable def Ls (h : Heap) (a : Addr) (its : Array Value) : Prop := ∃ n, IsL h a its n

mutual
inductive Rep (h : Heap) (K : Addr → Prop) : Value → MV → Prop
  | none : Rep h K .none .none
  | bool (b : Bool) : Rep h K (.bool b) (.bool b)
  | int (i : Int) (t : Tok) : Rep h K (.int i t) (.int i)
  | str (cs : List Nat) (t : Tok) : Rep h K (.str ⟨cs.toArray⟩ t) (.str cs)
  | bytes (bs : List UInt8) (t : Tok) : Rep h K (.bytes bs.toArray t) (.bytes bs)
  | list {a : Addr} {vs : List Value} {xs : List MV} : Ls h a vs.toArray → ¬ K a → RepAll h K vs xs → Rep h K (.ref a) (.list xs)
  | tuple {a : Addr} {vs : List Value} {xs : List MV} : h.IsTuple a vs.toArray → ¬ K a → RepAll h K vs xs → Rep h K (.ref a) (.tuple xs)
inductive RepAll (h : Heap) (K : Addr → Prop) : List Value → List MV → Prop
  | nil : RepAll h K [] []
  | cons {v : Value} {mv : MV} {vs : List Value} {xs : List MV} : Rep h K v mv → RepAll h K vs xs → RepAll h K (v :: vs) (mv :: xs)
end

theorem Ls.lt {h : Heap} {a : Addr} {its : Array Value} (x : Ls h a its) : a < h.objs.size := let ⟨_, ho⟩ := x; Heap.lt_size ho
theorem Ls.at {h h' : Heap} {a : Addr} {its : Array Value} (x : Ls h a its) (hk : ∀ o, h.get? a = some o → h'.get? a = some o) : Ls h' a its :=
  let ⟨n, ho⟩ := x; ⟨n, hk _ ho⟩
theorem IsTuple.lt {h : Heap} {a : Addr} {its : Array Value} (x : h.IsTuple a its) : a < h.objs.size := let ⟨_, ho, _⟩ := x; Heap.lt_size ho
theorem IsTuple.at {h h' : Heap} {a : Addr} {its : Array Value} (x : h.IsTuple a its) (hk : ∀ o, h.get? a = some o → h'.get? a = some o) : h'.IsTuple a its :=
  let ⟨o, ho, r⟩ := x; ⟨o, hk _ ho, r⟩
theorem Ls.isList {h : Heap} {a : Addr} {its : Array Value} (x : Ls h a its) : h.IsList a its := let ⟨n, ho⟩ := x; ⟨_, ho, rfl, n, rfl⟩
theorem Ls.inj {h : Heap} {a : Addr} {i j : Array Value} (x : Ls h a i) (y : Ls h a j) : i = j := by
  obtain ⟨n, ho⟩ := x
  obtain ⟨n', ho'⟩ := y
  have e := ho.symm.trans ho'
  cases e; rfl
theorem Ls.push (h : Heap) (items : Array Value) : Ls (h.push { cls := .type "list", data := .seq items }) h.objs.size items := ⟨0, IsL.new h items⟩

theorem RepAll.ind {h : Heap} {K : Addr → Prop} {M : List Value → List MV → Prop} (nil : M [] []) (cons : ∀ {v : Value} {mv : MV} {vs : List Value} {xs : List MV}, Rep h K v mv → RepAll h K vs xs → M vs xs → M (v :: vs) (mv :: xs))
    {vs : List Value} {xs : List MV} (ra : RepAll h K vs xs) : M vs xs :=
  RepAll.rec (motive_1 := fun v mv r => True) (motive_2 := fun vs xs r => M vs xs) trivial (fun b => trivial) (fun i t => trivial) (fun c t => trivial) (fun c t => trivial) (fun x y z w => trivial) (fun x y z w => trivial) nil (fun r ra i ih => cons r ra ih) ra
theorem Rep.mono {h h' : Heap} {K K' : Addr → Prop} (hk : ∀ b o, ¬ K b → h.get? b = some o → h'.get? b = some o) (hK : ∀ b, K' b → K b ∨ h.objs.size ≤ b) {v : Value} {mv : MV} (r : Rep h K v mv) : Rep h' K' v mv :=
  Rep.rec (motive_1 := fun v mv r => Rep h' K' v mv) (motive_2 := fun vs xs r => RepAll h' K' vs xs) .none .bool .int .str .bytes
    (fun hp hn ra ih => .list (hp.at fun o => hk _ o hn) (fun x => (hK _ x).elim hn fun y => Nat.lt_irrefl _ (Nat.lt_of_lt_of_le hp.lt y)) ih)
    (fun hp hn ra ih => .tuple (IsTuple.at hp fun o => hk _ o hn) (fun x => (hK _ x).elim hn fun y => Nat.lt_irrefl _ (Nat.lt_of_lt_of_le (IsTuple.lt hp) y)) ih)
    .nil (fun r ra i ih => .cons i ih) r
theorem RepAll.mono {h h' : Heap} {K K' : Addr → Prop} (hk : ∀ b o, ¬ K b → h.get? b = some o → h'.get? b = some o) (hK : ∀ b, K' b → K b ∨ h.objs.size ≤ b) {vs : List Value} {xs : List MV} (ra : RepAll h K vs xs) : RepAll h' K' vs xs :=
  ra.ind .nil fun r ra ih => .cons (r.mono hk hK) ih
theorem RepAll.uncons {h : Heap} {K : Addr → Prop} {vs : List Value} {x : MV} {xs : List MV} (ra : RepAll h K vs (x :: xs)) : ∃ v ws, vs = v :: ws ∧ Rep h K v x ∧ RepAll h K ws xs := by
  cases ra with
  | cons r ra => exact ⟨_, _, rfl, r, ra⟩
theorem RepAll.unnil {h : Heap} {K : Addr → Prop} {vs : List Value} (ra : RepAll h K vs []) : vs = [] := by
  cases ra with
  | nil => rfl

noncomputable def RepH (h : Heap) (K : Addr → Prop) (v : Value) (mv : MV) : Prop :=
  Rep h K v mv ∨ ∃ a vs xs, v = .ref a ∧ mv = .list xs ∧ Ls h a (List.toArray vs) ∧ RepAll h K vs xs

theorem RepAll.length {h : Heap} {K : Addr → Prop} {vs : List Value} {xs : List MV} (ra : RepAll h K vs xs) : vs.length = xs.length :=
  ra.ind (M := fun vs xs => vs.length = xs.length) rfl fun r ra ih => congrArg (· + 1) ih
theorem RepAll.get {h : Heap} {K : Addr → Prop} {vs : List Value} {xs : List MV} (ra : RepAll h K vs xs) {i : Nat} {mv : MV} (e : xs[i]? = some mv) : ∃ v, vs[i]? = some v ∧ Rep h K v mv :=
  ra.ind (M := fun vs xs => ∀ (i : Nat) (mv : MV), xs[i]? = some mv → ∃ v, vs[i]? = some v ∧ Rep h K v mv) (fun i mv e => by rw [List.getElem?_nil] at e; cases e) (fun r ra ih i mv e => by
    cases i with
    | zero => cases e; exact ⟨_, rfl, r⟩
    | succ i => exact ih i mv e) i mv e
theorem RepAll.append {h : Heap} {K : Addr → Prop} {vs : List Value} {xs : List MV} {ws : List Value} {ys : List MV} (ra : RepAll h K vs xs) (rb : RepAll h K ws ys) : RepAll h K (vs ++ ws) (xs ++ ys) :=
  ra.ind (M := fun vs xs => RepAll h K (vs ++ ws) (xs ++ ys)) rb fun r ra ih => .cons r ih
theorem RepAll.take {h : Heap} {K : Addr → Prop} {vs : List Value} {xs : List MV} (n : Nat) (ra : RepAll h K vs xs) : RepAll h K (vs.take n) (xs.take n) :=
  ra.ind (M := fun vs xs => ∀ n : Nat, RepAll h K (vs.take n) (xs.take n)) (fun n => by rw [List.take_nil, List.take_nil]; exact .nil) (fun r ra ih n => by
    cases n with
    | zero => exact .nil
    | succ n => exact .cons r (ih n)) n
theorem RepAll.drop {h : Heap} {K : Addr → Prop} {vs : List Value} {xs : List MV} (n : Nat) (ra : RepAll h K vs xs) : RepAll h K (vs.drop n) (xs.drop n) :=
  ra.ind (M := fun vs xs => ∀ n : Nat, RepAll h K (vs.drop n) (xs.drop n)) (fun n => by rw [List.drop_nil, List.drop_nil]; exact .nil) (fun r ra ih n => by
    cases n with
    | zero => exact .cons r ra
    | succ n => exact ih n) n
theorem RepAll.set {h : Heap} {K : Addr → Prop} {vs : List Value} {xs : List MV} (n : Nat) {v : Value} {mv : MV} (ra : RepAll h K vs xs) (q : Rep h K v mv) : RepAll h K (vs.set n v) (xs.set n mv) :=
  ra.ind (M := fun vs xs => ∀ n : Nat, RepAll h K (vs.set n v) (xs.set n mv)) (fun n => .nil) (fun r ra ih n => by
    cases n with
    | zero => exact .cons q ra
    | succ n => exact .cons r (ih n)) n
theorem RepAll.reverse {h : Heap} {K : Addr → Prop} {vs : List Value} {xs : List MV} (ra : RepAll h K vs xs) : RepAll h K vs.reverse xs.reverse :=
  ra.ind (M := fun vs xs => RepAll h K vs.reverse xs.reverse) .nil fun r ra ih => by
    rw [List.reverse_cons, List.reverse_cons]
    exact ih.append (.cons r .nil)
theorem RepAll.eraseIdx {h : Heap} {K : Addr → Prop} {vs : List Value} {xs : List MV} (n : Nat) (ra : RepAll h K vs xs) : RepAll h K (vs.eraseIdx n) (xs.eraseIdx n) :=
  ra.ind (M := fun vs xs => ∀ n : Nat, RepAll h K (vs.eraseIdx n) (xs.eraseIdx n)) (fun n => .nil) (fun r ra ih n => by
    cases n with
    | zero => exact ra
    | succ n => exact .cons r (ih n)) n
theorem RepAll.replicate {h : Heap} {K : Addr → Prop} {vs : List Value} {xs : List MV} (ra : RepAll h K vs xs) (n : Nat) : RepAll h K (List.replicate n vs).flatten (List.replicate n xs).flatten := by
  induction n with
  | zero => exact .nil
  | succ n ih => exact ra.append ih

theorem RepH.of {h : Heap} {K : Addr → Prop} {v : Value} {mv : MV} (r : Rep h K v mv) : RepH h K v mv := .inl r
theorem RepH.isList {h : Heap} {K : Addr → Prop} {v : Value} {xs : List MV} (r : RepH h K v (.list xs)) : ∃ a vs, v = .ref a ∧ Ls h a (List.toArray vs) ∧ RepAll h K vs xs := by
  rcases r with r | ⟨a, vs, ys, rfl, e, hp, ra⟩
  · cases r with
    | list hp hn ra => exact ⟨_, _, rfl, hp, ra⟩
  · cases e; exact ⟨a, vs, rfl, hp, ra⟩
theorem RepH.isInt {h : Heap} {K : Addr → Prop} {v : Value} {i : Int} (r : RepH h K v (.int i)) : ∃ t, v = .int i t := by
  rcases r with r | ⟨_, _, _, _, e, _⟩
  · cases r; exact ⟨_, rfl⟩
  · cases e
theorem RepH.isBool {h : Heap} {K : Addr → Prop} {v : Value} {b : Bool} (r : RepH h K v (.bool b)) : v = .bool b := by
  rcases r with r | ⟨_, _, _, _, e, _⟩
  · cases r; rfl
  · cases e
theorem RepH.isNone {h : Heap} {K : Addr → Prop} {v : Value} (r : RepH h K v .none) : v = .none := by
  rcases r with r | ⟨_, _, _, _, e, _⟩
  · cases r; rfl
  · cases e
theorem RepH.isStr {h : Heap} {K : Addr → Prop} {v : Value} {c : List Nat} (r : RepH h K v (.str c)) : ∃ t, v = .str ⟨c.toArray⟩ t := by
  rcases r with r | ⟨_, _, _, _, e, _⟩
  · cases r; exact ⟨_, rfl⟩
  · cases e
theorem RepH.isBytes {h : Heap} {K : Addr → Prop} {v : Value} {c : List UInt8} (r : RepH h K v (.bytes c)) : ∃ t, v = .bytes c.toArray t := by
  rcases r with r | ⟨_, _, _, _, e, _⟩
  · cases r; exact ⟨_, rfl⟩
  · cases e
theorem RepH.isTuple {h : Heap} {K : Addr → Prop} {v : Value} {xs : List MV} (r : RepH h K v (.tuple xs)) : ∃ a vs, v = .ref a ∧ h.IsTuple a (List.toArray vs) ∧ ¬ K a ∧ RepAll h K vs xs := by
  rcases r with r | ⟨_, _, _, _, e, _⟩
  · cases r with
    | tuple hp hn ra => exact ⟨_, _, rfl, hp, hn, ra⟩
  · cases e

end Mine
end

section
open PySem PyProof.Rows
set_option linter.unusedVariables false
namespace Mine

structure Cfg where
  prog : Program
  w : World
  hT : Heap
  mg : Str → Option Value
  mb : Str → Option Value

structure Cfg.Ok (C : Cfg) : Prop where
  g : C.hT.Ns mainGlobals C.mg
  b : C.hT.Ns builtinsNs C.mb
  lim : C.hT.NoLimit

abbrev wp (C : Cfg) {α : Type} (A : Around) (t : Sem α) (Q : α → Shared → Prop) (s : Shared) : Prop := wpAny (model C.prog C.w) A t Q (fun u0 u1 => False) s

theorem wp_any {C : Cfg} {α : Type} {A : Around} {t : Sem α} {Q : α → Shared → Prop} {E : Value → Shared → Prop} {s : Shared} (h : wp C A t Q s) : wpAny (model C.prog C.w) A t Q E s :=
  wpAny_mono h (fun u0 u1 x => x) fun u0 u1 x => x.elim
theorem wp_mono {C : Cfg} {α : Type} {A : Around} {t : Sem α} {Q Q' : α → Shared → Prop} {s : Shared} (h : wp C A t Q s) (hQ : ∀ a s, Q a s → Q' a s) : wp C A t Q' s :=
  wpAny_mono h hQ fun u0 u1 x => x
theorem wp_sized {C : Cfg} {α : Type} {A : Around} {t : Sem α} {Q : α → Shared → Prop} {s : Shared} (h : wp C A t (fun a s' => s.heap.objs.size ≤ s'.heap.objs.size → Q a s') s) : wp C A t Q s :=
  wpAny_size h

structure Late (W : Addr → Prop) (G : Nat → Prop) (s s' : Shared) : Prop where
  keep : ∀ b o, ¬ W b → s.heap.get? b = some o → s'.heap.get? b = some o
  size : s.heap.objs.size ≤ s'.heap.objs.size
  gens : ∀ g x, ¬ G g → s.gens[g]? = some x → s'.gens[g]? = some x
  gsize : s.gens.size ≤ s'.gens.size
  bare : AllBare s.gens → AllBare s'.gens
  os : s'.os = s.os

noncomputable def No {α : Type} : α → Prop := fun u0 => False
abbrev Grow (s s' : Shared) : Prop := Late No No s s'

theorem Late.refl {W : Addr → Prop} {G : Nat → Prop} (s : Shared) : Late W G s s := ⟨fun u0 u1 u2 e => e, Nat.le_refl _, fun u0 u1 u2 e => e, Nat.le_refl _, fun e => e, rfl⟩
theorem Late.trans {W W' : Addr → Prop} {G G' : Nat → Prop} {s s' s'' : Shared} (x : Late W G s s') (y : Late W' G' s' s'')
    (hW : ∀ b, W' b → W b ∨ s.heap.objs.size ≤ b) (hG : ∀ g, G' g → G g ∨ s.gens.size ≤ g) : Late W G s s'' where
  keep b o hb e := y.keep b o (fun h => (hW b h).elim hb fun q => Nat.lt_irrefl _ (Nat.lt_of_lt_of_le (Heap.lt_size e) q)) (x.keep b o hb e)
  size := Nat.le_trans x.size y.size
  gens g o hg e := y.gens g o (fun h => (hG g h).elim hg fun q => by
    have := (Array.getElem?_eq_some_iff.mp e).1
    omega) (x.gens g o hg e)
  gsize := Nat.le_trans x.gsize y.gsize
  bare h := y.bare (x.bare h)
  os := y.os.trans x.os
theorem Late.mono {W W' : Addr → Prop} {G G' : Nat → Prop} {s s' : Shared} (x : Late W G s s') (hW : ∀ b, W b → W' b ∨ s.heap.objs.size ≤ b) (hG : ∀ g, G g → G' g ∨ s.gens.size ≤ g) : Late W' G' s s' :=
  ⟨fun b o hb e => x.keep b o (fun h => (hW b h).elim hb fun q => Nat.lt_irrefl _ (Nat.lt_of_lt_of_le (Heap.lt_size e) q)) e, x.size, fun g o hg e => x.gens g o (fun h => (hG g h).elim hg fun q => by
    have := (Array.getElem?_eq_some_iff.mp e).1
    omega) e, x.gsize, x.bare, x.os⟩
theorem Late.then {W : Addr → Prop} {G : Nat → Prop} {s s' s'' : Shared} (x : Late W G s s') (y : Grow s' s'') : Late W G s s'' := x.trans y (fun u0 h => h.elim) fun u0 h => h.elim
theorem Late.after {W : Addr → Prop} {G : Nat → Prop} {s s' s'' : Shared} (x : Grow s s') (y : Late W G s' s'') : Late W G s s'' :=
  (x.mono (fun u0 h => h.elim) fun u0 h => h.elim : Late W G s s').trans y (fun u0 h => .inl h) fun u0 h => .inl h
theorem Late.heap {s : Shared} {h' : Heap} {tk : Nat} {W : Addr → Prop} {G : Nat → Prop} (hk : ∀ b o, ¬ W b → s.heap.get? b = some o → h'.get? b = some o) (hs : s.heap.objs.size ≤ h'.objs.size) :
    Late W G s { s with heap := h', toks := tk } := ⟨hk, hs, fun u0 u1 u2 e => e, Nat.le_refl _, fun e => e, rfl⟩
theorem Late.push {s : Shared} {o : Obj} {tk : Nat} : Grow s { s with heap := s.heap.push o, toks := tk } :=
  .heap (fun u0 u1 u2 e => Heap.get?_push_of_some _ e) (by rw [Heap.size_push]; omega)
theorem Late.tok {s : Shared} {tk : Nat} : Grow s { s with toks := tk } := .heap (h' := s.heap) (fun u0 u1 u2 e => e) (Nat.le_refl _)
theorem Grow.get {s s' : Shared} (x : Grow s s') {b : Addr} {o : Obj} (e : s.heap.get? b = some o) : s'.heap.get? b = some o := x.keep b o (fun h => h) e
theorem Grow.rep {s s' : Shared} (x : Grow s s') {K : Addr → Prop} {v : Value} {mv : MV} (r : Rep s.heap K v mv) : Rep s'.heap K v mv :=
  r.mono (fun b o u0 e => x.get e) fun u0 h => .inl h
theorem Grow.repAll {s s' : Shared} (x : Grow s s') {K : Addr → Prop} {vs : List Value} {xs : List MV} (r : RepAll s.heap K vs xs) : RepAll s'.heap K vs xs :=
  r.mono (fun b o u0 e => x.get e) fun u0 h => .inl h
theorem Grow.repH {s s' : Shared} (x : Grow s s') {K : Addr → Prop} {v : Value} {mv : MV} (r : RepH s.heap K v mv) : RepH s'.heap K v mv := by
  rcases r with r | ⟨a, vs, xs, e1, e2, hp, ra⟩
  · exact .inl (x.rep r)
  · exact .inr ⟨a, vs, xs, e1, e2, hp.at fun o e => x.get e, x.repAll ra⟩

structure Fs where
  names : List Str
  sc : Scope
  wc : Bool

noncomputable def Fs.kind (Φ : Fs) (x : Str) : Option NameKind := Φ.sc.names.lookup x

structure EnvOk (Φ : Fs) (env : Env) : Prop where
  scope : env.scope = Φ.sc
  glob : env.globals = mainGlobals
  bi : env.builtins = builtinsNs

structure FsOk (Φ : Fs) : Prop where
  kind : Φ.sc.kind = .function
  nodup : Φ.names.Nodup
  kinds : ∀ x ∈ Φ.names, Φ.kind x = some .local ∨ Φ.kind x = some .cell
  dbg : ∀ x ∈ Φ.names, (x == ("__debug__" : Str)) = false

inductive Sl where
  | un
  | v (mv : MV)
  | m (xs : List MV)
  | mm (xs : List MV) (last : List MV)

noncomputable def Wr (Φ : Fs) (env : Env) (H : Nat → Option Addr) (b : Addr) : Prop :=
  b = env.locals ∨ (Φ.wc = true ∧ ∃ x, env.cells.lookup x = some b) ∨ ∃ i, H i = some b
noncomputable def Kof (K₀ : Addr → Prop) (Φ : Fs) (env : Env) (H : Nat → Option Addr) (b : Addr) : Prop := K₀ b ∨ Wr Φ env H b

noncomputable def VarRep (h : Heap) (K : Addr → Prop) (H : Nat → Option Addr) (i : Nat) (ov : Option Value) : Sl → Prop
  | .un => True
  | .v mv => ∃ v, ov = some v ∧ Rep h K v mv
  | .m xs => ∃ a vs, ov = some (.ref a) ∧ H (2 * i) = some a ∧ Ls h a (List.toArray vs) ∧ RepAll h K vs xs
  | .mm xs last => ∃ a vs b ws, ov = some (.ref a) ∧ H (2 * i) = some a ∧ Ls h a (List.toArray (vs ++ [.ref b])) ∧ RepAll h K vs xs ∧ H (2 * i + 1) = some b ∧ Ls h b (List.toArray ws) ∧ RepAll h K ws last

theorem VarRep.mono {h h' : Heap} {K K' : Addr → Prop} {H H' : Nat → Option Addr} {i : Nat} {ov : Option Value} {sl : Sl} (x : VarRep h K H i ov sl)
    (hk : ∀ b o, ¬ K b → h.get? b = some o → h'.get? b = some o) (hK : ∀ b, K' b → K b ∨ h.objs.size ≤ b)
    (h0 : ∀ a, H (2 * i) = some a → H' (2 * i) = some a ∧ ∀ o, h.get? a = some o → h'.get? a = some o)
    (h1 : ∀ a, H (2 * i + 1) = some a → H' (2 * i + 1) = some a ∧ ∀ o, h.get? a = some o → h'.get? a = some o) : VarRep h' K' H' i ov sl := by
  cases sl with
  | un => trivial
  | v mv => obtain ⟨v, e, r⟩ := x; exact ⟨v, e, r.mono hk hK⟩
  | m xs =>
    obtain ⟨a, vs, e, hh, hp, ra⟩ := x
    exact ⟨a, vs, e, (h0 a hh).1, hp.at (h0 a hh).2, ra.mono hk hK⟩
  | mm xs last =>
    obtain ⟨a, vs, b, ws, e, hh, hp, ra, hb, hq, rb⟩ := x
    exact ⟨a, vs, b, ws, e, (h0 a hh).1, hp.at (h0 a hh).2, ra.mono hk hK, (h1 b hb).1, hq.at (h1 b hb).2, rb.mono hk hK⟩

structure Fm (C : Cfg) (Φ : Fs) (env : Env) (K₀ : Addr → Prop) (H : Nat → Option Addr) (ρ : List Sl) (s : Shared) : Prop where
  envOk : EnvOk Φ env
  fsOk : FsOk Φ
  keepT : ∀ b o, C.hT.get? b = some o → s.heap.get? b = some o
  tsz : C.hT.objs.size ≤ s.heap.objs.size
  loc : ∃ m, s.heap.Ns env.locals m ∧ ∀ i x sl, Φ.names[i]? = some x → Φ.kind x = some .local → ρ[i]? = some sl → VarRep s.heap (Kof K₀ Φ env H) H i (m x) sl
  cel : ∀ i x sl, Φ.names[i]? = some x → Φ.kind x = some .cell → ρ[i]? = some sl →
    ∃ c ov, env.cells.lookup x = some c ∧ s.heap.IsCell c ov ∧ VarRep s.heap (Kof K₀ Φ env H) H i ov sl
  ctop : ∀ x c, env.cells.lookup x = some c → (∃ ov, s.heap.IsCell c ov) ∧ c ≠ env.locals ∧ C.hT.objs.size ≤ c ∧ (Φ.wc = true → ¬ K₀ c)
  cinj : ∀ x y c, env.cells.lookup x = some c → env.cells.lookup y = some c → x = y
  hd : ∀ i a, H i = some a → a < s.heap.objs.size ∧ a ≠ env.locals ∧ (∀ x c, env.cells.lookup x = some c → a ≠ c) ∧ ¬ K₀ a ∧ C.hT.objs.size ≤ a
  hinj : ∀ i j a, H i = some a → H j = some a → i = j
  k0 : ∀ b, K₀ b → b < s.heap.objs.size
  k0l : ¬ K₀ env.locals
  ltop : C.hT.objs.size ≤ env.locals
  bare : AllBare s.gens
  len : ρ.length = Φ.names.length

section
variable {C : Cfg} {Φ : Fs} {env : Env} {K₀ : Addr → Prop} {H : Nat → Option Addr} {ρ : List Sl} {s s' : Shared}

theorem Fm.locLt (F : Fm C Φ env K₀ H ρ s) : env.locals < s.heap.objs.size := let ⟨_, hn, _⟩ := F.loc; hn.lt
theorem Fm.celLt (F : Fm C Φ env K₀ H ρ s) {x : Str} {c : Addr} (h : env.cells.lookup x = some c) : c < s.heap.objs.size := let ⟨⟨_, y⟩, _⟩ := F.ctop x c h; y.lt
theorem Fm.wrLt (F : Fm C Φ env K₀ H ρ s) {b : Addr} (h : Wr Φ env H b) : b < s.heap.objs.size := by
  rcases h with rfl | ⟨_, x, h⟩ | ⟨i, h⟩
  · exact F.locLt
  · exact F.celLt h
  · exact (F.hd i b h).1
theorem Fm.kLt (F : Fm C Φ env K₀ H ρ s) {b : Addr} (h : Kof K₀ Φ env H b) : b < s.heap.objs.size := h.elim (F.k0 b) F.wrLt
theorem Fm.wrK0 (F : Fm C Φ env K₀ H ρ s) {b : Addr} (h : Wr Φ env H b) : ¬ K₀ b := by
  rcases h with rfl | ⟨hw, x, h⟩ | ⟨i, h⟩
  · exact F.k0l
  · exact (F.ctop x b h).2.2.2 hw
  · exact (F.hd i b h).2.2.2.1

theorem Kof.to {K₁ : Addr → Prop} {sz : Nat} (hK : ∀ b, K₁ b → K₀ b ∨ sz ≤ b) : ∀ b, Kof K₁ Φ env H b → Kof K₀ Φ env H b ∨ sz ≤ b := fun b h =>
  h.elim (fun x => (hK b x).elim (fun y => .inl (.inl y)) .inr) fun x => .inl (.inr x)

theorem Fm.step {K₁ W : Addr → Prop} {G : Nat → Prop} (F : Fm C Φ env K₀ H ρ s) (g : Late W G s s')
    (hW : ∀ b, W b → K₀ b ∧ C.hT.objs.size ≤ b ∧ ∀ x, env.cells.lookup x ≠ some b)
    (hK : ∀ b, K₁ b → K₀ b ∨ (s.heap.objs.size ≤ b ∧ b < s'.heap.objs.size)) : Fm C Φ env K₁ H ρ s' := by
  have hKK := Kof.to (Φ := Φ) (env := env) (H := H) (K₀ := K₀) (K₁ := K₁) (sz := s.heap.objs.size) fun b h => (hK b h).elim .inl fun q => .inr q.1
  have hk : ∀ b o, ¬ Kof K₀ Φ env H b → s.heap.get? b = some o → s'.heap.get? b = some o := fun b o hb e => g.keep b o (fun h => hb (.inl (hW b h).1)) e
  have hwk : ∀ b o, Wr Φ env H b → s.heap.get? b = some o → s'.heap.get? b = some o := fun b o hb e => g.keep b o (fun h => F.wrK0 hb (hW b h).1) e
  have hck : ∀ x c, env.cells.lookup x = some c → ∀ o, s.heap.get? c = some o → s'.heap.get? c = some o := fun x c hc o e => g.keep c o (fun h => (hW c h).2.2 x hc) e
  have hh : ∀ i a, H i = some a → H i = some a ∧ ∀ o, s.heap.get? a = some o → s'.heap.get? a = some o := fun i a h => ⟨h, fun o e => hwk a o (.inr (.inr ⟨i, h⟩)) e⟩
  refine ⟨F.envOk, F.fsOk, fun b o e => g.keep b o (fun h => Nat.lt_irrefl _ (Nat.lt_of_lt_of_le (Heap.lt_size e) (hW b h).2.1)) (F.keepT b o e), Nat.le_trans F.tsz g.size, ?_, ?_, ?_, F.cinj, ?_, F.hinj, ?_, ?_, F.ltop, g.bare F.bare, F.len⟩
  · obtain ⟨m, hn, hm⟩ := F.loc
    exact ⟨m, hn.at' fun o e => hwk _ o (.inl rfl) e, fun i x sl h1 h2 h3 => (hm i x sl h1 h2 h3).mono hk hKK (hh _) (hh _)⟩
  · intro i x sl h1 h2 h3
    obtain ⟨c, ov, hc, ⟨o, ho, hd⟩, hv⟩ := F.cel i x sl h1 h2 h3
    exact ⟨c, ov, hc, ⟨o, hck x c hc o ho, hd⟩, hv.mono hk hKK (hh _) (hh _)⟩
  · intro x c hc
    obtain ⟨⟨ov, o, ho, hd⟩, h2, h3, h4⟩ := F.ctop x c hc
    exact ⟨⟨ov, o, hck x c hc o ho, hd⟩, h2, h3, fun hw h => (hK c h).elim (h4 hw) fun q => Nat.lt_irrefl _ (Nat.lt_of_lt_of_le (F.celLt hc) q.1)⟩
  · intro i a h
    obtain ⟨h1, h2, h3, h4, h5⟩ := F.hd i a h
    exact ⟨Nat.lt_of_lt_of_le h1 g.size, h2, h3, fun q => (hK a q).elim h4 fun r => Nat.lt_irrefl _ (Nat.lt_of_lt_of_le h1 r.1), h5⟩
  · intro b h
    exact (hK b h).elim (fun q => Nat.lt_of_lt_of_le (F.k0 b q) g.size) fun q => q.2
  · exact fun h => (hK _ h).elim F.k0l fun q => Nat.lt_irrefl _ (Nat.lt_of_lt_of_le F.locLt q.1)

theorem Fm.grow (F : Fm C Φ env K₀ H ρ s) (g : Grow s s') : Fm C Φ env K₀ H ρ s' := F.step g (fun u0 h => h.elim) fun u0 h => .inl h
noncomputable def hput (H : Nat → Option Addr) (i : Nat) (a b : Option Addr) : Nat → Option Addr := fun j => if j = 2 * i then a else if j = 2 * i + 1 then b else H j
theorem hput_0 (H : Nat → Option Addr) (i : Nat) (a b : Option Addr) : hput H i a b (2 * i) = a := by simp [hput]
theorem hput_1 (H : Nat → Option Addr) (i : Nat) (a b : Option Addr) : hput H i a b (2 * i + 1) = b := by simp [hput]
theorem hput_ne (H : Nat → Option Addr) {i j : Nat} (a b : Option Addr) (h : j ≠ i) : hput H i a b (2 * j) = H (2 * j) ∧ hput H i a b (2 * j + 1) = H (2 * j + 1) := by
  refine ⟨?_, ?_⟩
  · simp only [hput]; rw [if_neg (by omega), if_neg (by omega)]
  · simp only [hput]; rw [if_neg (by omega), if_neg (by omega)]
theorem hput_some {H : Nat → Option Addr} {i j : Nat} {a b : Option Addr} {x : Addr} (h : hput H i a b j = some x) : (j = 2 * i ∧ a = some x) ∨ (j = 2 * i + 1 ∧ b = some x) ∨ (j ≠ 2 * i ∧ j ≠ 2 * i + 1 ∧ H j = some x) := by
  simp only [hput] at h
  by_cases h0 : j = 2 * i
  · rw [if_pos h0] at h; exact .inl ⟨h0, h⟩
  · rw [if_neg h0] at h
    by_cases h1 : j = 2 * i + 1
    · rw [if_pos h1] at h; exact .inr (.inl ⟨h1, h⟩)
    · rw [if_neg h1] at h; exact .inr (.inr ⟨h0, h1, h⟩)

theorem wp_loadVar {A : Around} {i : Nat} {x : Str} {Q : Value → Shared → Prop} (F : Fm C Φ env K₀ H ρ s) (hx : Φ.names[i]? = some x) {sl : Sl} (hs : ρ[i]? = some sl) (hu : sl ≠ .un)
    (h : ∀ v, VarRep s.heap (Kof K₀ Φ env H) H i (some v) sl → Q v s) : wp C A (loadName env x) Q s := by
  have hk : env.scope.kind = .function := by rw [F.envOk.scope]; exact F.fsOk.kind
  have some_of : ∀ {ov : Option Value}, VarRep s.heap (Kof K₀ Φ env H) H i ov sl → ∃ v, ov = some v := by
    intro ov hv
    cases sl with
    | un => exact absurd rfl hu
    | v mv => obtain ⟨v, e, _⟩ := hv; exact ⟨v, e⟩
    | m xs => obtain ⟨a, vs, e, _⟩ := hv; exact ⟨_, e⟩
    | mm xs last => obtain ⟨a, vs, b, ws, e, _⟩ := hv; exact ⟨_, e⟩
  have hkn : ∀ k, Φ.kind x = k → env.kindOf x = k := fun k h => by unfold Env.kindOf; rw [F.envOk.scope]; exact h
  rcases F.fsOk.kinds x (List.mem_of_getElem? hx) with hl | hl
  · obtain ⟨m, hn, hm⟩ := F.loc
    have hv := hm i x sl hx hl hs
    obtain ⟨v, e⟩ := some_of hv
    exact wpAny_loadName_local hk (hkn _ hl) hn e (h v (e ▸ hv))
  · obtain ⟨c, ov, hc, hi, hv⟩ := F.cel i x sl hx hl hs
    obtain ⟨v, e⟩ := some_of hv
    subst e
    exact wpAny_loadName_cell hk (hkn _ hl) hc hi (h v hv)

theorem wp_Name {A : Around} {i : Nat} {x : Str} {pos : Pos} {Q : Value → Shared → Prop} (F : Fm C Φ env K₀ H ρ s) (hx : Φ.names[i]? = some x) {sl : Sl} (hs : ρ[i]? = some sl) (hu : sl ≠ .un)
    (h : ∀ v, VarRep s.heap (Kof K₀ Φ env H) H i (some v) sl → Q v s) : wp C A (eval (.Name x pos) env) Q s :=
  wpAny_Name (wp_loadVar F hx hs hu h) (F.fsOk.dbg x (List.mem_of_getElem? hx))

theorem Kof.put {i : Nat} {ha hb : Option Addr} {sz : Nat} (h0 : ∀ a, ha = some a → sz ≤ a ∨ Kof K₀ Φ env H a) (h1 : ∀ a, hb = some a → sz ≤ a ∨ Kof K₀ Φ env H a) :
    ∀ b, Kof K₀ Φ env (hput H i ha hb) b → Kof K₀ Φ env H b ∨ sz ≤ b := fun b h => by
  rcases h with h | h | h | ⟨j, h⟩
  · exact .inl (.inl h)
  · exact .inl (.inr (.inl h))
  · exact .inl (.inr (.inr (.inl h)))
  · rcases hput_some h with ⟨_, e⟩ | ⟨_, e⟩ | ⟨_, _, e⟩
    · exact (h0 b e).elim .inr .inl
    · exact (h1 b e).elim .inr .inl
    · exact .inl (.inr (.inr (.inr ⟨j, e⟩)))

theorem Fm.turn {W : Addr → Prop} {i : Nat} {x : Str} {sl : Sl} {ha hb : Option Addr} {v : Option Value} (F : Fm C Φ env K₀ H ρ s)
    (hx : Φ.names[i]? = some x)
    (g : Late W No s s')
    (hWo : ∀ j a, j ≠ i → (H (2 * j) = some a ∨ H (2 * j + 1) = some a) → ¬ W a)
    (hWK : ∀ b, W b → Kof K₀ Φ env H b ∧ ¬ K₀ b)
    (hWc : ∀ y c, y ≠ x → env.cells.lookup y = some c → ¬ W c)
    (hWt : ∀ b, W b → C.hT.objs.size ≤ b)
    (hn : Φ.kind x = some .local → ∀ m, s.heap.Ns env.locals m → ∃ m', s'.heap.Ns env.locals m' ∧ m' x = v ∧ ∀ y, y ≠ x → m' y = m y)
    (hn' : Φ.kind x = some .cell → ¬ W env.locals)
    (hc : Φ.kind x = some .cell → ∀ c, env.cells.lookup x = some c → s'.heap.IsCell c v)
    (hc' : Φ.kind x = some .local → ∀ c, env.cells.lookup x = some c → ¬ W c)
    (h0 : ∀ a, ha = some a → H (2 * i) = some a ∨ (s.heap.objs.size ≤ a ∧ a < s'.heap.objs.size))
    (h1 : ∀ a, hb = some a → H (2 * i + 1) = some a ∨ (s.heap.objs.size ≤ a ∧ a < s'.heap.objs.size))
    (h01 : ∀ a, ha = some a → hb = some a → False)
    (hr : VarRep s'.heap (Kof K₀ Φ env (hput H i ha hb)) (hput H i ha hb) i v sl) :
    Fm C Φ env K₀ (hput H i ha hb) (ρ.set i sl) s' := by
  have hKK : ∀ b, Kof K₀ Φ env (hput H i ha hb) b → Kof K₀ Φ env H b ∨ s.heap.objs.size ≤ b :=
    Kof.put (fun a e => (h0 a e).elim (fun q => .inr (.inr (.inr (.inr ⟨_, q⟩)))) fun q => .inl q.1) fun a e => (h1 a e).elim (fun q => .inr (.inr (.inr (.inr ⟨_, q⟩)))) fun q => .inl q.1
  have hk : ∀ b o, ¬ Kof K₀ Φ env H b → s.heap.get? b = some o → s'.heap.get? b = some o := fun b o hb e => g.keep b o (fun h => hb (hWK b h).1) e
  have hh0 : ∀ j, j ≠ i → ∀ a, H (2 * j) = some a → hput H i ha hb (2 * j) = some a ∧ ∀ o, s.heap.get? a = some o → s'.heap.get? a = some o := fun j hj a h =>
    ⟨by rw [(hput_ne H ha hb hj).1]; exact h, fun o e => g.keep a o (hWo j a hj (.inl h)) e⟩
  have hh1 : ∀ j, j ≠ i → ∀ a, H (2 * j + 1) = some a → hput H i ha hb (2 * j + 1) = some a ∧ ∀ o, s.heap.get? a = some o → s'.heap.get? a = some o := fun j hj a h =>
    ⟨by rw [(hput_ne H ha hb hj).2]; exact h, fun o e => g.keep a o (hWo j a hj (.inr h)) e⟩
  have nodup : ∀ j y, Φ.names[j]? = some y → j ≠ i → y ≠ x := fun j y hy hj e => hj (by
    subst e
    have hjl := (List.getElem?_eq_some_iff.mp hy).1
    have hil := (List.getElem?_eq_some_iff.mp hx).1
    exact (List.getElem?_inj hjl F.fsOk.nodup).mp (hy.trans hx.symm))
  have hL : Φ.kind x = some .local ∨ Φ.kind x = some .cell := F.fsOk.kinds x (List.mem_of_getElem? hx)
  have set_ne : ∀ j sl', j ≠ i → (ρ.set i sl)[j]? = some sl' → ρ[j]? = some sl' := fun j sl' hj e => by
    rw [List.getElem?_set_ne (fun q => hj q.symm)] at e; exact e
  have set_eq : ∀ sl', (ρ.set i sl)[i]? = some sl' → sl' = sl := fun sl' e => by
    have hl := (List.getElem?_eq_some_iff.mp e).1
    rw [List.length_set] at hl
    rw [List.getElem?_set_self hl] at e
    exact (Option.some.inj e).symm
  have hWsz : ∀ b, W b → b < s.heap.objs.size := fun b h => F.kLt (hWK b h).1
  refine ⟨F.envOk, F.fsOk, fun b o e => g.keep b o (fun h => Nat.lt_irrefl _ (Nat.lt_of_lt_of_le (Heap.lt_size e) (hWt b h))) (F.keepT b o e), Nat.le_trans F.tsz g.size, ?_, ?_, ?_, F.cinj, ?_, ?_, fun b h => Nat.lt_of_lt_of_le (F.k0 b h) g.size, F.k0l, F.ltop, g.bare F.bare, by rw [List.length_set]; exact F.len⟩
  · obtain ⟨m, hm, hv⟩ := F.loc
    rcases hL with hl | hl
    · obtain ⟨m', hm', e1, e2⟩ := hn hl m hm
      refine ⟨m', hm', fun j y sl' hy hk' hs' => ?_⟩
      by_cases hj : j = i
      · subst hj
        have : y = x := Option.some.inj (hy.symm.trans hx)
        subst this
        rw [set_eq sl' hs', e1]; exact hr
      · rw [e2 y (nodup j y hy hj)]
        exact (hv j y sl' hy hk' (set_ne j sl' hj hs')).mono hk hKK (hh0 j hj) (hh1 j hj)
    · refine ⟨m, hm.at' fun o e => g.keep _ o (hn' hl) e, fun j y sl' hy hk' hs' => ?_⟩
      have hj : j ≠ i := fun e => by
        subst e
        have : y = x := Option.some.inj (hy.symm.trans hx)
        subst this
        rw [hl] at hk'; cases hk'
      exact (hv j y sl' hy hk' (set_ne j sl' hj hs')).mono hk hKK (hh0 j hj) (hh1 j hj)
  · intro j y sl' hy hk' hs'
    by_cases hj : j = i
    · subst hj
      have : y = x := Option.some.inj (hy.symm.trans hx)
      subst this
      have hl : j < ρ.length := by have := (List.getElem?_eq_some_iff.mp hs').1; rwa [List.length_set] at this
      obtain ⟨c, ov, hcc, hi, _⟩ := F.cel j y ρ[j] hy hk' (List.getElem?_eq_getElem hl)
      exact ⟨c, v, hcc, hc hk' c hcc, by rw [set_eq sl' hs']; exact hr⟩
    · obtain ⟨c, ov, hcc, ⟨o, ho, hd⟩, hv⟩ := F.cel j y sl' hy hk' (set_ne j sl' hj hs')
      exact ⟨c, ov, hcc, ⟨o, g.keep c o (hWc y c (nodup j y hy hj) hcc) ho, hd⟩, hv.mono hk hKK (hh0 j hj) (hh1 j hj)⟩
  · intro y c hcc
    obtain ⟨⟨ov, o, ho, hd⟩, h2, h3, h4⟩ := F.ctop y c hcc
    refine ⟨?_, h2, h3, h4⟩
    by_cases hy : y = x
    · subst hy
      rcases hL with hl | hl
      · exact ⟨ov, o, g.keep c o (hc' hl c hcc) ho, hd⟩
      · exact ⟨v, hc hl c hcc⟩
    · exact ⟨ov, o, g.keep c o (hWc y c hy hcc) ho, hd⟩
  · intro j a h
    have fresh : s.heap.objs.size ≤ a ∧ a < s'.heap.objs.size → a < s'.heap.objs.size ∧ a ≠ env.locals ∧ (∀ x c, env.cells.lookup x = some c → a ≠ c) ∧ ¬ K₀ a ∧ C.hT.objs.size ≤ a := fun q =>
      ⟨q.2, fun e => Nat.lt_irrefl _ (Nat.lt_of_lt_of_le (e ▸ F.locLt) q.1), fun y c hcc e => Nat.lt_irrefl _ (Nat.lt_of_lt_of_le (e ▸ F.celLt hcc) q.1), fun hk0 => Nat.lt_irrefl _ (Nat.lt_of_lt_of_le (F.k0 a hk0) q.1), Nat.le_trans F.tsz q.1⟩
    have old : ∀ k, H k = some a → a < s'.heap.objs.size ∧ a ≠ env.locals ∧ (∀ x c, env.cells.lookup x = some c → a ≠ c) ∧ ¬ K₀ a ∧ C.hT.objs.size ≤ a := fun k hk =>
      let ⟨q1, q2, q3, q4, q5⟩ := F.hd k a hk; ⟨Nat.lt_of_lt_of_le q1 g.size, q2, q3, q4, q5⟩
    rcases hput_some h with ⟨_, e⟩ | ⟨_, e⟩ | ⟨_, _, e⟩
    · exact (h0 a e).elim (old _) fresh
    · exact (h1 a e).elim (old _) fresh
    · exact old _ e
  · intro j k a hj hk'
    have no : ∀ {l : Nat}, l ≠ 2 * i → l ≠ 2 * i + 1 → H l = some a → ∀ {q : Nat}, (q = 2 * i ∨ q = 2 * i + 1) → (H q = some a ∨ (s.heap.objs.size ≤ a ∧ a < s'.heap.objs.size)) → False := by
      intro l e1 e2 hl q hq hor
      rcases hor with h | h
      · have := F.hinj l q a hl h; omega
      · exact Nat.lt_irrefl _ (Nat.lt_of_lt_of_le (F.hd l a hl).1 h.1)
    rcases hput_some hj with ⟨e, p⟩ | ⟨e, p⟩ | ⟨e, e', p⟩ <;> rcases hput_some hk' with ⟨f, q⟩ | ⟨f, q⟩ | ⟨f, f', q⟩
    · omega
    · exact (h01 a p q).elim
    · exact (no f f' q (.inl rfl) (h0 a p)).elim
    · exact (h01 a q p).elim
    · omega
    · exact (no f f' q (.inr rfl) (h1 a p)).elim
    · exact (no e e' p (.inl rfl) (h0 a q)).elim
    · exact (no e e' p (.inr rfl) (h1 a q)).elim
    · exact F.hinj j k a p q
end
end Mine
end

section
open PySem PyProof.Rows
set_option linter.unusedVariables false
namespace Mine
section
variable {C : Cfg} {Φ : Fs} {env : Env} {K₀ : Addr → Prop} {H : Nat → Option Addr} {ρ : List Sl} {s s₁ s' : Shared}

theorem sameBut_late {a : Addr} {h' : Heap} {tk : Nat} (hs : Heap.SameBut a s.heap h') : Late (fun b => b = a) No s { s with heap := h', toks := tk } :=
  .heap (fun b o hb e => hs.extBut b o hb e) (Nat.le_of_eq hs.1.symm)

theorem wp_storeL {A : Around} {i : Nat} {x : Str} {sl : Sl} {ha hb : Option Addr} {v : Value} {Q : Unit → Shared → Prop} (F : Fm C Φ env K₀ H ρ s) (g : Grow s s₁)
    (hx : Φ.names[i]? = some x) (hw : Φ.kind x = some .cell → Φ.wc = true)
    (h0 : ∀ a, ha = some a → H (2 * i) = some a ∨ (s.heap.objs.size ≤ a ∧ a < s₁.heap.objs.size))
    (h1 : ∀ a, hb = some a → H (2 * i + 1) = some a ∨ (s.heap.objs.size ≤ a ∧ a < s₁.heap.objs.size))
    (h01 : ∀ a, ha = some a → hb = some a → False)
    (hr : VarRep s₁.heap (Kof K₀ Φ env (hput H i ha hb)) (hput H i ha hb) i (some v) sl)
    (hQ : ∀ s', Fm C Φ env K₀ (hput H i ha hb) (ρ.set i sl) s' → Late (Wr Φ env H) No s s' → Late (Wr Φ env H) No s₁ s' → Q () s') : wp C A (storeName env x v) Q s₁ := by
  have F₁ := F.grow g
  have hk : env.scope.kind = .function := by rw [F.envOk.scope]; exact F.fsOk.kind
  have hkn : ∀ k, Φ.kind x = k → env.kindOf x = k := fun k h => by unfold Env.kindOf; rw [F.envOk.scope]; exact h
  have hne : ∀ w, Wr Φ env H w → w < s.heap.objs.size := fun w h => F.wrLt h
  have head : ∀ {a : Addr} {w : Addr} {k : Nat} (hh : H k = some a ∨ (s.heap.objs.size ≤ a ∧ a < s₁.heap.objs.size)), w = env.locals ∨ (∃ y, env.cells.lookup y = some w) → a ≠ w := by
    intro a w k hh hw' e
    subst e
    rcases hh with hh | hh
    · rcases hw' with q | ⟨y, q⟩
      · exact (F.hd k a hh).2.1 q
      · exact (F.hd k a hh).2.2.1 y a q rfl
    · rcases hw' with q | ⟨y, q⟩
      · exact Nat.lt_irrefl _ (Nat.lt_of_lt_of_le (q ▸ F.locLt) hh.1)
      · exact Nat.lt_irrefl _ (Nat.lt_of_lt_of_le (F.celLt q) hh.1)
  have fin : ∀ (w : Addr) (h' : Heap) (tk : Nat), Heap.SameBut w s₁.heap h' → (w = env.locals ∨ (Φ.wc = true ∧ ∃ y, env.cells.lookup y = some w)) →
      VarRep h' (Kof K₀ Φ env (hput H i ha hb)) (hput H i ha hb) i (some v) sl := by
    intro w h' tk hs hw'
    have hw'' : w = env.locals ∨ (∃ y, env.cells.lookup y = some w) := hw'.imp id And.right
    have hKw : Kof K₀ Φ env (hput H i ha hb) w := .inr (hw'.elim .inl fun q => .inr (.inl q))
    refine hr.mono (fun b o hb e => hs.extBut b o (fun q => hb (q ▸ hKw)) e) (fun b h => .inl h) (fun a h => ⟨h, fun o e => hs.extBut a o ?_ e⟩) (fun a h => ⟨h, fun o e => hs.extBut a o ?_ e⟩)
    · rw [hput_0] at h; exact head (h0 a h) hw''
    · rw [hput_1] at h; exact head (h1 a h) hw''
  rcases F.fsOk.kinds x (List.mem_of_getElem? hx) with hl | hl
  · obtain ⟨m, hm, _⟩ := F₁.loc
    refine wpAny_storeName_local (hkn _ hl) hm (fun h' hn hs => ?_) (by rw [hk]; rfl)
    have L : Late (fun b => b = env.locals) No s { s₁ with heap := h', toks := s₁.toks + 1 } := Late.after g (sameBut_late hs)
    refine hQ _ (F.turn (W := fun b => b = env.locals) (v := some v) hx L (fun j a hj h e => ?_) (fun b e => ?_) (fun y c hy hc e => ?_) (fun b e => e ▸ F.ltop) (fun u0 m₀ hm₀ => ?_) (fun hc => ?_) (fun hc => ?_) (fun u0 c hc e => ?_)
      (fun a e => (h0 a e).imp id fun q => ⟨q.1, Nat.lt_of_lt_of_le q.2 (Nat.le_of_eq hs.1.symm)⟩) (fun a e => (h1 a e).imp id fun q => ⟨q.1, Nat.lt_of_lt_of_le q.2 (Nat.le_of_eq hs.1.symm)⟩) h01 (fin _ h' 0 hs (.inl rfl))) ?_ ((sameBut_late hs).mono (fun b e => .inl (.inl e)) fun u0 h => h.elim)
    · subst e
      rcases h with h | h <;> exact (F.hd _ _ h).2.1 rfl
    · subst e; exact ⟨.inr (.inl rfl), F.k0l⟩
    · exact (F.ctop y c hc).2.1 e
    · refine ⟨_, hn, by simp, fun y hy => ?_⟩
      rw [if_neg hy]
      obtain ⟨o, es, ep, e1, e2, _, e3⟩ := hm
      obtain ⟨o', es', ep', e1', e2', _, e3'⟩ := hm₀
      rw [g.get e1'] at e1; cases e1
      rw [e2'] at e2; cases e2
      rw [← e3, ← e3']
    · rw [hl] at hc; cases hc
    · rw [hl] at hc; cases hc
    · exact (F.ctop x c hc).2.1 e
    · exact L.mono (fun b e => .inl (.inl e)) fun u0 h => h.elim
  · obtain ⟨c, hc⟩ : ∃ c, env.cells.lookup x = some c := by
      rcases hρ : ρ[i]? with _ | sl₀
      · exfalso
        have h1 := List.getElem?_eq_none_iff.mp hρ
        have h2 := (List.getElem?_eq_some_iff.mp hx).1
        rw [F.len] at h1; omega
      · obtain ⟨c, _, hc, _⟩ := F.cel i x sl₀ hx hl hρ
        exact ⟨c, hc⟩
    obtain ⟨⟨ov, hi⟩, hcl, _⟩ := F₁.ctop x c hc
    refine wpAny_storeName_cell hk (hkn _ hl) hc hi (fun h' hi' hs => ?_)
    have L : Late (fun b => b = c) No s { s₁ with heap := h', toks := s₁.toks } := Late.after g (sameBut_late hs)
    refine hQ _ (F.turn (W := fun b => b = c) (v := some v) hx L (fun j a hj h e => ?_) (fun b e => ?_) (fun y c' hy hc' e => ?_) (fun b e => ?_) (fun hl' => ?_) (fun u0 e => hcl e.symm) (fun u0 c' hc' => ?_) (fun hl' => ?_)
      (fun a e => (h0 a e).imp id fun q => ⟨q.1, Nat.lt_of_lt_of_le q.2 (Nat.le_of_eq hs.1.symm)⟩) (fun a e => (h1 a e).imp id fun q => ⟨q.1, Nat.lt_of_lt_of_le q.2 (Nat.le_of_eq hs.1.symm)⟩) h01 (fin _ h' 0 hs (.inr ⟨hw hl, x, hc⟩))) ?_ ((sameBut_late hs).mono (fun b e => .inl (.inr (.inl ⟨hw hl, x, e ▸ hc⟩))) fun u0 h => h.elim)
    · subst e
      rcases h with h | h <;> exact (F.hd _ _ h).2.2.1 x _ hc rfl
    · subst e; exact ⟨.inr (.inr (.inl ⟨hw hl, x, hc⟩)), (F.ctop x _ hc).2.2.2 (hw hl)⟩
    · subst e; exact hy (F.cinj y x _ hc' hc)
    · subst e; exact (F.ctop x _ hc).2.2.1
    · rw [hl] at hl'; cases hl'
    · rw [hc] at hc'; cases hc'; exact hi'
    · rw [hl] at hl'; cases hl'
    · exact L.mono (fun b e => .inl (.inr (.inl ⟨hw hl, x, e ▸ hc⟩))) fun u0 h => h.elim

theorem wp_store {A : Around} {i : Nat} {x : Str} {sl : Sl} {ha hb : Option Addr} {v : Value} {Q : Unit → Shared → Prop} (F : Fm C Φ env K₀ H ρ s) (g : Grow s s₁)
    (hx : Φ.names[i]? = some x) (hw : Φ.kind x = some .cell → Φ.wc = true)
    (h0 : ∀ a, ha = some a → H (2 * i) = some a ∨ (s.heap.objs.size ≤ a ∧ a < s₁.heap.objs.size))
    (h1 : ∀ a, hb = some a → H (2 * i + 1) = some a ∨ (s.heap.objs.size ≤ a ∧ a < s₁.heap.objs.size))
    (h01 : ∀ a, ha = some a → hb = some a → False)
    (hr : VarRep s₁.heap (Kof K₀ Φ env (hput H i ha hb)) (hput H i ha hb) i (some v) sl)
    (hQ : ∀ s', Fm C Φ env K₀ (hput H i ha hb) (ρ.set i sl) s' → Late (Wr Φ env H) No s s' → Q () s') : wp C A (storeName env x v) Q s₁ :=
  wp_storeL F g hx hw h0 h1 h01 hr fun s' a b u0 => hQ s' a b
end
end Mine
end

section
open PySem PyProof.Rows
set_option linter.unusedVariables false
namespace Mine

structure Rm (A : Around) (k : Nat) : Prop where
  hh : A.handled = none
  d : A.depth + k ≤ 900
  u : A.units + 16 * k ≤ 9000

theorem Rm.mono {A : Around} {k l : Nat} (x : Rm A l) (h : k ≤ l) : Rm A k := ⟨x.hh, by have := x.d; omega, by have := x.u; omega⟩
theorem Rm.deeper {A : Around} {k : Nat} (x : Rm A (k + 1)) (env : Env) : Rm (A.deeper env) k :=
  ⟨x.hh, by have := x.d; show A.depth + 1 + k ≤ 900; omega, by have := x.u; show A.units + 3 + 16 * k ≤ 9000; omega⟩
theorem Rm.lt {A : Around} {k : Nat} (x : Rm A k) : A.depth < recursionLimit := by have := x.d; show A.depth < 1000; omega
theorem Rm.ult {A : Around} {k : Nat} (x : Rm A k) : A.units < cLine := by have := x.u; show A.units < 9900; omega
structure EvS (C : Cfg) (Φ : Fs) (ℓ : Nat) (e : Expr) (f : List Sl → Option MV) : Prop where
  mk ::
  go : ∀ A, Rm A ℓ → ∀ env K₀ H ρ s mv, Fm C Φ env K₀ H ρ s → f ρ = some mv → wp C A (eval e env) (fun v s' => Rep s'.heap (Kof K₀ Φ env H) v mv ∧ Grow s s') s
structure EvH (C : Cfg) (Φ : Fs) (ℓ : Nat) (e : Expr) (f : List Sl → Option MV) : Prop where
  mk ::
  go : ∀ A, Rm A ℓ → ∀ env K₀ H ρ s mv, Fm C Φ env K₀ H ρ s → f ρ = some mv → wp C A (eval e env) (fun v s' => RepH s'.heap (Kof K₀ Φ env H) v mv ∧ Grow s s') s

section
variable {C : Cfg} {Φ : Fs} {ℓ : Nat}

theorem EvH.of {e : Expr} {f : List Sl → Option MV} (h : EvS C Φ ℓ e f) : EvH C Φ ℓ e f := .mk fun A r env K₀ H ρ s mv F hf =>
  wp_mono (h.go A r env K₀ H ρ s mv F hf) fun v s' q => ⟨.inl q.1, q.2⟩

noncomputable def getV (ρ : List Sl) (i : Nat) : Option MV := match ρ[i]? with
  | some (.v mv) => some mv
  | _ => none
noncomputable def getH (ρ : List Sl) (i : Nat) : Option MV := match ρ[i]? with
  | some (.v mv) => some mv
  | some (.m xs) => some (.list xs)
  | _ => none

set_option tactic.hygienic true in
theorem EvS.name {x : Str} {pos : Pos} {i : Nat} (hx : Φ.names[i]? = some x) : EvS C Φ ℓ (.Name x pos) (fun ρ => getV ρ i) := .mk fun A r env K₀ H ρ s mv F hf => by
  replace hf : getV ρ i = some mv := hf
  unfold getV at hf
  split at hf
  · next mv' hs =>
    cases hf
    exact wp_Name F hx hs (by nofun) fun v hv => by obtain ⟨v', e, hr⟩ := hv; cases e; exact ⟨hr, Late.refl s⟩
  · cases hf
set_option tactic.hygienic true in
theorem EvH.name {x : Str} {pos : Pos} {i : Nat} (hx : Φ.names[i]? = some x) : EvH C Φ ℓ (.Name x pos) (fun ρ => getH ρ i) := .mk fun A r env K₀ H ρ s mv F hf => by
  replace hf : getH ρ i = some mv := hf
  unfold getH at hf
  split at hf
  · next mv' hs =>
    cases hf
    exact wp_Name F hx hs (by nofun) fun v hv => by obtain ⟨v', e, hr⟩ := hv; cases e; exact ⟨.inl hr, Late.refl s⟩
  · next xs hs =>
    cases hf
    exact wp_Name F hx hs (by nofun) fun v hv => by obtain ⟨a, vs, e, _, hp, ra⟩ := hv; cases e; exact ⟨.inr ⟨a, vs, xs, rfl, rfl, hp, ra⟩, Late.refl s⟩
  · cases hf

theorem EvS.int {i : Int} {k : Nat} {pos : Pos} : EvS C Φ ℓ (.Constant (.int i) k pos) (fun u0 => some (.int i)) := .mk fun A r env K₀ H ρ s mv F hf => by
  cases hf; exact wpAny_Constant_int ⟨.int _ _, Late.tok⟩
theorem EvS.str {x : Str} {k : Nat} {pos : Pos} {cs : List Nat} (hx : x = ⟨cs.toArray⟩) : EvS C Φ ℓ (.Constant (.str x) k pos) (fun u0 => some (.str cs)) := .mk fun A r env K₀ H ρ s mv F hf => by
  cases hf; subst hx; exact wpAny_Constant_str ⟨.str _ _, Late.tok⟩
theorem EvS.bool {b : Bool} {k : Nat} {pos : Pos} : EvS C Φ ℓ (.Constant (.bool b) k pos) (fun u0 => some (.bool b)) := .mk fun A r env K₀ H ρ s mv F hf => by
  cases hf; exact wpAny_Constant_bool ⟨.bool _, Late.refl s⟩
theorem EvS.none {k : Nat} {pos : Pos} : EvS C Φ ℓ (.Constant .none k pos) (fun u0 => some .none) := .mk fun A r env K₀ H ρ s mv F hf => by
  cases hf; exact wpAny_Constant_none ⟨.none, Late.refl s⟩
theorem EvS.bytes {bs : List UInt8} {k : Nat} {pos : Pos} : EvS C Φ ℓ (.Constant (.bytes bs) k pos) (fun u0 => some (.bytes bs)) := .mk fun A r env K₀ H ρ s mv F hf => by
  cases hf
  show wp C A (mkTextBytes bs.toArray) _ s
  exact wpAny_bind (wpAny_fresh (wpAny_pure ⟨.bytes _ _, Late.tok⟩))
end

noncomputable def lim : Nat := 16777216
noncomputable def small (i : Int) : Bool := decide (-(2 ^ 64) < i) && decide (i < 2 ^ 64)

noncomputable def intOp (f : Int → Int → Option MV) (a b : MV) : Option MV := on2 asInt asInt f none a b
theorem intOp_inv {f : Int → Int → Option MV} {a b c : MV} (h : intOp f a b = some c) : ∃ x y, a = .int x ∧ b = .int y ∧ f x y = some c := by
  rcases on2_inv h with ⟨x, y, hx, hy, h⟩ | h
  · exact ⟨x, y, asInt_inv hx, asInt_inv hy, h⟩
  · cases h
theorem if_inv {p : Prop} [Decidable p] {x c : MV} (h : (if p then some x else none) = some c) : p ∧ c = x := by
  by_cases hp : p
  · rw [if_pos hp] at h; exact ⟨hp, (Option.some.inj h).symm⟩
  · rw [if_neg hp] at h; cases h
noncomputable def addV (a b : MV) : Option MV :=
  on2 asInt asInt (fun x y => some (.int (x + y)))
    (on2 asStr asStr (fun x y => if x.length + y.length ≤ lim then some (.str (x ++ y)) else none)
      (on2 asBytes asBytes (fun x y => if x.length + y.length ≤ lim then some (.bytes (x ++ y)) else none)
        (on2 asList asList (fun x y => if x.length + y.length ≤ lim then some (.list (x ++ y)) else none) none a b) a b) a b) a b
noncomputable def subV : MV → MV → Option MV := intOp fun a b => some (.int (a - b))
noncomputable def mulV (a b : MV) : Option MV := (asInt b).bind fun n =>
  (asInt a).elim ((asStr a).elim ((asList a).bind fun x => if n ≤ 1000 ∧ -1000 ≤ n ∧ x.length ≤ 1000 then some (.list (List.replicate n.toNat x).flatten) else none)
      fun x => if n ≤ 1000 ∧ -1000 ≤ n ∧ x.length ≤ 1000 then some (.str (List.replicate n.toNat x).flatten) else none)
    fun x => if small x then some (.int (x * n)) else none
noncomputable def fdivV : MV → MV → Option MV := intOp fun a b => if b ≠ 0 ∧ b.natAbs < 1073741824 then some (.int (a.fdiv b)) else none
noncomputable def modV : MV → MV → Option MV := intOp fun a b => if b = 0 then none else some (.int (a.fmod b))
noncomputable def powV : MV → MV → Option MV := intOp fun a b => if small a ∧ 0 ≤ b ∧ b ≤ 1000 then some (.int (a ^ b.toNat)) else none
noncomputable def binOp : Operator → MV → MV → Option MV
  | .Add => addV
  | .Sub => subV
  | .Mult => mulV
  | .FloorDiv => fdivV
  | .Mod => modV
  | .Pow => powV
  | _ => fun u0 u1 => none

theorem powV_int (a b : Int) : binOp .Pow (.int a) (.int b) = if small a = true ∧ 0 ≤ b ∧ b ≤ 1000 then some (.int (a ^ b.toNat)) else none := rfl

theorem small_bits {a : Int} (h : small a = true) : Builtin.Int.intBits a ≤ 64 := by
  unfold small at h
  rw [Bool.and_eq_true, decide_eq_true_iff, decide_eq_true_iff] at h
  exact intBits_le_64 h.1 h.2
theorem small_abs {a : Int} (h : small a = true) : a.natAbs < 2 ^ 64 := by
  unfold small at h
  rw [Bool.and_eq_true, decide_eq_true_iff, decide_eq_true_iff] at h
  omega

theorem flat_foldl {α : Type} (a : List α) : ∀ (n : Nat) (acc : Array α), (List.replicate n a.toArray).foldl (· ++ ·) acc = (acc.toList ++ (List.replicate n a).flatten).toArray
  | 0, acc => by simp
  | n + 1, acc => by
    rw [List.replicate_succ, List.foldl_cons, flat_foldl a n]
    simp [List.replicate_succ]

theorem div_big {n : Int} (h0 : 1 ≤ n) (h1 : n ≤ 1000) : 1000 < (2 ^ 63 - 1) / n := by
  have : (1001 : Int) ≤ (2 ^ 63 - 1) / n := Int.le_ediv_of_mul_le (by omega) (by omega)
  omega

theorem str_append (a b : List Nat) : (⟨a.toArray⟩ : Str) ++ (⟨b.toArray⟩ : Str) = ⟨(a ++ b).toArray⟩ := by
  show Str.mk (a.toArray ++ b.toArray) = _
  rw [List.append_toArray]

section
variable {C : Cfg} {A : Around} {s : Shared} {K : Addr → Prop}

theorem mul_str_is (a : List Nat) (n : Int) : Txt.mul ⟨a.toArray⟩ n = ⟨(List.replicate n.toNat a).flatten.toArray⟩ := by
  unfold Txt.mul
  by_cases h1 : n < 1
  · rw [if_pos h1]
    have : n.toNat = 0 := by omega
    rw [this]; rfl
  · rw [if_neg h1]
    by_cases h2 : (n == 1 || Str.length ⟨a.toArray⟩ == 0) = true
    · rw [if_pos h2]
      rw [Bool.or_eq_true] at h2
      rcases h2 with h2 | h2
      · have : n = 1 := by simpa using h2
        subst this; simp
      · have : a = [] := by
          have : a.length = 0 := by simpa [Str.length] using h2
          exact List.eq_nil_of_length_eq_zero this
        subst this
        have : ∀ k, (List.replicate k ([] : List Nat)).flatten = [] := fun k => by simp
        rw [this]
    · rw [if_neg h2, flat_foldl]; simp

theorem flat_nil {α : Type} (n : Nat) : (List.replicate n ([] : List α)).flatten = [] := by
  induction n with
  | zero => rfl
  | succ n ih => exact ih
theorem rep_ok {n : Int} {k : Nat} (h1 : n ≤ 1000) (h2 : -1000 ≤ n) (h3 : k ≤ 1000) : n < 2 ^ 63 ∧ -2 ^ 63 ≤ n ∧ (¬ n < 1 → ¬ ((2 ^ 63 - 1) / n < k)) ∧ ¬ k * n.toNat > 2 ^ 24 ∧ ¬ k * n.toNat > (2 ^ 63 - 1) / 8 := by
  have := Nat.mul_le_mul h3 (show n.toNat ≤ 1000 by omega)
  refine ⟨by omega, by omega, fun h => ?_, by omega, by omega⟩
  have := div_big (n := n) (by omega) h1
  omega
theorem flat_if (vs : List Value) (n : Nat) : List.foldl (fun x1 x2 => x1 ++ x2) #[] (List.replicate (if vs.toArray.isEmpty = true then 0 else n) vs.toArray) = (List.replicate n vs).flatten.toArray := by
  rw [flat_foldl]
  cases vs with
  | nil => rw [flat_nil, flat_nil]; rfl
  | cons v vs => rw [if_neg (by exact Bool.false_ne_true)]; rfl
theorem wp_binOp {op : Operator} {a b c : MV} {va vb : Value} (ha : RepH s.heap K va a) (hb : RepH s.heap K vb b) (hK : ∀ x, K x → x < s.heap.objs.size) (h : binOp op a b = some c) :
    wp C A (binaryOp op va vb) (fun v s' => Rep s'.heap K v c ∧ Grow s s') s := by
  have newList : ∀ (vs : List Value) (xs : List MV), RepAll s.heap K vs xs → Rep (s.heap.push { cls := .type "list", data := .seq vs.toArray }) K (.ref s.heap.objs.size) (.list xs) := fun vs xs ra =>
    .list (Ls.push _ _) (fun h => Nat.lt_irrefl _ (hK _ h)) (ra.mono (fun b o u0 e => Heap.get?_push_of_some _ e) fun u0 h => .inl h)
  cases op
  case Add =>
    replace h : addV a b = some c := h
    rcases on2_inv h with ⟨x, y, hx, hy, e⟩ | h'
    · obtain rfl := asInt_inv hx; obtain rfl := asInt_inv hy
      cases e
      obtain ⟨t, rfl⟩ := ha.isInt; obtain ⟨u, rfl⟩ := hb.isInt
      exact PyProof.Rows.add_int ⟨.int _ _, Late.tok⟩
    clear h
    rcases on2_inv h' with ⟨x, y, hx, hy, e⟩ | h
    · obtain rfl := asStr_inv hx; obtain rfl := asStr_inv hy
      obtain ⟨hl, rfl⟩ := if_inv e
      obtain ⟨t, rfl⟩ := ha.isStr; obtain ⟨u, rfl⟩ := hb.isStr
      refine PyProof.Rows.add_str (fun t' tk => ⟨?_, Late.tok⟩) hl
      rw [str_append]; exact .str _ _
    clear h'
    rcases on2_inv h with ⟨x, y, hx, hy, e⟩ | h'
    · obtain rfl := asBytes_inv hx; obtain rfl := asBytes_inv hy
      obtain ⟨hl, rfl⟩ := if_inv e
      obtain ⟨t, rfl⟩ := ha.isBytes; obtain ⟨u, rfl⟩ := hb.isBytes
      refine PySem.W.KBy.add_bytes hl fun t' tk => ⟨?_, Late.tok⟩
      rw [List.append_toArray]; exact .bytes _ _
    clear h
    rcases on2_inv h' with ⟨x, y, hx, hy, e⟩ | h
    · obtain rfl := asList_inv hx; obtain rfl := asList_inv hy
      obtain ⟨hl, rfl⟩ := if_inv e
      obtain ⟨a1, vs, rfl, ⟨n1, h1⟩, r1⟩ := ha.isList; obtain ⟨a2, ws, rfl, ⟨n2, h2⟩, r2⟩ := hb.isList
      rw [← r1.length, ← r2.length] at hl
      refine P.add_list h1 h2 ⟨?_, Late.push⟩ hl
      rw [List.append_toArray]; exact newList _ _ (r1.append r2)
    · cases h
  case Sub =>
    obtain ⟨x, y, rfl, rfl, h⟩ := intOp_inv h
    cases h
    obtain ⟨t, rfl⟩ := ha.isInt; obtain ⟨u, rfl⟩ := hb.isInt
    exact PyProof.Rows.sub_int ⟨.int _ _, Late.tok⟩
  case Mult =>
    obtain ⟨n, hn, h'⟩ := Option.bind_eq_some_iff.1 (show mulV a b = some c from h)
    clear h
    obtain rfl := asInt_inv hn
    obtain ⟨u, rfl⟩ := hb.isInt
    rcases elim_inv h' with ⟨a, hx, e⟩ | h
    · obtain rfl := asInt_inv hx
      obtain ⟨hl, rfl⟩ := if_inv e
      obtain ⟨t, rfl⟩ := ha.isInt
      exact PyProof.Rows.mul_int ⟨.int _ _, Late.tok⟩ (IntMulOk.of_left (small_bits hl))
    clear h'
    rcases elim_inv h with ⟨a, hx, e⟩ | h'
    · obtain rfl := asStr_inv hx
      obtain ⟨hl, rfl⟩ := if_inv e
      obtain ⟨t, rfl⟩ := ha.isStr
      obtain ⟨r1, r2, r3, r4, r5⟩ := rep_ok hl.1 hl.2.1 hl.2.2
      refine SB.mul ⟨?_, ?_, ?_⟩ fun t' tk => ⟨?_, Late.tok⟩
      · rw [decide_eq_false (Int.not_lt.2 r2), decide_eq_false (Int.not_le.2 r1)]; rfl
      · intro h1 _ h2
        exact absurd h2 (r3 h1)
      · intro h1 _
        exact decide_eq_false r4
      · rw [mul_str_is]; exact .str _ _
    · obtain ⟨a, hx, e⟩ := Option.bind_eq_some_iff.1 h'
      obtain rfl := asList_inv hx
      obtain ⟨hl, rfl⟩ := if_inv e
      obtain ⟨l, vs, rfl, ⟨k, ho⟩, ra⟩ := ha.isList
      have hl2 := hl.2.2
      rw [← ra.length] at hl2
      obtain ⟨r1, r2, r3, r4, r5⟩ := rep_ok hl.1 hl.2.1 hl2
      refine wpAny_binaryOp_repeat_ref (T := "list") (U := "int") (by decide) ⟨_, ho, rfl⟩ (fun s' => typeIs_int s' _ u) noFill_list_mul F.fills_int_mul F.slot_int_rmul repeat_list F.slot_int_index.lookup
        (call_meets F.slot_int_rmul (typeIs_int s _ u) F.entry_int_rmul (F.args_int_rmul_2 _ _) (lm_int_rmul_list_any _ u l vs.toArray k _ _)
          ⟨ho, rfl, ⟨_, ho, rfl⟩, call_meets F.slot_list_mul ⟨_, ho, rfl⟩ F.entry_list_mul (F.args_list_mul_2 _ _)
            (lm_list_mul_any l vs.toArray k _ _ _ u (by rw [Builtin.List.listFitsIndex, decide_eq_true r2, decide_eq_true r1]; exact Bool.false_ne_true) r5 fun h => r4 (of_decide_eq_true h))
            ⟨ho, ?_⟩⟩)
      rw [flat_if vs n.toNat]
      exact ⟨newList _ _ (ra.replicate _), Late.push⟩
  case FloorDiv =>
    obtain ⟨x, y, rfl, rfl, h⟩ := intOp_inv h
    obtain ⟨hb0, rfl⟩ := if_inv h
    obtain ⟨t, rfl⟩ := ha.isInt; obtain ⟨u, rfl⟩ := hb.isInt
    exact PyProof.Rows.floordiv_int hb0.1 ⟨.int _ _, Late.tok⟩ (Or.inl (PyProof.noPylong_small hb0.2))
  case Mod =>
    obtain ⟨x, y, rfl, rfl, h'⟩ := intOp_inv h
    obtain ⟨t, rfl⟩ := ha.isInt; obtain ⟨u, rfl⟩ := hb.isInt
    by_cases hb0 : y = 0
    · rw [if_pos hb0] at h'; cases h'
    · rw [if_neg hb0] at h'; cases h'
      exact PyProof.Rows.mod_int' hb0 ⟨.int _ _, Late.tok⟩
  case Pow =>
    obtain ⟨x, y, rfl, rfl, h⟩ := intOp_inv h
    obtain ⟨hl, rfl⟩ := if_inv h
    obtain ⟨t, rfl⟩ := ha.isInt; obtain ⟨u, rfl⟩ := hb.isInt
    exact pow_int_small hl.2.1 (by have := hl.2.2; clear h ha hb hl; omega) (small_abs hl.1) ⟨.int _ _, Late.tok⟩
  all_goals exact nomatch (show (none : Option MV) = some c from h)
end
end Mine
end

section
open PySem PyProof.Rows
set_option linter.unusedVariables false
namespace Mine

theorem ls_tuple {h : Heap} {a : Addr} {i j : Array Value} (x : Ls h a i) (y : h.IsTuple a j) : False := by
  obtain ⟨n, ho⟩ := x
  obtain ⟨o, ho', hc, _⟩ := y
  have e := ho.symm.trans ho'
  cases e; exact absurd (show Value.type "list" = Value.type "tuple" from hc) (by decide)
theorem tuple_inj {h : Heap} {a : Addr} {i j : Array Value} (x : h.IsTuple a i) (y : h.IsTuple a j) : i = j := by
  obtain ⟨o, ho, hc, n, hd⟩ := x
  obtain ⟨o', ho', hc', n', hd'⟩ := y
  have e := ho.symm.trans ho'
  cases e
  rw [hd] at hd'; cases hd'; rfl

theorem Rep.inj {h : Heap} {K : Addr → Prop} {v : Value} {x y : MV} (r : Rep h K v x) (q : Rep h K v y) : x = y := by
  refine Rep.rec (motive_1 := fun v x r => ∀ y, Rep h K v y → x = y) (motive_2 := fun vs xs r => ∀ ys, RepAll h K vs ys → xs = ys) ?_ ?_ ?_ ?_ ?_ ?_ ?_ ?_ ?_ r y q
  · intro y q; cases q; rfl
  · intro b y q; cases q; rfl
  · intro i t y q; cases q; rfl
  · intro cs t y q
    generalize hv : Value.str ⟨cs.toArray⟩ t = v at q
    cases q <;> cases hv
    rfl
  · intro cs t y q
    generalize hv : Value.bytes cs.toArray t = v at q
    cases q <;> cases hv
    rfl
  · intro a vs xs hp _ ra ih y q
    cases q with
    | @list _ ws zs hq _ rb =>
      have e : vs = ws := congrArg Array.toList (Ls.inj hp hq)
      subst e
      rw [ih _ rb]
    | tuple hq _ rb => exact (ls_tuple hp hq).elim
  · intro a vs xs hp _ ra ih y q
    cases q with
    | list hq _ rb => exact (ls_tuple hq hp).elim
    | @tuple _ ws zs hq _ rb =>
      have e : vs = ws := congrArg Array.toList (tuple_inj hp hq)
      subst e
      rw [ih _ rb]
  · intro ys q; cases q; rfl
  · intro v mv vs xs r ra i ih ys q
    cases q with
    | cons q qa => rw [i _ q, ih _ qa]
theorem RepAll.inj {h : Heap} {K : Addr → Prop} {vs : List Value} {xs ys : List MV} (ra : RepAll h K vs xs) (rb : RepAll h K vs ys) : xs = ys :=
  ra.ind (M := fun vs xs => ∀ ys, RepAll h K vs ys → xs = ys) (fun ys q => by cases q; rfl) (fun r ra ih ys q => by
    cases q with
    | cons q qa => rw [r.inj q, ih _ qa]) ys rb

mutual
noncomputable def eqV : MV → MV → Option Bool
  | .int a, .int b => some (a == b)
  | .str a, .str b => some (a == b)
  | .bool a, .bool b => some (a == b)
  | .list xs, .list ys => eqVs xs ys
  | _, _ => none
noncomputable def eqVs : List MV → List MV → Option Bool
  | [], [] => some true
  | x :: xs, y :: ys => (eqV x y).bind fun a => (eqVs xs ys).map (a && ·)
  | _, _ => some false
end
mutual
noncomputable def depV : MV → Nat
  | .list xs => depVs xs + 1
  | _ => 0
noncomputable def depVs : List MV → Nat
  | [] => 0
  | x :: xs => max (depV x) (depVs xs)
end
theorem eqVs_cons {x y : MV} {xs ys : List MV} {b : Bool} (h : eqVs (x :: xs) (y :: ys) = some b) : ∃ a c, eqV x y = some a ∧ eqVs xs ys = some c ∧ (a && c) = b := by
  have h : ((eqV x y).bind fun a => (eqVs xs ys).map (a && ·)) = some b := h
  obtain ⟨a, h1, h2⟩ := Option.bind_eq_some_iff.1 h
  obtain ⟨c, h3, h4⟩ := Option.map_eq_some_iff.1 h2
  exact ⟨a, c, h1, h3, h4⟩
theorem eqVs_self {xs : List MV} {b : Bool} (h : eqVs xs xs = some b) : b = true := by
  have eb : ∀ {a b : Bool}, some a = some b → a = true → b = true := fun e h => Option.some.inj e ▸ h
  refine MV.rec_1 (motive_1 := fun x => ∀ b, eqV x x = some b → b = true) (motive_2 := fun xs => ∀ b, eqVs xs xs = some b → b = true) ?_ ?_ ?_ ?_ ?_ ?_ ?_ ?_ ?_ xs b h
  · intro b h; cases h
  · intro a b h; exact eb (show some (a == a) = some b from h) (beq_self_eq_true a)
  · intro a b h; exact eb (show some (a == a) = some b from h) (beq_self_eq_true a)
  · intro a b h; exact eb (show some (a == a) = some b from h) (beq_self_eq_true a)
  · intro a b h; cases h
  · intro xs ih b h; exact ih b h
  · intro xs ih b h; cases h
  · intro b h; exact eb h rfl
  · intro x xs ih ihs b h
    obtain ⟨a, c, h1, h2, h3⟩ := eqVs_cons h
    rw [← h3, ih a h1, ihs c h2]; rfl
theorem eqVs_len {xs ys : List MV} {b : Bool} (h : eqVs xs ys = some b) (hl : xs.length ≠ ys.length) : b = false := by
  induction xs generalizing ys b with
  | nil =>
    cases ys with
    | nil => exact absurd rfl hl
    | cons y ys => exact (Option.some.inj h).symm
  | cons x xs ih =>
    cases ys with
    | nil => exact (Option.some.inj h).symm
    | cons y ys =>
      obtain ⟨a, c, h1, h2, h3⟩ := eqVs_cons h
      rw [← h3, ih h2 fun e => hl (congrArg (· + 1) e), Bool.and_false]
noncomputable def consN {α : Type} (a : α) (e : Nat → α) : Nat → α
  | 0 => a
  | j + 1 => e j
theorem eqVs_at {xs ys : List MV} {b : Bool} (h : eqVs xs ys = some b) (hl : xs.length = ys.length) :
    ∃ e : Nat → Bool, (∀ j x y, xs[j]? = some x → ys[j]? = some y → eqV x y = some (e j)) ∧ (List.range xs.length).all e = b := by
  induction xs generalizing ys b with
  | nil =>
    cases ys with
    | nil => exact ⟨fun u0 => true, ⟨fun j x y h => (by rw [List.getElem?_nil] at h; cases h), Option.some.inj h⟩⟩
    | cons y ys => cases hl
  | cons x xs ih =>
    cases ys with
    | nil => cases hl
    | cons y ys =>
      obtain ⟨a, c, h1, h2, h3⟩ := eqVs_cons h
      obtain ⟨e, he, hb⟩ := ih h2 (Nat.succ.inj hl)
      refine ⟨consN a e, fun j x' y' hx hy => ?_, ?_⟩
      · cases j with
        | zero => cases hx; cases hy; exact h1
        | succ j => exact he j x' y' hx hy
      · rw [List.length_cons, List.range_succ_eq_map, List.all_cons, List.all_map, ← h3, ← hb]; rfl
theorem depVs_get {xs : List MV} {j : Nat} {x : MV} (h : xs[j]? = some x) : depV x ≤ depVs xs := by
  induction xs generalizing j with
  | nil => rw [List.getElem?_nil] at h; cases h
  | cons y ys ih =>
    cases j with
    | zero => cases h; exact Nat.le_max_left ..
    | succ j => exact Nat.le_trans (ih h) (Nat.le_max_right ..)

open SeqAt MeetsSeq in
theorem eqAt_base {h : Heap} {K : Addr → Prop} {A : Around} {s : Shared} {va vb : Value} {a b : MV} {r : Bool} (ra : RepH h K va a) (rb : RepH h K vb b) (he : eqV a b = some r) (ha : ∀ xs, a ≠ .list xs) : EqAt A s va vb r := by
  cases a with
  | bool x =>
    cases b with
    | bool y =>
      cases he
      rw [ra.isBool, rb.isBool]
      exact EqAt.bool_bool x y
    | _ => cases he
  | int x =>
    cases b with
    | int y =>
      cases he
      obtain ⟨t, rfl⟩ := ra.isInt; obtain ⟨u, rfl⟩ := rb.isInt
      exact (EqGives.int x y t u).at A s
    | _ => cases he
  | str x =>
    cases b with
    | str y =>
      cases he
      obtain ⟨t, rfl⟩ := ra.isStr; obtain ⟨u, rfl⟩ := rb.isStr
      exact (SeqRoads2.EqGives.str _ _ t u).at A s
    | _ => cases he
  | list xs => exact absurd rfl (ha xs)
  | _ => cases he
theorem getElem_vs {vs : List Value} {j : Nat} (h : j < vs.toArray.size) {v : Value} (hv : vs[j]? = some v) : vs.toArray[j] = v :=
  Option.some.inj ((List.getElem?_eq_getElem h).symm.trans hv)
open SeqAt MeetsSeq in
theorem eqAt_rep {h : Heap} {K : Addr → Prop} (n : Nat) : ∀ {A : Around} {s : Shared} {va vb : Value} {a b : MV} {r : Bool}, s.heap = h → RepH h K va a → RepH h K vb b → eqV a b = some r → depV a ≤ n → A.units + n < cLine → EqAt A s va vb r := by
  induction n with
  | zero =>
    intro A s va vb a b r hs ra rb he hd hu
    exact eqAt_base ra rb he fun xs e => by rw [e] at hd; exact absurd hd (Nat.not_succ_le_zero _)
  | succ n ih =>
    intro A s va vb a b r hs ra rb he hd hu
    by_cases ha : ∀ xs, a ≠ .list xs
    · exact eqAt_base ra rb he ha
    obtain ⟨xs, ha⟩ := Classical.not_forall.1 ha
    obtain rfl := Classical.not_not.1 ha
    cases b with
    | list ys =>
      have he : eqVs xs ys = some r := he
      obtain ⟨l, vs, rfl, hl, r1⟩ := ra.isList
      obtain ⟨m, ws, rfl, hm, r2⟩ := rb.isList
      by_cases hlm : l = m
      · subst hlm
        have e : vs = ws := congrArg Array.toList (Ls.inj hl hm)
        subst e
        have := r1.inj r2
        subst this
        rw [eqVs_self he]
        exact EqAt.same _
      · refine EqAt.of_refs hlm ?_
        have il : s.heap.IsList l vs.toArray := hs ▸ hl.isList
        have im : s.heap.IsList m ws.toArray := hs ▸ hm.isList
        have l1 := r1.length
        have l2 := r2.length
        by_cases hlen : xs.length = ys.length
        · obtain ⟨e, he1, he2⟩ := eqVs_at he hlen
          have := RcAt.lists (A := A) (s := s) il im (e := e) (l1.trans (hlen.trans l2.symm)) (Nat.lt_of_le_of_lt (Nat.le_add_right ..) hu) (fun j h1 h2 => by
            have hx := List.getElem?_eq_getElem (Nat.lt_of_lt_of_eq h1 l1)
            have hy := List.getElem?_eq_getElem (Nat.lt_of_lt_of_eq h2 l2)
            obtain ⟨v, hv, rv⟩ := r1.get hx
            obtain ⟨w, hw, rw'⟩ := r2.get hy
            rw [getElem_vs h1 hv, getElem_vs h2 hw]
            exact ih (A := A.in1) hs (.inl rv) (.inl rw') (he1 j _ _ hx hy) (Nat.le_trans (depVs_get hx) (Nat.le_of_succ_le_succ hd)) (Nat.lt_of_le_of_lt (Nat.le_of_eq (Nat.succ_add_eq_add_succ ..)) hu))
          rw [show vs.toArray.size = xs.length from l1, he2] at this
          exact this
        · rw [eqVs_len he hlen]
          exact RcAt.lists_lengths il im (bne_iff_ne.2 fun e => hlen (l1.symm.trans (Eq.trans e l2))) (Nat.lt_of_le_of_lt (Nat.le_add_right ..) hu)
    | _ => cases he
end Mine
end

section
open PySem PyProof.Rows
set_option linter.unusedVariables false
namespace Mine
open PySem.StrLaws PySem.Builtin PySem.Builtin.Str

noncomputable def findL (y : List Nat) : List Nat → Option Nat
  | [] => if y.isEmpty then some 0 else none
  | c :: x => if y.isPrefixOf (c :: x) then some 0 else (findL y x).map (· + 1)

theorem at_iff (x y : List Nat) (i : Nat) : At ⟨x.toArray⟩ ⟨y.toArray⟩ x.length i ↔ i ≤ x.length ∧ y <+: x.drop i := by
  unfold At
  rw [subAt_eq]
  simp only [Str.length, List.size_toArray]
  rw [beq_iff_eq]
  constructor
  · rintro ⟨h1, h2⟩
    exact ⟨by omega, by rw [List.prefix_iff_eq_take]; exact h2.symm⟩
  · rintro ⟨h1, h2⟩
    have := h2.length_le
    rw [List.length_drop] at this
    exact ⟨by omega, (List.prefix_iff_eq_take.mp h2).symm⟩

theorem findL_none (y : List Nat) : ∀ (x : List Nat), findL y x = none → ∀ i, i ≤ x.length → ¬ y <+: x.drop i
  | [], h, i, hi => by
    unfold findL at h
    split at h
    · cases h
    · next he =>
      simp
      intro e
      exact he (by simp [e])
  | c :: x, h, i, hi => by
    unfold findL at h
    split at h
    · cases h
    · next he =>
      rw [Option.map_eq_none_iff] at h
      cases i with
      | zero => intro hp; exact he (List.isPrefixOf_iff_prefix.mpr hp)
      | succ i => exact findL_none y x h i (by simpa using hi)
theorem findL_some (y : List Nat) : ∀ (x : List Nat) (k : Nat), findL y x = some k → k ≤ x.length ∧ y <+: x.drop k ∧ ∀ i, i < k → ¬ y <+: x.drop i
  | [], k, h => by
    unfold findL at h
    split at h
    · next he => cases h; exact ⟨Nat.le_refl _, by simp at he; simp [he], fun i hi => by omega⟩
    · cases h
  | c :: x, k, h => by
    unfold findL at h
    split at h
    · next he => cases h; exact ⟨by simp, List.isPrefixOf_iff_prefix.mp he, fun i hi => by omega⟩
    · next he =>
      rw [Option.map_eq_some_iff] at h
      obtain ⟨j, hj, rfl⟩ := h
      obtain ⟨h1, h2, h3⟩ := findL_some y x j hj
      refine ⟨by simpa using h1, by simpa using h2, fun i hi => ?_⟩
      cases i with
      | zero => intro hp; exact he (List.isPrefixOf_iff_prefix.mpr hp)
      | succ i => exact h3 i (by omega)

theorem occ_findL (x y : List Nat) (limit : Nat) (hl : 1 ≤ limit) :
    match findL y x with
    | none => occurrences ⟨x.toArray⟩ ⟨y.toArray⟩ 0 x.length limit = []
    | some k => ∃ r, occurrences ⟨x.toArray⟩ ⟨y.toArray⟩ 0 x.length limit = k :: r := by
  have hsz : Str.length ⟨x.toArray⟩ = x.length := by simp [Str.length]
  have h := occ_head ⟨x.toArray⟩ ⟨y.toArray⟩ limit hl
  rw [hsz] at h
  cases hf : findL y x with
  | none =>
    rcases h with ⟨h, _⟩ | ⟨i, r, h, ha, _⟩
    · exact h
    · have := (at_iff x y i).mp ha
      exact absurd this.2 (findL_none y x hf i this.1)
  | some k =>
    obtain ⟨h1, h2, h3⟩ := findL_some y x k hf
    rcases h with ⟨h, hn⟩ | ⟨i, r, h, ha, hm⟩
    · exact absurd ((at_iff x y k).mpr ⟨h1, h2⟩) (hn k)
    · have hi := (at_iff x y i).mp ha
      have : i = k := by
        rcases Nat.lt_trichotomy i k with q | q | q
        · exact absurd hi.2 (h3 i q)
        · exact q
        · exact absurd ((at_iff x y k).mpr ⟨h1, h2⟩) (hm k q)
      subst this
      exact ⟨r, h⟩

theorem contains_eq (x y : List Nat) : Txt.contains ⟨x.toArray⟩ ⟨y.toArray⟩ = (findL y x).isSome := by
  have h := occ_findL x y 1 (Nat.le_refl _)
  unfold Txt.contains
  rw [show Str.length ⟨x.toArray⟩ = x.length by simp [Str.length]]
  cases hf : findL y x with
  | none => rw [hf] at h; simp only at h; rw [h]; rfl
  | some k => rw [hf] at h; obtain ⟨r, h⟩ := h; rw [h]; rfl

theorem startswith_eq (x y : List Nat) : Txt.startswith ⟨x.toArray⟩ ⟨y.toArray⟩ = y.isPrefixOf x := by
  unfold Txt.startswith
  rw [subAt_eq, Bool.eq_iff_iff, Bool.and_eq_true, decide_eq_true_iff, beq_iff_eq, List.isPrefixOf_iff_prefix, List.prefix_iff_eq_take]
  simp only [Str.length, List.size_toArray, List.drop_zero]
  constructor
  · rintro ⟨h1, h2⟩; exact h2.symm
  · intro h
    refine ⟨?_, h.symm⟩
    have := congrArg List.length h
    rw [List.length_take] at this
    omega
theorem endswith_eq (x y : List Nat) : Txt.endswith ⟨x.toArray⟩ ⟨y.toArray⟩ = y.isSuffixOf x := by
  unfold Txt.endswith
  rw [subAt_eq, Bool.eq_iff_iff, Bool.and_eq_true, decide_eq_true_iff, beq_iff_eq, List.isSuffixOf_iff_suffix, List.suffix_iff_eq_drop]
  simp only [Str.length, List.size_toArray]
  constructor
  · rintro ⟨h1, h2⟩
    rw [List.take_of_length_le (by rw [List.length_drop]; omega)] at h2
    exact h2.symm
  · intro h
    have hl := congrArg List.length h
    rw [List.length_drop] at hl
    refine ⟨by omega, ?_⟩
    rw [List.take_of_length_le (by rw [List.length_drop]; omega)]
    exact h.symm

noncomputable def splitN (y : List Nat) : Nat → List Nat → List (List Nat)
  | 0, x => [x]
  | n + 1, x => match findL y x with
    | none => [x]
    | some k => x.take k :: splitN y n (x.drop (k + y.length))
noncomputable def splitL (y x : List Nat) : List (List Nat) := splitN y (x.length + 1) x

theorem parts_splitN (x y : List Nat) (hy : 1 ≤ y.length) : ∀ (n : Nat) (a f : Nat) (cuts : List Nat), a ≤ x.length → x.length - a < n →
    ChainG ⟨x.toArray⟩ ⟨y.toArray⟩ x.length a cuts f → (∀ k, f ≤ k → ¬ At ⟨x.toArray⟩ ⟨y.toArray⟩ x.length k) →
    partsFrom ⟨x.toArray⟩ y.length a cuts = (splitN y n (x.drop a)).map fun p => (⟨p.toArray⟩ : Str)
  | 0, a, f, cuts, ha, hn, hc, hl => by omega
  | n + 1, a, f, [], ha, hn, hc, hl => by
    have e : f = a := hc
    subst e
    have : findL y (x.drop f) = none := by
      cases hf : findL y (x.drop f) with
      | none => rfl
      | some k =>
        obtain ⟨h1, h2, _⟩ := findL_some _ _ _ hf
        rw [List.length_drop] at h1
        rw [List.drop_drop] at h2
        exact absurd ((at_iff x y (f + k)).mpr ⟨by omega, h2⟩) (hl _ (by omega))
    rw [splitN, this]
    show [strSub ⟨x.toArray⟩ f (Str.length ⟨x.toArray⟩)] = _
    have e : strSub ⟨x.toArray⟩ f (Str.length ⟨x.toArray⟩) = ⟨(x.drop f).toArray⟩ := by
      apply Str.ext'; apply Array.toList_inj.mp
      rw [strSub_toList]
      simp only [Str.length, List.size_toArray]
      rw [List.take_of_length_le (by rw [List.length_drop]; omega)]
    rw [e]; rfl
  | n + 1, a, f, c :: cuts, ha, hn, hc, hl => by
    obtain ⟨h1, h2, h3, h4⟩ := hc
    have hA := (at_iff x y c).mp h2
    have hf : findL y (x.drop a) = some (c - a) := by
      cases hf : findL y (x.drop a) with
      | none =>
        have := findL_none _ _ hf (c - a) (by rw [List.length_drop]; omega)
        rw [List.drop_drop] at this
        exact absurd hA.2 (by rwa [show a + (c - a) = c by omega] at this)
      | some k =>
        obtain ⟨q1, q2, q3⟩ := findL_some _ _ _ hf
        rw [List.length_drop] at q1
        rw [List.drop_drop] at q2
        rcases Nat.lt_trichotomy k (c - a) with q | q | q
        · exact absurd ((at_iff x y (a + k)).mpr ⟨by omega, q2⟩) (h3 _ (by omega) (by omega))
        · rw [q]
        · have := q3 (c - a) q
          rw [List.drop_drop] at this
          exact absurd hA.2 (by rwa [show a + (c - a) = c by omega] at this)
    have hle : c + y.length ≤ x.length := by
      have := hA.2.length_le
      rw [List.length_drop] at this
      omega
    rw [splitN, hf]
    show strSub ⟨x.toArray⟩ a c :: partsFrom ⟨x.toArray⟩ y.length (c + y.length) cuts = _
    have h4' : ChainG ⟨x.toArray⟩ ⟨y.toArray⟩ x.length (c + y.length) cuts f := by
      have : Str.length ⟨y.toArray⟩ = y.length := by simp [Str.length]
      rw [← this]; exact h4
    rw [parts_splitN x y hy n (c + y.length) f cuts hle (by omega) h4' hl]
    have e : strSub ⟨x.toArray⟩ a c = ⟨((x.drop a).take (c - a)).toArray⟩ := by
      apply Str.ext'; apply Array.toList_inj.mp
      rw [strSub_toList]
    have e2 : (x.drop a).drop (c - a + y.length) = x.drop (c + y.length) := by
      rw [List.drop_drop, show a + (c - a + y.length) = c + y.length by omega]
    simp only [e, e2, List.map_cons]

theorem split_eq (x y : List Nat) (hy : 1 ≤ y.length) :
    partsBetween ⟨x.toArray⟩ (occurrences ⟨x.toArray⟩ ⟨y.toArray⟩ 0 x.length (x.length + 1)) y.length = (splitL y x).map fun p => (⟨p.toArray⟩ : Str) := by
  have hsz : Str.length ⟨x.toArray⟩ = x.length := by simp [Str.length]
  obtain ⟨f, h1, h2⟩ := occ_tight ⟨x.toArray⟩ ⟨y.toArray⟩ (by simpa [Str.length] using hy)
  rw [hsz] at h1 h2
  rw [partsBetween_eq]
  have := parts_splitN x y hy (x.length + 1) 0 f _ (Nat.zero_le _) (by omega) h1 h2
  rw [this, List.drop_zero]; rfl

noncomputable def find3L (y x : List Nat) (a b : Nat) : Option Nat := (findL y ((x.take b).drop a)).map (a + ·)
end Mine
end

section
open PySem PyProof.Rows
set_option linter.unusedVariables false
namespace Mine

noncomputable def eqC (a b : MV) : Option Bool :=
  on2 asInt asInt (fun x y => some (x == y)) (on2 asStr asStr (fun x y => some (x == y)) (on2 asBytes asBytes (fun x y => some (x == y))
    (on2 asList asList (fun x y => if depVs x ≤ 4 then eqVs x y else none) none a b) a b) a b) a b
noncomputable def nonC (a : MV) : Option Bool := (asBool a).elim ((asInt a).bind fun u => some false) fun u => some false
noncomputable def isC (a b : MV) : Option Bool :=
  (asNone a).elim ((asNone b).elim ((asBool a).bind fun x => (asBool b).bind fun y => some (x == y)) fun u => nonC a) fun u => (asNone b).elim (nonC b) fun u => some true
noncomputable def strsOf : List MV → Option (List (List Nat))
  | [] => some []
  | .str c :: r => (strsOf r).map (c :: ·)
  | _ => none
noncomputable def inC (a b : MV) : Option Bool := (asStr a).bind fun y => (asStr b).elim ((asList b).bind fun xs => (strsOf xs).map fun l => l.any (· == y)) fun x => some (findL y x).isSome
noncomputable def numStr (f : Int → Int → Bool) (g : List Nat → List Nat → Bool) (a b : MV) : Option Bool :=
  on2 asInt asInt (fun x y => some (f x y)) (on2 asStr asStr (fun x y => some (g x y)) none a b) a b
theorem numStr_inv {f : Int → Int → Bool} {g : List Nat → List Nat → Bool} {a b : MV} {q : Bool} (h : numStr f g a b = some q) :
    (∃ x y, a = .int x ∧ b = .int y ∧ f x y = q) ∨ (∃ x y, a = .str x ∧ b = .str y ∧ g x y = q) := by
  rcases on2_inv h with ⟨x, y, hx, hy, e⟩ | h
  · exact .inl ⟨x, y, asInt_inv hx, asInt_inv hy, Option.some.inj e⟩
  rcases on2_inv h with ⟨x, y, hx, hy, e⟩ | h
  · exact .inr ⟨x, y, asStr_inv hx, asStr_inv hy, Option.some.inj e⟩
  · cases h
noncomputable def ltV : MV → MV → Option Bool := numStr (fun a b => decide (a < b)) fun a b => decide (a < b)
noncomputable def gtV : MV → MV → Option Bool := numStr (fun a b => decide (b < a)) fun a b => decide (b < a)
noncomputable def geV (a b : MV) : Option Bool := on2 asInt asInt (fun x y => some (decide (y ≤ x))) none a b
noncomputable def cmpOp : CmpOp → MV → MV → Option Bool
  | .Eq => eqC
  | .NotEq => fun a b => (eqC a b).map (!·)
  | .Lt => ltV
  | .Gt => gtV
  | .GtE => geV
  | .Is => isC
  | .IsNot => fun a b => (isC a b).map (!·)
  | .In => inC
  | .NotIn => fun a b => (inC a b).map (!·)
  | _ => fun u0 u1 => none

noncomputable def truthV : MV → Option Bool
  | .none => some false
  | .bool b => some b
  | .int i => some (i != 0)
  | .str c => if c.length ≤ lim then some (!c.isEmpty) else none
  | _ => none

section
variable {C : Cfg} {A : Around} {s : Shared} {K : Addr → Prop}

theorem wp_truthy {v : Value} {mv : MV} {b : Bool} (r : RepH s.heap K v mv) (h : truthV mv = some b) : wp C A (truthy v) (fun b' s' => b' = b ∧ Grow s s') s := by
  cases mv with
  | none => cases h; rw [r.isNone]; exact wpAny_pure ⟨rfl, Late.refl s⟩
  | bool x => cases h; rw [r.isBool]; exact wpAny_truthy_bool ⟨rfl, Late.refl s⟩
  | int x => cases h; obtain ⟨t, rfl⟩ := r.isInt; exact PyProof.Rows.truthy_int ⟨rfl, Late.refl s⟩
  | str x =>
    replace h : (if x.length ≤ lim then some (!x.isEmpty) else none) = some b := h
    split at h
    · next hl =>
      cases h; obtain ⟨t, rfl⟩ := r.isStr
      have hs : Str.length ⟨x.toArray⟩ = x.length := by simp [Str.length]
      refine P.truthy_str (by rw [hs]; have : x.length ≤ 16777216 := hl; omega) ⟨?_, Late.tok⟩
      rw [hs]
      cases x <;> simp
      omega
    · cases h
  | bytes x => cases h
  | list x => cases h
  | tuple x => cases h

theorem strsOf_inv {xs : List MV} {l : List (List Nat)} (h : strsOf xs = some l) : xs = l.map .str := by
  induction xs generalizing l with
  | nil => cases h; rfl
  | cons x xs ih =>
    cases x with
    | str i =>
      obtain ⟨ms, h1, rfl⟩ := Option.map_eq_some_iff.1 (show (strsOf xs).map (i :: ·) = some l from h)
      rw [ih h1]; rfl
    | _ => cases h
theorem strsM_rep {vs : List Value} {l : List (List Nat)} (ra : RepAll s.heap K vs (l.map .str)) : ∃ ts : List Tok, vs = (l.zip ts).map (fun p => Value.str ⟨p.1.toArray⟩ p.2) ∧ ts.length = l.length := by
  induction l generalizing vs with
  | nil => obtain rfl := ra.unnil; exact ⟨[], rfl, rfl⟩
  | cons c l ih =>
    obtain ⟨v, ws, rfl, rv, rb⟩ := RepAll.uncons (x := .str c) (xs := l.map .str) ra
    obtain ⟨t, rfl⟩ := (RepH.of rv).isStr
    obtain ⟨ts, rfl, hl⟩ := ih rb
    exact ⟨t :: ts, rfl, congrArg (· + 1) hl⟩
theorem strsOf_rep {vs : List Value} {xs : List MV} {l : List (List Nat)} (ra : RepAll s.heap K vs xs) (h : strsOf xs = some l) : ∃ ts : List Tok, vs = (l.zip ts).map (fun p => Value.str ⟨p.1.toArray⟩ p.2) ∧ ts.length = l.length := by
  obtain rfl := strsOf_inv h
  exact strsM_rep ra

theorem nonC_is {a : MV} {va : Value} {r : Bool} (ha : RepH s.heap K va a) (h : nonC a = some r) : plainIs va .none = true ∧ plainIs .none va = true ∧ (va == .none) = r ∧ (Value.none == va) = r := by
  rcases elim_inv h with ⟨x, hx, e⟩ | h
  · obtain rfl := asBool_inv hx
    cases e
    rw [ha.isBool]; exact ⟨rfl, rfl, rfl, rfl⟩
  · obtain ⟨x, hx, e⟩ := Option.bind_eq_some_iff.1 h
    obtain rfl := asInt_inv hx
    cases e
    obtain ⟨t, rfl⟩ := ha.isInt
    exact ⟨rfl, rfl, rfl, rfl⟩
theorem wp_isC {op : CmpOp} {a b : MV} {va vb : Value} {r : Bool} (ha : RepH s.heap K va a) (hb : RepH s.heap K vb b) (h : isC a b = some r) :
    plainIs va vb = true ∧ (va == vb) = r := by
  rcases elim_inv h with ⟨u, hu, e⟩ | h'
  · obtain rfl := asNone_inv hu
    rw [ha.isNone]
    rcases elim_inv e with ⟨w, hw, e⟩ | h
    · obtain rfl := asNone_inv hw
      cases e
      rw [hb.isNone]; exact ⟨rfl, rfl⟩
    · obtain ⟨_, h2, _, h4⟩ := nonC_is hb h
      exact ⟨h2, h4⟩
  clear h
  rcases elim_inv h' with ⟨w, hw, e⟩ | h
  · obtain rfl := asNone_inv hw
    rw [hb.isNone]
    obtain ⟨h1, _, h3, _⟩ := nonC_is ha e
    exact ⟨h1, h3⟩
  · obtain ⟨x, hx, e⟩ := Option.bind_eq_some_iff.1 h
    obtain ⟨y, hy, e⟩ := Option.bind_eq_some_iff.1 e
    obtain rfl := asBool_inv hx; obtain rfl := asBool_inv hy
    cases e
    rw [ha.isBool, hb.isBool]
    cases x <;> cases y <;> exact ⟨rfl, rfl⟩

theorem isStr_eq (c y : List Nat) : ((⟨c.toArray⟩ : Str) == ⟨y.toArray⟩) = (c == y) := by
  rw [Bool.eq_iff_iff, beq_iff_eq, beq_iff_eq]
  exact ⟨fun e => congrArg (fun x => x.cps.toList) e, fun e => by rw [e]⟩
open SeqAt MeetsSeq in
theorem isStr_key (l : List (List Nat)) (ts : List Tok) (y : List Nat) (t : Tok) : ∀ z, z ∈ ((l.zip ts).map fun p => Value.str ⟨p.1.toArray⟩ p.2).toArray → EqAt A.in1 s z (Value.str ⟨y.toArray⟩ t) (z.isStr ⟨y.toArray⟩) := fun z hz => by
  obtain ⟨p, _, rfl⟩ := List.mem_map.1 (List.mem_toArray.1 hz)
  have := (SeqRoads2.EqGives.str ⟨p.1.toArray⟩ ⟨y.toArray⟩ p.2 t).at A.in1 s
  rw [show Value.isStr (Value.str ⟨p.1.toArray⟩ p.2) ⟨y.toArray⟩ = (p.1.toArray.toList == y.toArray.toList) from isStr_eq p.1 y]
  exact this
theorem isStr_any (l : List (List Nat)) (ts : List Tok) (y : List Nat) (hts : ts.length = l.length) : ((l.zip ts).map fun p => Value.str ⟨p.1.toArray⟩ p.2).toArray.any (fun z => z.isStr ⟨y.toArray⟩) = l.any (· == y) := by
  rw [List.any_toArray]
  induction l generalizing ts with
  | nil => rfl
  | cons c l ih =>
    cases ts with
    | nil => cases hts
    | cons t' ts => exact (congrArg _ (ih ts (Nat.succ.inj hts))).trans (congrArg (· || _) (isStr_eq c y))
open SeqAt MeetsSeq in
theorem wp_cmpOp {k : Nat} {op : CmpOp} {a b : MV} {r : Bool} {va vb : Value} (hA : Rm A k) (ha : RepH s.heap K va a) (hb : RepH s.heap K vb b) (h : cmpOp op a b = some r) :
    wp C A (compareOp op va vb) (fun v s' => v = .bool r ∧ Grow s s') s := by
  have ok : ∀ x : Bool, x = r → (fun v s' => v = Value.bool r ∧ Grow s s') (Value.bool x) s := fun x e => ⟨by rw [e], Late.refl s⟩
  have hlist : ∀ (xs ys : List MV) (q : Bool), RepH s.heap K va (.list xs) → RepH s.heap K vb (.list ys) → depVs xs ≤ 4 → eqVs xs ys = some q → ∃ l m, va = .ref l ∧ vb = .ref m ∧ RcAt A s va vb q ∧ RcNeAt A s va vb (!q) := by
    intro xs ys q h1 h2 hd he
    obtain ⟨l, vs, rfl, hl, r1⟩ := h1.isList
    obtain ⟨m, ws, rfl, hm, r2⟩ := h2.isList
    have hu := hA.u
    have hu' : A.units < cLine := hA.ult
    have hu4 : A.units + 1 + 4 < 9900 := by clear hl hm r1 r2 he hd; omega
    have l1 := r1.length
    have l2 := r2.length
    refine ⟨l, m, rfl, rfl, ?_⟩
    by_cases hlen : xs.length = ys.length
    · obtain ⟨e, he1, he2⟩ := eqVs_at he hlen
      have key : ∀ j (h1 : j < vs.toArray.size) (h2 : j < ws.toArray.size), EqAt A.in1 s vs.toArray[j] ws.toArray[j] (e j) := fun j h1 h2 => by
        have hx := List.getElem?_eq_getElem (Nat.lt_of_lt_of_eq h1 l1)
        have hy := List.getElem?_eq_getElem (Nat.lt_of_lt_of_eq h2 l2)
        obtain ⟨v, hv, rv⟩ := r1.get hx
        obtain ⟨w, hw, rw'⟩ := r2.get hy
        rw [getElem_vs h1 hv, getElem_vs h2 hw]
        exact eqAt_rep 4 (A := A.in1) rfl (.inl rv) (.inl rw') (he1 j _ _ hx hy) (Nat.le_trans (depVs_get hx) hd) hu4
      have hsz : vs.toArray.size = ws.toArray.size := l1.trans (hlen.trans l2.symm)
      have t1 := RcAt.lists (A := A) (s := s) hl.isList hm.isList (e := e) hsz hu' key
      have t2 := RcNeAt.lists (A := A) (s := s) hl.isList hm.isList (e := e) hsz hu' key
      rw [show vs.toArray.size = xs.length from l1, he2] at t1 t2
      exact ⟨t1, t2⟩
    · have hne : (vs.toArray.size != ws.toArray.size) = true := bne_iff_ne.2 fun e => hlen (l1.symm.trans (Eq.trans e l2))
      rw [eqVs_len he hlen]
      exact ⟨RcAt.lists_lengths hl.isList hm.isList hne hu', RcNeAt.lists_lengths hl.isList hm.isList hne hu'⟩
  have hin : ∀ (q : Bool), inC a b = some q → wp C A (compareOp .In va vb) (fun v s' => v = .bool q ∧ Grow s s') s ∧ wp C A (compareOp .NotIn va vb) (fun v s' => v = .bool (!q) ∧ Grow s s') s := by
    intro q hq
    obtain ⟨y, hy, hr⟩ := Option.bind_eq_some_iff.1 hq
    clear hq
    obtain rfl := asStr_inv hy
    obtain ⟨t, rfl⟩ := ha.isStr
    rcases elim_inv hr with ⟨x, hx, e⟩ | hq
    · obtain rfl := asStr_inv hx
      cases e
      obtain ⟨u, rfl⟩ := hb.isStr
      exact ⟨SB.contains (by rw [contains_eq]; exact ⟨rfl, Late.refl s⟩), SB.notContains (by rw [contains_eq]; exact ⟨rfl, Late.refl s⟩)⟩
    · obtain ⟨xs, hx, e⟩ := Option.bind_eq_some_iff.1 hq
      obtain rfl := asList_inv hx
      obtain ⟨l, hl, rfl⟩ := Option.map_eq_some_iff.1 e
      obtain ⟨m, vs, rfl, hm, rb⟩ := hb.isList
      obtain ⟨ts, rfl, hts⟩ := strsOf_rep rb hl
      exact ⟨in_listAt _ hm.isList (isStr_key l ts y t) (by rw [isStr_any l ts y hts]; exact ⟨rfl, Late.refl s⟩), notIn_listAt _ hm.isList (isStr_key l ts y t) (by rw [isStr_any l ts y hts]; exact ⟨rfl, Late.refl s⟩)⟩
  have heq : ∀ q, eqC a b = some q → wp C A (compareOp .Eq va vb) (fun v s' => v = .bool q ∧ Grow s s') s ∧ wp C A (compareOp .NotEq va vb) (fun v s' => v = .bool (!q) ∧ Grow s s') s := by
    intro q hq
    rcases on2_inv hq with ⟨x, y, hx, hy, e⟩ | hr
    · obtain rfl := asInt_inv hx; obtain rfl := asInt_inv hy
      cases e
      obtain ⟨t, rfl⟩ := ha.isInt; obtain ⟨u, rfl⟩ := hb.isInt
      exact ⟨PyProof.Rows.eq_int ⟨rfl, Late.refl s⟩, PyProof.Rows.ne_int ⟨rfl, Late.refl s⟩⟩
    clear hq
    rcases on2_inv hr with ⟨x, y, hx, hy, e⟩ | hq
    · obtain rfl := asStr_inv hx; obtain rfl := asStr_inv hy
      cases e
      obtain ⟨t, rfl⟩ := ha.isStr; obtain ⟨u, rfl⟩ := hb.isStr
      exact ⟨P.eq_str ⟨rfl, Late.refl s⟩, P.ne_str ⟨rfl, Late.refl s⟩⟩
    clear hr
    rcases on2_inv hq with ⟨x, y, hx, hy, e⟩ | hr
    · obtain rfl := asBytes_inv hx; obtain rfl := asBytes_inv hy
      cases e
      obtain ⟨t, rfl⟩ := ha.isBytes; obtain ⟨u, rfl⟩ := hb.isBytes
      exact ⟨PySem.W.eq_bytes ⟨rfl, Late.refl s⟩, PySem.W.ne_bytes ⟨rfl, Late.refl s⟩⟩
    clear hq
    rcases on2_inv hr with ⟨x, y, hx, hy, e⟩ | hq
    · obtain rfl := asList_inv hx; obtain rfl := asList_inv hy
      have e : (if depVs x ≤ 4 then eqVs x y else none) = some q := e
      by_cases hd : depVs x ≤ 4
      · rw [if_pos hd] at e
        obtain ⟨l, m, e1, e2, h1, h2⟩ := hlist _ _ q ha hb hd e
        exact ⟨h1 C.prog C.w _ _ ⟨rfl, Late.refl s⟩, h2 C.prog C.w _ _ ⟨rfl, Late.refl s⟩⟩
      · rw [if_neg hd] at e; cases e
    · cases hq
  cases op
  case Eq =>
    replace h : eqC a b = some r := h
    exact (heq r h).1
  case NotEq =>
    replace h : (eqC a b).map (!·) = some r := h
    rw [Option.map_eq_some_iff] at h; obtain ⟨q, h, rfl⟩ := h; exact (heq q h).2
  case Lt =>
    rcases numStr_inv (f := fun a b => decide (a < b)) (g := fun a b => decide (a < b)) h with ⟨x, y, rfl, rfl, e⟩ | ⟨x, y, rfl, rfl, e⟩
    · obtain ⟨t, rfl⟩ := ha.isInt; obtain ⟨u, rfl⟩ := hb.isInt
      exact PyProof.Rows.lt_int (ok _ e)
    · obtain ⟨t, rfl⟩ := ha.isStr; obtain ⟨u, rfl⟩ := hb.isStr
      exact P.lt_str (ok _ e)
  case Gt =>
    rcases numStr_inv (f := fun a b => decide (b < a)) (g := fun a b => decide (b < a)) h with ⟨x, y, rfl, rfl, e⟩ | ⟨x, y, rfl, rfl, e⟩
    · obtain ⟨t, rfl⟩ := ha.isInt; obtain ⟨u, rfl⟩ := hb.isInt
      exact PyProof.Rows.gt_int (ok _ e)
    · obtain ⟨t, rfl⟩ := ha.isStr; obtain ⟨u, rfl⟩ := hb.isStr
      exact P.gt_str (ok _ e)
  case GtE =>
    replace h : geV a b = some r := h
    rcases on2_inv h with ⟨x, y, hx, hy, e⟩ | h
    rotate_left
    · cases h
    obtain rfl := asInt_inv hx; obtain rfl := asInt_inv hy
    obtain ⟨t, rfl⟩ := ha.isInt; obtain ⟨u, rfl⟩ := hb.isInt
    exact PyProof.Rows.ge_int (ok _ (Option.some.inj e))
  case Is =>
    replace h : isC a b = some r := h
    obtain ⟨h1, h2⟩ := wp_isC (op := .Is) ha hb h
    exact wpAny_is_plain h1 (ok _ h2)
  case IsNot =>
    replace h : (isC a b).map (!·) = some r := h
    rw [Option.map_eq_some_iff] at h; obtain ⟨q, h, rfl⟩ := h
    obtain ⟨h1, h2⟩ := wp_isC (op := .Is) ha hb h
    exact wpAny_isNot_plain h1 (ok _ (by rw [h2]))
  case In =>
    replace h : inC a b = some r := h
    exact (hin r h).1
  case NotIn =>
    replace h : (inC a b).map (!·) = some r := h
    rw [Option.map_eq_some_iff] at h; obtain ⟨q, h, rfl⟩ := h; exact (hin q h).2
  all_goals exact nomatch (show (none : Option Bool) = some r from h)
end
end Mine
end

section
open PySem PyProof.Rows
set_option linter.unusedVariables false
namespace Mine
open PySem.Builtin PySem.Builtin.Str

noncomputable def idx (n : Nat) (i : Int) : Option Nat :=
  if n ≤ lim then (if 0 ≤ i then (if i < n then some i.toNat else none) else (if -(n : Int) ≤ i then some (i + n).toNat else none)) else none
noncomputable def itemOp (o i : MV) : Option MV := (asInt i).bind fun n =>
  (asList o).elim ((asStr o).elim ((asBytes o).bind fun b => if 0 ≤ n then (idx b.length n).bind fun k => b[k]?.map fun x => .int x.toNat else none)
      fun c => (idx c.length n).bind fun k => c[k]?.map fun x => .str [x])
    fun xs => (idx xs.length n).bind fun k => xs[k]?
noncomputable def cut {α : Type} (xs : List α) (lo hi : Option Int) : List α :=
  (xs.drop (lo.elim 0 (clipAt xs.length))).take (hi.elim xs.length (clipAt xs.length) - lo.elim 0 (clipAt xs.length))
noncomputable def sliceOp (lo hi : Option Int) : MV → Option MV
  | .list xs => if xs.length ≤ lim then some (.list (cut xs lo hi)) else none
  | .str c => if c.length ≤ lim then some (.str (cut c lo hi)) else none
  | .bytes b => if b.length ≤ lim then some (.bytes (cut b lo hi)) else none
  | _ => none
theorem idx_facts {n : Nat} {i : Int} {k : Nat} (h : idx n i = some k) : n ≤ 16777216 ∧ -(n : Int) ≤ i ∧ i < n ∧ k < n ∧ seqIndex? i n = some k ∧ (0 ≤ i → k = i.toNat) ∧ (i < 0 → k = (i + n).toNat) := by
  unfold idx at h
  split at h
  · next h1 =>
    split at h
    · next h2 =>
      split at h
      · next h3 => cases h; exact ⟨h1, by omega, h3, by omega, StrLaws.seqIndex_nonneg h2 h3, fun u0 => rfl, fun h => by omega⟩
      · cases h
    · next h2 =>
      split at h
      · next h3 => cases h; exact ⟨h1, h3, by omega, by omega, StrLaws.seqIndex_neg (by omega) h3, fun h => by omega, fun u0 => rfl⟩
      · cases h
  · cases h

theorem ssize {n : Nat} {i : Int} (h1 : n ≤ 16777216) (h2 : -(n : Int) ≤ i) (h3 : i < n) : i < 2 ^ 63 ∧ -2 ^ 63 ≤ i := by omega
noncomputable def seqT : MV → Option String
  | .list _ => some "list"
  | .str _ => some "str"
  | .bytes _ => some "bytes"
  | _ => none

section
variable {C : Cfg} {A : Around} {s : Shared} {K : Addr → Prop}

theorem RepH.typeIs {v : Value} {mv : MV} {T : String} (r : RepH s.heap K v mv) (h : seqT mv = some T) : s.TypeIs v T := by
  cases mv with
  | list xs => cases h; obtain ⟨a, vs, rfl, hl, _⟩ := r.isList; exact hl.isList.typeIs
  | str c => cases h; obtain ⟨t, rfl⟩ := r.isStr; exact typeIs_str _ _ _
  | bytes b => cases h; obtain ⟨t, rfl⟩ := r.isBytes; exact PySem.W.typeIs_bytes _ _ _
  | _ => cases h
theorem seq_getitem {mv : MV} {T : String} (h : seqT mv = some T) : ∃ id, typeLookup (.type T) "__getitem__" = pure (some (.builtin id)) := by
  cases mv with
  | list xs => cases h; exact ⟨_, list_getitem_lookup⟩
  | str c => cases h; exact ⟨_, F.slot_str_getitem.lookup⟩
  | bytes b => cases h; exact ⟨_, PySem.W.FB.slot_bytes_getitem.lookup⟩
  | _ => cases h

theorem wp_itemOp {o i c : MV} {vo vi : Value} (ho : RepH s.heap K vo o) (hi : RepH s.heap K vi i) (h : itemOp o i = some c) :
    wp C A (getItem vo vi) (fun v s' => Rep s'.heap K v c ∧ Grow s s') s := by
  obtain ⟨i, hn, h'⟩ := Option.bind_eq_some_iff.1 h
  clear h
  obtain rfl := asInt_inv hn
  obtain ⟨t, rfl⟩ := hi.isInt
  rcases elim_inv h' with ⟨xs, hx, e⟩ | h
  · obtain rfl := asList_inv hx
    obtain ⟨k, hk, hx⟩ := Option.bind_eq_some_iff.1 e
    obtain ⟨f1, f2, f3, f4, f5, f6, f7⟩ := idx_facts hk
    obtain ⟨l, vs, rfl, hl, ra⟩ := ho.isList
    obtain ⟨v, hv, rv⟩ := ra.get hx
    have hlen : vs.toArray.size = xs.length := ra.length
    by_cases h0 : 0 ≤ i
    · have := f6 h0
      subst this
      exact wpAny_getItem_list hl.isList h0 (ssize f1 f2 f3).1 ((List.getElem?_toArray ..).trans hv) ⟨rv, Late.refl s⟩
    · have := f7 (Int.not_le.1 h0)
      refine wpAny_getItem_list_neg hl.isList (Int.not_le.1 h0) (by rw [hlen]; exact f2) (ssize f1 f2 f3).2 ?_ ⟨rv, Late.refl s⟩
      rw [hlen, ← this]; exact (List.getElem?_toArray ..).trans hv
  clear h'
  rcases elim_inv h with ⟨x, hx, e⟩ | h'
  · obtain rfl := asStr_inv hx
    obtain ⟨k, hk, e⟩ := Option.bind_eq_some_iff.1 e
    obtain ⟨y, hy, rfl⟩ := Option.map_eq_some_iff.1 e
    obtain ⟨f1, f2, f3, f4, f5, f6, f7⟩ := idx_facts hk
    obtain ⟨u, rfl⟩ := ho.isStr
    have hc : Txt.charAt ⟨x.toArray⟩ i = some y := by
      unfold Txt.charAt
      rw [show Str.length ⟨x.toArray⟩ = x.length from rfl, f5]
      exact (List.getElem?_toArray ..).trans hy
    refine SB.getItem ?_ (by rw [hc]; rfl) ⟨?_, Late.tok⟩
    · unfold fitsSsize
      rw [decide_eq_false (Int.not_lt.2 (ssize f1 f2 f3).2), decide_eq_false (Int.not_le.2 (ssize f1 f2 f3).1)]; rfl
    · unfold Txt.item
      rw [hc]; exact .str [y] _
  · obtain ⟨x, hx, e⟩ := Option.bind_eq_some_iff.1 h'
    obtain rfl := asBytes_inv hx
    have e : (if 0 ≤ i then (idx x.length i).bind fun k => x[k]?.map fun x => MV.int x.toNat else none) = some c := e
    by_cases h0 : 0 ≤ i
    · rw [if_pos h0] at e
      obtain ⟨k, hk, e⟩ := Option.bind_eq_some_iff.1 e
      obtain ⟨y, hy, rfl⟩ := Option.map_eq_some_iff.1 e
      obtain ⟨f1, f2, f3, f4, f5, f6, f7⟩ := idx_facts hk
      obtain ⟨u, rfl⟩ := ho.isBytes
      refine PySem.W.getItem_bytes (Nat.le_trans f1 (by decide)) h0 f3 ⟨?_, Late.tok⟩
      have := f6 h0
      subst this
      rw [List.getD_eq_getElem?_getD, hy]
      exact .int _ _
    · rw [if_neg h0] at e; cases e

theorem str_indices (lo hi : Option Int) (n : Nat) : strSliceIndices lo hi 1 n = sliceRange (sliceBounds lo hi none n).1 (sliceBounds lo hi none n).2.1 (sliceBounds lo hi none n).2.2 := by
  cases lo <;> cases hi <;> rfl

theorem hi_le (n : Nat) (hi : Option Int) : hi.elim n (clipAt n) ≤ n := by
  cases hi with
  | none => exact Nat.le_refl _
  | some j => show clipAt _ _ ≤ _; unfold clipAt; omega
theorem cut_eq (cs : List Nat) (lo hi : Option Int) (h : hi.elim cs.length (clipAt cs.length) - lo.elim 0 (clipAt cs.length) = cs.length) : cut cs lo hi = cs := by
  have q := hi_le cs.length hi
  unfold cut
  rw [h]
  by_cases hz : lo.elim 0 (clipAt cs.length) = 0
  · rw [hz, List.drop_zero, List.take_length]
  · have h0 : cs.length = 0 := by omega
    rw [List.eq_nil_of_length_eq_zero h0, List.drop_nil, List.take_nil]
theorem cut_le {α : Type} (xs : List α) (lo hi : Option Int) : (cut xs lo hi).length ≤ xs.length := by
  unfold cut
  rw [List.length_take, List.length_drop]
  exact Nat.le_trans (Nat.min_le_right ..) (Nat.sub_le ..)
set_option tactic.hygienic true in
theorem wp_sliceOp {o c : MV} {vo vl vu : Value} {lo hi : Option Int} {sl : Addr} (ho : RepH s.heap K vo o) (hK : ∀ x, K x → x < s.heap.objs.size) (hs : s.heap.IsSliceOf sl vl vu .none) (pl : IsPart vl lo) (pu : IsPart vu hi)
    (h : sliceOp lo hi o = some c) : wp C A (getItem vo (.ref sl)) (fun v s' => Rep s'.heap K v c ∧ Grow s s') s := by
  unfold sliceOp at h
  split at h
  · next xs =>
    split at h
    · next hl' =>
      cases h
      obtain ⟨l, vs, rfl, hl, ra⟩ := ho.isList
      refine wpAny_getItem_list_slice hl.isList hs pl pu .none (by nofun) ⟨?_, Late.push⟩ (by show _ ≤ 2 ^ 24; simp only [List.size_toArray, ra.length]; exact hl')
      rw [slicePick_plain]
      have e : cut xs lo hi = (xs.drop (lo.elim 0 (clipAt vs.toArray.size))).take (hi.elim vs.toArray.size (clipAt vs.toArray.size) - lo.elim 0 (clipAt vs.toArray.size)) := by
        unfold cut; rw [show vs.toArray.size = xs.length by simp [ra.length]]
      rw [e]
      exact .list (Ls.push _ _) (fun h => Nat.lt_irrefl _ (hK _ h)) (((ra.drop _).take _).mono (fun b o u0 e => Heap.get?_push_of_some _ e) fun u0 h => .inl h)
    · cases h
  · next cs =>
    split at h
    · next hl' =>
      cases h
      obtain ⟨t, rfl⟩ := ho.isStr
      have hn : Str.length ⟨cs.toArray⟩ = cs.length := by simp [Str.length]
      have picked : ∀ (a b : Option (Int × Tok)), a.map (·.1) = lo → b.map (·.1) = hi → ((slicePicked ⟨cs.toArray⟩ a b none).filterMap ((⟨cs.toArray⟩ : Str).cps[·]?)) = cut cs lo hi := by
        intro a b ha hb
        unfold slicePicked
        rw [ha, hb]
        show (strSliceIndices lo hi 1 _).filterMap _ = _
        rw [hn, str_indices, sliceBounds_plain]
        simp only [sliceRange_one, pick_run]
        rfl
      have mk : ∀ (a b : Option (Int × Tok)), a.map (·.1) = lo → b.map (·.1) = hi → vl = partValue a → vu = partValue b → wp C A (getItem (.str ⟨cs.toArray⟩ t) (.ref sl)) (fun v s' => Rep s'.heap K v (.str (cut cs lo hi)) ∧ Grow s s') s := by
        intro a b ha hb e1 e2
        subst e1 e2
        refine wpAny_getItem_str_slice (st := none) hs rfl ?_
        have hp := picked a b ha hb
        unfold sliceMade
        split
        · next hc =>
          have h2 : (slicePicked ⟨cs.toArray⟩ a b none).length = cs.length := by
            rw [Bool.and_eq_true] at hc
            have := hc.2
            rw [hn] at this
            exact beq_iff_eq.1 this
          have h3 : slicePicked ⟨cs.toArray⟩ a b none = (List.range ((hi.elim cs.length (clipAt cs.length)) - (lo.elim 0 (clipAt cs.length)))).map ((lo.elim 0 (clipAt cs.length)) + ·) := by
            unfold slicePicked
            rw [ha, hb]
            show strSliceIndices lo hi 1 _ = _
            rw [hn, str_indices, sliceBounds_plain]
            exact sliceRange_one _ _
          rw [h3, List.length_map, List.length_range] at h2
          have e : cut cs lo hi = cs := cut_eq cs lo hi h2
          rw [e]
          exact ⟨.str _ _, Late.refl s⟩
        · rw [hp]
          refine ⟨?_, .str _ _, Late.tok⟩
          show _ ≤ 2 ^ 24
          simp only [Str.length, List.size_toArray]
          exact Nat.le_trans (cut_le cs lo hi) hl'
      cases pl with
      | none => cases pu with
        | none => exact mk none none rfl rfl rfl rfl
        | int j u => exact mk none (some (j, u)) rfl rfl rfl rfl
      | int i u' => cases pu with
        | none => exact mk (some (i, u')) none rfl rfl rfl rfl
        | int j u => exact mk (some (i, u')) (some (j, u)) rfl rfl rfl rfl
    · cases h
  · next b =>
    split at h
    · next hl' =>
      cases h
      obtain ⟨t, rfl⟩ := ho.isBytes
      have hb : b.length ≤ 16777216 := hl'
      refine getItem_meets (PySem.W.typeIs_bytes _ _ _) (by decide) PySem.W.FB.slot_bytes_getitem PySem.W.FB.entry_bytes_getitem (PySem.W.FB.args_bytes_getitem_2 _ _) (PySem.W.KBc.meets_slice2 b.toArray t _ pl pu)
        ⟨hs, Nat.le_trans (PySem.W.KBc.size_picked_le _ lo hi) (by rw [sizeLine_eq]; simpa using hb), fun t' k => ?_⟩
      refine ⟨?_, Late.tok⟩
      rw [PySem.W.KBc.picked_eq]
      have : ((b.toArray.toList.drop (lo.elim 0 (clipAt b.toArray.size))).take (hi.elim b.toArray.size (clipAt b.toArray.size) - lo.elim 0 (clipAt b.toArray.size))) = cut b lo hi := by
        unfold cut
        simp only [List.size_toArray]
      rw [this]
      exact .bytes _ _
    · cases h
  · cases h

end
end Mine
end

section
open PySem PyProof.Rows
set_option linter.unusedVariables false
namespace Mine

section
variable {C : Cfg} {Φ : Fs} {ℓ : Nat} {env : Env} {K₀ : Addr → Prop} {H : Nat → Option Addr} {ρ : List Sl} {s : Shared} {A : Around}

theorem EvS.run {e : Expr} {f : List Sl → Option MV} {mv : MV} {Q : Value → Shared → Prop} (h : EvS C Φ ℓ e f) (r : Rm A ℓ) (F : Fm C Φ env K₀ H ρ s) (hf : f ρ = some mv)
    (k : ∀ v s', Rep s'.heap (Kof K₀ Φ env H) v mv → Grow s s' → Fm C Φ env K₀ H ρ s' → Q v s') : wp C A (eval e env) Q s :=
  wp_mono (h.go A r env K₀ H ρ s mv F hf) fun v s' q => k v s' q.1 q.2 (F.grow q.2)
theorem EvH.run {e : Expr} {f : List Sl → Option MV} {mv : MV} {Q : Value → Shared → Prop} (h : EvH C Φ ℓ e f) (r : Rm A ℓ) (F : Fm C Φ env K₀ H ρ s) (hf : f ρ = some mv)
    (k : ∀ v s', RepH s'.heap (Kof K₀ Φ env H) v mv → Grow s s' → Fm C Φ env K₀ H ρ s' → Q v s') : wp C A (eval e env) Q s :=
  wp_mono (h.go A r env K₀ H ρ s mv F hf) fun v s' q => k v s' q.1 q.2 (F.grow q.2)

structure TrS (C : Cfg) (Φ : Fs) (ℓ : Nat) (e : Expr) (f : List Sl → Option Bool) : Prop where
  mk ::
  go : ∀ A, Rm A ℓ → ∀ env K₀ H ρ s b, Fm C Φ env K₀ H ρ s → f ρ = some b → wp C A (isTrue e env (eval e env)) (fun b' s' => b' = b ∧ Grow s s') s
theorem TrS.run {e : Expr} {f : List Sl → Option Bool} {b : Bool} {Q : Bool → Shared → Prop} (h : TrS C Φ ℓ e f) (r : Rm A ℓ) (F : Fm C Φ env K₀ H ρ s) (hf : f ρ = some b)
    (k : ∀ s', Grow s s' → Fm C Φ env K₀ H ρ s' → Q b s') : wp C A (isTrue e env (eval e env)) Q s :=
  wp_mono (h.go A r env K₀ H ρ s b F hf) fun v s' q => by obtain ⟨rfl, q⟩ := q; exact k s' q (F.grow q)
end

section
variable {C : Cfg} {Φ : Fs} {ℓ : Nat}

noncomputable def bin2 (op : MV → MV → Option MV) (f g : List Sl → Option MV) (ρ : List Sl) : Option MV := (f ρ).bind fun a => (g ρ).bind fun b => op a b
theorem bin2_some {op : MV → MV → Option MV} {f g : List Sl → Option MV} {ρ : List Sl} {c : MV} (h : bin2 op f g ρ = some c) : ∃ a b, f ρ = some a ∧ g ρ = some b ∧ op a b = some c := by
  unfold bin2 at h
  rw [Option.bind_eq_some_iff] at h
  obtain ⟨a, h1, h⟩ := h
  rw [Option.bind_eq_some_iff] at h
  obtain ⟨b, h2, h3⟩ := h
  exact ⟨a, b, h1, h2, h3⟩

theorem EvS.bin {l r : Expr} {op : Operator} {pos : Pos} {f g : List Sl → Option MV} (hl : EvH C Φ ℓ l f) (hr : EvH C Φ ℓ r g) : EvS C Φ ℓ (.BinOp l op r pos) (bin2 (binOp op) f g) :=
  .mk fun A rm env K₀ H ρ s c F hf => by
    obtain ⟨a, b, h1, h2, h3⟩ := bin2_some hf
    refine wpAny_BinOp (hl.run rm F h1 fun va s₁ ra g₁ F₁ => hr.run rm F₁ h2 fun vb s₂ rb g₂ F₂ => ?_)
    exact wp_mono (wp_binOp (g₂.repH ra) rb (fun x h => F₂.kLt h) h3) fun v s₃ q => ⟨q.1, (g₁.then g₂).then q.2⟩

noncomputable def cmp2 (op : CmpOp) (f g : List Sl → Option MV) (ρ : List Sl) : Option Bool := (f ρ).bind fun a => (g ρ).bind fun b => cmpOp op a b
theorem cmp2_some {op : CmpOp} {f g : List Sl → Option MV} {ρ : List Sl} {c : Bool} (h : cmp2 op f g ρ = some c) : ∃ a b, f ρ = some a ∧ g ρ = some b ∧ cmpOp op a b = some c := by
  unfold cmp2 at h
  rw [Option.bind_eq_some_iff] at h
  obtain ⟨a, h1, h⟩ := h
  rw [Option.bind_eq_some_iff] at h
  obtain ⟨b, h2, h3⟩ := h
  exact ⟨a, b, h1, h2, h3⟩
noncomputable def boolF (t : List Sl → Option Bool) (ρ : List Sl) : Option MV := (t ρ).map .bool
theorem boolF_some {t : List Sl → Option Bool} {ρ : List Sl} {c : MV} (h : boolF t ρ = some c) : ∃ b, t ρ = some b ∧ c = .bool b := by
  unfold boolF at h
  rw [Option.map_eq_some_iff] at h
  obtain ⟨b, h1, h2⟩ := h
  exact ⟨b, h1, h2.symm⟩

theorem EvS.cmp {l r : Expr} {op : CmpOp} {pos : Pos} {f g : List Sl → Option MV} (hl : EvH C Φ ℓ l f) (hr : EvH C Φ ℓ r g) (hm : behindInMarks op r = false) : EvS C Φ ℓ (.Compare l [op] [r] pos) (boolF (cmp2 op f g)) :=
  .mk fun A rm env K₀ H ρ s c F hf => by
    obtain ⟨q, hq, rfl⟩ := boolF_some hf
    obtain ⟨a, b, h1, h2, h3⟩ := cmp2_some hq
    refine wpAny_Compare1 (hl.run rm F h1 fun va s₁ ra g₁ F₁ => hr.run rm F₁ h2 fun vb s₂ rb g₂ F₂ => ?_) hm
    exact wp_mono (wp_cmpOp rm (g₂.repH ra) rb h3) fun v s₃ q => ⟨by rw [q.1]; exact .bool _, (g₁.then g₂).then q.2⟩
theorem TrS.cmp {l r : Expr} {op : CmpOp} {pos : Pos} {f g : List Sl → Option MV} (hl : EvH C Φ ℓ l f) (hr : EvH C Φ ℓ r g) (hm : behindInMarks op r = false) : TrS C Φ ℓ (.Compare l [op] [r] pos) (cmp2 op f g) :=
  .mk fun A rm env K₀ H ρ s c F hf => by
    obtain ⟨a, b, h1, h2, h3⟩ := cmp2_some hf
    refine wpAny_isTrue_Compare1 (hl.run rm F h1 fun va s₁ ra g₁ F₁ => hr.run rm F₁ h2 fun vb s₂ rb g₂ F₂ => ?_) hm
    refine wp_mono (wp_cmpOp rm (g₂.repH ra) rb h3) fun v s₃ q => ?_
    rw [q.1]
    exact wpAny_truthy_bool ⟨rfl, (g₁.then g₂).then q.2⟩

noncomputable def truthF (f : List Sl → Option MV) (ρ : List Sl) : Option Bool := (f ρ).bind truthV
theorem truthF_some {f : List Sl → Option MV} {ρ : List Sl} {c : Bool} (h : truthF f ρ = some c) : ∃ a, f ρ = some a ∧ truthV a = some c := by
  unfold truthF at h
  rwa [Option.bind_eq_some_iff] at h
theorem TrS.val {e : Expr} {f : List Sl → Option MV} (hx : EvH C Φ ℓ e f) (he : ∀ env whole, isTrue e env whole = (do let v ← whole; standAt e.pos; holding [v] (truthy v))) : TrS C Φ ℓ e (truthF f) :=
  .mk fun A rm env K₀ H ρ s c F hf => by
    obtain ⟨a, h1, h2⟩ := truthF_some hf
    refine wpAny_isTrue_value (hx.run rm F h1 fun va s₁ ra g₁ F₁ => ?_) (he _ _)
    exact wp_mono (wp_truthy ra h2) fun v s₂ q => ⟨q.1, g₁.then q.2⟩

noncomputable def andT (t u : List Sl → Option Bool) (ρ : List Sl) : Option Bool := (t ρ).bind fun b => if b then u ρ else some false
noncomputable def orT (t u : List Sl → Option Bool) (ρ : List Sl) : Option Bool := (t ρ).bind fun b => if b then some true else u ρ
theorem TrS.and {x y : Expr} {pos : Pos} {t u : List Sl → Option Bool} (hx : TrS C Φ ℓ x t) (hy : TrS C Φ ℓ y u) : TrS C Φ ℓ (.BoolOp .And [x, y] pos) (andT t u) :=
  .mk fun A rm env K₀ H ρ s c F hf => by
    unfold andT at hf
    rw [Option.bind_eq_some_iff] at hf
    obtain ⟨b, hb, hf⟩ := hf
    refine wpAny_isTrue_BoolOp (wpAny_allTrue_And_cons (hx.run rm F hb fun s₁ g₁ F₁ => ?_))
    cases b with
    | false => cases hf; exact ⟨rfl, g₁⟩
    | true =>
      refine wpAny_allTrue_And_cons (hy.run rm F₁ hf fun s₂ g₂ F₂ => ?_)
      cases c with
      | false => exact ⟨rfl, g₁.then g₂⟩
      | true => exact wpAny_allTrue_And_nil ⟨rfl, g₁.then g₂⟩
theorem TrS.or {x y : Expr} {pos : Pos} {t u : List Sl → Option Bool} (hx : TrS C Φ ℓ x t) (hy : TrS C Φ ℓ y u) : TrS C Φ ℓ (.BoolOp .Or [x, y] pos) (orT t u) :=
  .mk fun A rm env K₀ H ρ s c F hf => by
    unfold orT at hf
    rw [Option.bind_eq_some_iff] at hf
    obtain ⟨b, hb, hf⟩ := hf
    refine wpAny_isTrue_BoolOp (wpAny_allTrue_Or_cons (hx.run rm F hb fun s₁ g₁ F₁ => ?_))
    cases b with
    | true => cases hf; exact ⟨rfl, g₁⟩
    | false =>
      refine wpAny_allTrue_Or_cons (hy.run rm F₁ hf fun s₂ g₂ F₂ => ?_)
      cases c with
      | true => exact ⟨rfl, g₁.then g₂⟩
      | false => exact wpAny_allTrue_Or_nil ⟨rfl, g₁.then g₂⟩

noncomputable def iteF {α : Type} (t : List Sl → Option Bool) (f g : List Sl → Option α) (ρ : List Sl) : Option α := (t ρ).bind fun b => if b then f ρ else g ρ
noncomputable def negF (f : List Sl → Option MV) (ρ : List Sl) : Option MV := match f ρ with | some (.int i) => some (.int (-i)) | _ => none
set_option tactic.hygienic true in
theorem EvS.neg {x : Expr} {pos : Pos} {f : List Sl → Option MV} (hx : EvS C Φ ℓ x f) : EvS C Φ ℓ (.UnaryOp .USub x pos) (negF f) :=
  .mk fun A rm env K₀ H ρ s c F hf => by
    unfold negF at hf
    split at hf
    · next i hi =>
      cases hf
      refine wpAny_UnaryOp (hx.run rm F hi fun va s₁ ra g₁ F₁ => ?_)
      obtain ⟨t, rfl⟩ := (RepH.of ra).isInt
      exact PyProof.Rows.neg_int ⟨.int _ _, g₁.then Late.tok⟩
    · cases hf

theorem wp_inPython {A : Around} {s : Shared} {o : Value} {T id : String} {Q : Bool → Shared → Prop} (hT : s.TypeIs o T) (hl : typeLookup (.type T) "__getitem__" = pure (some (.builtin id))) (h : Q false s) :
    wp C A (getitemInPython o) Q s := by
  rw [getitemInPython_of_ne hT.not_modules]
  exact wpAny_bind (wpAny_specialOf hT hl (wpAny_pure h))

theorem EvS.item {o i : Expr} {pos : Pos} {f g : List Sl → Option MV} (ho : EvH C Φ ℓ o f) (hi : EvS C Φ ℓ i g)
    (hs : ∀ o' i', subscripted i false o' i' = operate [o', i'] (getItem o' i')) : EvS C Φ ℓ (.Subscript o i pos) (bin2 itemOp f g) :=
  .mk fun A rm env K₀ H ρ s c F hf => by
    obtain ⟨a, b, h1, h2, h3⟩ := bin2_some hf
    obtain ⟨T, hT⟩ : ∃ T, seqT a = some T := by
      cases a <;> first | exact ⟨_, rfl⟩ | (cases b <;> cases h3)
    obtain ⟨id, hl⟩ := seq_getitem hT
    rw [arm_eval_Subscript]
    refine wpAny_bind (ho.run rm F h1 fun va s₁ ra g₁ F₁ => wpAny_bind (wpAny_holding (hi.run rm F₁ h2 fun vb s₂ rb g₂ F₂ => wpAny_bind (wpAny_standAt ?_))))
    have ra₂ := g₂.repH ra
    refine wpAny_bind (wp_inPython (ra₂.typeIs hT) hl ?_)
    rw [hs]
    refine wpAny_bind (wpAny_operating (wp_mono (wp_itemOp ra₂ (.inl rb) h3) fun v s₃ q => ?_))
    exact wpAny_bind (wpAny_letTemporaryGo (wpAny_pure ⟨q.1, (g₁.then g₂).then q.2⟩))

structure PtS (C : Cfg) (Φ : Fs) (ℓ : Nat) (e : Option Expr) (f : List Sl → Option (Option Int)) : Prop where
  mk ::
  go : ∀ A, Rm A ℓ → ∀ env K₀ H ρ s k, Fm C Φ env K₀ H ρ s → f ρ = some k → wp C A (evalPart e env) (fun v s' => IsPart v k ∧ Grow s s') s
theorem PtS.none : PtS C Φ ℓ none (fun u0 => some none) := .mk fun A rm env K₀ H ρ s k F hf => by
  cases hf; exact wpAny_pure ⟨.none, Late.refl s⟩
noncomputable def partF (f : List Sl → Option MV) (ρ : List Sl) : Option (Option Int) := match f ρ with | some (.int i) => some (some i) | _ => Option.none
set_option tactic.hygienic true in
theorem PtS.some {e : Expr} {f : List Sl → Option MV} (h : EvS C Φ ℓ e f) : PtS C Φ ℓ (some e) (partF f) := .mk fun A rm env K₀ H ρ s k F hf => by
  unfold partF at hf
  split at hf
  · next i hi =>
    cases hf
    show wp C A (eval e env) _ s
    refine h.run rm F hi fun va s₁ ra g₁ F₁ => ?_
    obtain ⟨t, rfl⟩ := (RepH.of ra).isInt
    exact ⟨.int _ _, g₁⟩
  · cases hf

noncomputable def sliceF (f : List Sl → Option MV) (a b : List Sl → Option (Option Int)) (ρ : List Sl) : Option MV := (f ρ).bind fun x => (a ρ).bind fun lo => (b ρ).bind fun hi => sliceOp lo hi x
theorem EvS.slice {o : Expr} {l u : Option Expr} {p pos : Pos} {f : List Sl → Option MV} {a b : List Sl → Option (Option Int)} (ho : EvH C Φ ℓ o f) (hl : PtS C Φ ℓ l a) (hu : PtS C Φ ℓ u b) :
    EvS C Φ ℓ (.Subscript o (.Slice l u .none p) pos) (sliceF f a b) :=
  .mk fun A rm env K₀ H ρ s c F hf => by
    unfold sliceF at hf
    rw [Option.bind_eq_some_iff] at hf
    obtain ⟨x, h1, hf⟩ := hf
    rw [Option.bind_eq_some_iff] at hf
    obtain ⟨lo, h2, hf⟩ := hf
    rw [Option.bind_eq_some_iff] at hf
    obtain ⟨hi, h3, hf⟩ := hf
    obtain ⟨T, hT⟩ : ∃ T, seqT x = Option.some T := by
      cases x <;> first | exact ⟨_, rfl⟩ | cases hf
    obtain ⟨id, hg⟩ := seq_getitem hT
    rw [arm_eval_Subscript]
    refine wpAny_bind (ho.run rm F h1 fun va s₁ ra g₁ F₁ => wpAny_bind (wpAny_holding (wpAny_Slice (wp_mono (hl.go A rm env K₀ H ρ s₁ lo F₁ h2) fun vl s₂ q₂ => wp_mono (hu.go A rm env K₀ H ρ s₂ hi (F₁.grow q₂.2) h3) fun vu s₃ q₃ => wpAny_pure ?_))))
    refine wpAny_bind (wpAny_standAt ?_)
    have g4 : Grow s₁ { s₃ with heap := s₃.heap.push { cls := .type "slice", data := .fields #[vl, vu, .none] } } := (q₂.2.then q₃.2).then Late.push
    have ra₂ := g4.repH ra
    refine wpAny_bind (wp_inPython (ra₂.typeIs hT) hg ?_)
    show wp C A (operate [.ref _, va] (getItem va (.ref _)) >>= _) _ _
    refine wpAny_bind (wpAny_operating (wp_mono (wp_sliceOp ra₂ (fun z h => (F₁.grow g4).kLt h) (Heap.IsSliceOf.new _ _ _ _) q₂.1 q₃.1 hf) fun v s₃ q => ?_))
    exact wpAny_bind (wpAny_letTemporaryGo (wpAny_pure ⟨q.1, (g₁.then g4).then q.2⟩))

structure EvL (C : Cfg) (Φ : Fs) (ℓ : Nat) (es : List Expr) (f : List Sl → Option (List MV)) : Prop where
  mk ::
  go : ∀ A, Rm A ℓ → ∀ env K₀ H ρ s xs, Fm C Φ env K₀ H ρ s → f ρ = some xs → ∀ pos, wp C A (spliced (backTo pos (starEach es env))) (fun vs s' => RepAll s'.heap (Kof K₀ Φ env H) vs xs ∧ Grow s s') s
noncomputable def nilF (_ : List Sl) : Option (List MV) := Option.some []
noncomputable def consF (f : List Sl → Option MV) (g : List Sl → Option (List MV)) (ρ : List Sl) : Option (List MV) := (f ρ).bind fun a => (g ρ).map (a :: ·)
theorem EvL.nil : EvL C Φ ℓ [] nilF := .mk fun A rm env K₀ H ρ s xs F hf pos => by
  cases hf; exact spliced_none ⟨.nil, Late.refl s⟩
theorem EvL.cons {e : Expr} {es : List Expr} {f : List Sl → Option MV} {g : List Sl → Option (List MV)} (he : EvS C Φ ℓ e f) (hes : EvL C Φ ℓ es g) (hs : ∀ env, starEach (e :: es) env = (false, eval e env) :: starEach es env) :
    EvL C Φ ℓ (e :: es) (consF f g) := .mk fun A rm env K₀ H ρ s xs F hf pos => by
  unfold consF at hf
  rw [Option.bind_eq_some_iff] at hf
  obtain ⟨a, h1, hf⟩ := hf
  rw [Option.map_eq_some_iff] at hf
  obtain ⟨as, h2, rfl⟩ := hf
  refine spliced_more (he.run rm F h1 fun va s₁ ra g₁ F₁ => wp_mono (hes.go A rm env K₀ H ρ s₁ as F₁ h2 pos) fun vs s₂ q => ?_) (hs env)
  exact ⟨.cons (q.2.rep ra) q.1, g₁.then q.2⟩

noncomputable def tupF (f : List Sl → Option (List MV)) (ρ : List Sl) : Option MV := (f ρ).bind fun xs => if xs.length ≤ lim then some (.tuple xs) else none

structure EvN (C : Cfg) (Φ : Fs) (ℓ : Nat) (e : Expr) (f : List Sl → Option (List MV)) : Prop where
  mk ::
  go : ∀ A, Rm A ℓ → ∀ env K₀ H ρ s xs, Fm C Φ env K₀ H ρ s → f ρ = some xs →
    wp C A (eval e env) (fun v s' => ∃ a vs, v = .ref a ∧ s.heap.objs.size ≤ a ∧ Ls s'.heap a (List.toArray vs) ∧ RepAll s'.heap (fun b => Kof K₀ Φ env H b ∨ b = a) vs xs ∧ Grow s s') s
noncomputable def listN (f : List Sl → Option (List MV)) (ρ : List Sl) : Option (List MV) := (f ρ).bind fun xs => if xs.length ≤ lim then some xs else none
noncomputable def ofN (f : List Sl → Option (List MV)) (ρ : List Sl) : Option MV := (f ρ).map .list
theorem EvS.ofN {e : Expr} {f : List Sl → Option (List MV)} (h : EvN C Φ ℓ e f) : EvS C Φ ℓ e (ofN f) := .mk fun A rm env K₀ H ρ s c F hf => by
  unfold Mine.ofN at hf
  rw [Option.map_eq_some_iff] at hf
  obtain ⟨xs, h1, rfl⟩ := hf
  refine wp_mono (h.go A rm env K₀ H ρ s xs F h1) fun v s' q => ?_
  obtain ⟨a, vs, rfl, ha, hl, ra, g⟩ := q
  exact ⟨.list hl (fun h => Nat.lt_irrefl _ (Nat.lt_of_lt_of_le (F.kLt h) ha)) (ra.mono (fun b o u0 e => e) fun b h => .inl (.inl h)), g⟩

theorem EvN.list {es : List Expr} {pos : Pos} {f : List Sl → Option (List MV)} (h : EvL C Φ ℓ es f) : EvN C Φ ℓ (.List es pos) (listN f) := .mk fun A rm env K₀ H ρ s xs F hf => by
  unfold listN at hf
  rw [Option.bind_eq_some_iff] at hf
  obtain ⟨ys, h1, hf⟩ := hf
  split at hf
  · next hl =>
    cases hf
    refine wpAny_List (wp_mono (h.go A rm env K₀ H ρ s xs F h1 pos) fun vs s₁ q => ⟨?_, ?_⟩)
    · show _ ≤ 2 ^ 24; rw [q.1.length]; exact hl
    · exact ⟨_, vs, rfl, q.2.size, Ls.push _ _, q.1.mono (fun b o u0 e => Heap.get?_push_of_some _ e) (fun b h => h.elim .inl fun e => .inr (Nat.le_of_eq e.symm)), q.2.then Late.push⟩
  · cases hf
theorem EvS.tuple {es : List Expr} {k : Nat} {pos : Pos} {f : List Sl → Option (List MV)} (h : EvL C Φ ℓ es f) : EvS C Φ ℓ (.Tuple es k pos) (tupF f) := .mk fun A rm env K₀ H ρ s c F hf => by
  unfold tupF at hf
  rw [Option.bind_eq_some_iff] at hf
  obtain ⟨xs, h1, hf⟩ := hf
  split at hf
  · next hl =>
    cases hf
    refine wpAny_Tuple (wp_mono (h.go A rm env K₀ H ρ s xs F h1 pos) fun vs s₁ q => ⟨?_, ?_⟩)
    · show _ ≤ 2 ^ 24; rw [q.1.length]; exact hl
    · refine ⟨.tuple ⟨_, Heap.get?_push_size _ rfl, rfl, _, rfl⟩ (fun h => Nat.lt_irrefl _ (Nat.lt_of_lt_of_le (F.kLt h) q.2.size)) (q.1.mono (fun b o u0 e => Heap.get?_push_of_some _ e) fun b h => .inl h), q.2.then Late.push⟩
  · cases hf
end
end Mine
end

section
open PySem PyProof.Rows
set_option linter.unusedVariables false
namespace Mine

noncomputable def intsOf : List MV → Option (List Int)
  | [] => some []
  | .int i :: r => (intsOf r).map (i :: ·)
  | _ => none
theorem intsOf_inv {xs : List MV} {ns : List Int} (h : intsOf xs = some ns) : xs = ns.map .int := by
  induction xs generalizing ns with
  | nil => cases h; rfl
  | cons x xs ih =>
    cases x with
    | int i =>
      obtain ⟨ms, h1, rfl⟩ := Option.map_eq_some_iff.1 (show (intsOf xs).map (i :: ·) = some ns from h)
      rw [ih h1]; rfl
    | _ => cases h
theorem intsM_rep {h : Heap} {K : Addr → Prop} {vs : List Value} {ns : List Int} (ra : RepAll h K vs (ns.map .int)) : IntsAre vs ns := by
  induction ns generalizing vs with
  | nil => obtain rfl := ra.unnil; exact .nil
  | cons n ns ih =>
    obtain ⟨v, ws, rfl, rv, rb⟩ := RepAll.uncons (x := .int n) (xs := ns.map .int) ra
    obtain ⟨t, rfl⟩ := (RepH.of rv).isInt
    exact .cons n t (ih rb)
theorem intsOf_rep {h : Heap} {K : Addr → Prop} {vs : List Value} {xs : List MV} {ns : List Int} (ra : RepAll h K vs xs) (e : intsOf xs = some ns) : IntsAre vs ns := by
  obtain rfl := intsOf_inv e
  exact intsM_rep ra
theorem intsAre_get {vs : List Value} {ns : List Int} {i : Nat} {v : Value} (h : IntsAre vs ns) (e : vs[i]? = some v) : ∃ t, v = .int (ns.getD i 0) t := by
  induction h generalizing i with
  | nil => rw [List.getElem?_nil] at e; cases e
  | cons n t r ih =>
    cases i with
    | zero => cases e; exact ⟨t, rfl⟩
    | succ i => exact ih e

noncomputable def Bf1 (C : Cfg) (f : Value) (op : MV → Option MV) : Prop :=
  ∀ A, Rm A 1 → ∀ s (K : Addr → Prop) v x c, (∀ a, K a → a < s.heap.objs.size) → RepH s.heap K v x → op x = some c → wp C A (call f [v]) (fun v' s' => Rep s'.heap K v' c ∧ Grow s s') s
noncomputable def Bf2 (C : Cfg) (f : Value) (op : MV → MV → Option MV) : Prop :=
  ∀ A, Rm A 1 → ∀ s (K : Addr → Prop) v x w y c, (∀ a, K a → a < s.heap.objs.size) → RepH s.heap K v x → RepH s.heap K w y → op x y = some c → wp C A (call f [v, w]) (fun v' s' => Rep s'.heap K v' c ∧ Grow s s') s

noncomputable def bLen : MV → Option MV
  | .list xs => if xs.length ≤ lim then some (.int xs.length) else none
  | .str c => if c.length ≤ lim then some (.int c.length) else none
  | .bytes b => if b.length ≤ lim then some (.int b.length) else none
  | _ => none
noncomputable def bAbs : MV → Option MV
  | .int i => some (.int (if i < 0 then -i else i))
  | _ => none
noncomputable def bInt : MV → Option MV
  | .int i => some (.int i)
  | _ => none
noncomputable def bSum : MV → Option MV
  | .list xs => (intsOf xs).map fun ns => .int ns.sum
  | _ => none
noncomputable def bDivmod : MV → MV → Option MV
  | .int a, .int b => if b ≠ 0 ∧ b.natAbs < 1073741824 then some (.tuple [.int (a.fdiv b), .int (a.fmod b)]) else none
  | _, _ => none

section
variable {C : Cfg}
theorem bf_len : Bf1 C (.builtin "len") bLen := fun A rm s K v x c hK r h => by
  unfold bLen at h
  split at h
  · split at h
    · next hl =>
      cases h
      obtain ⟨a, vs, rfl, hp, ra⟩ := r.isList
      have e : vs.toArray.size = _ := (List.size_toArray).trans ra.length
      have hl' : _ ≤ 16777216 := hl
      refine Calls.call_len_list hp.isList (by rw [e]; omega) ⟨?_, Late.tok⟩
      rw [e]; exact .int _ _
    · cases h
  · split at h
    · next hl =>
      cases h
      obtain ⟨t, rfl⟩ := r.isStr
      have hl' : _ ≤ 16777216 := hl
      have e : ∀ cs : List Nat, Str.length ⟨cs.toArray⟩ = cs.length := fun cs => by simp [Str.length]
      refine P.len_str (by rw [e]; omega) ⟨?_, Late.tok⟩
      rw [e]; exact .int _ _
    · cases h
  · split at h
    · next hl =>
      cases h
      obtain ⟨t, rfl⟩ := r.isBytes
      have hl' : _ ≤ 16777216 := hl
      refine PySem.W.len_bytes (by simp only [List.size_toArray]; omega) ⟨?_, Late.tok⟩
      simp only [List.size_toArray]; exact .int _ _
    · cases h
  · cases h
theorem bf_abs : Bf1 C (.builtin "abs") bAbs := fun A rm s K v x c hK r h => by
  unfold bAbs at h
  split at h
  · cases h; obtain ⟨t, rfl⟩ := r.isInt
    exact PyProof.Rows.call_abs_int fun u tk => ⟨.int _ _, Late.tok⟩
  · cases h
theorem bf_int : Bf1 C (.type "int") bInt := fun A rm s K v x c hK r h => by
  unfold bInt at h
  split at h
  · cases h; obtain ⟨t, rfl⟩ := r.isInt
    exact call_int_int ⟨.int _ _, Late.refl s⟩
  · cases h
theorem bf_divmod : Bf2 C (.builtin "divmod") bDivmod := fun A rm s K v x w y c hK r r' h => by
  unfold bDivmod at h
  split at h
  · split at h
    · next hl =>
      cases h; obtain ⟨t, rfl⟩ := r.isInt; obtain ⟨u, rfl⟩ := r'.isInt
      refine PyProof.Rows.divmod_int hl.1 ⟨?_, Late.push⟩ (Or.inl (PyProof.noPylong_small hl.2))
      exact .tuple (vs := [_, _]) ⟨_, Heap.get?_push_size _ rfl, rfl, _, rfl⟩ (fun h => Nat.lt_irrefl _ (hK _ h)) (.cons (.int _ _) (.cons (.int _ _) .nil))
    · cases h
  · cases h
theorem bf_sum : Bf1 C (.builtin "sum") bSum := fun A rm s K v x c hK r h => by
  unfold bSum at h
  split at h
  · rw [Option.map_eq_some_iff] at h
    obtain ⟨ns, hn, rfl⟩ := h
    obtain ⟨a, vs, rfl, hp, ra⟩ := r.isList
    have hi := intsOf_rep ra hn
    have hne : a ≠ s.heap.objs.size := Nat.ne_of_lt hp.lt
    refine wp_sized (call_sum_walkAnyS (wpAny_pyIter_list hp.isList ⟨s.heap.objs.size, _, _, _, _, _, _, (fun i => ns.getD i 0), rfl, (Walks.list (A := A.in1) (show A.in1.handled = none from rm.hh) s.heap.objs.size a hne vs.toArray).toS,
      ⟨⟨_, Heap.get?_push_size _ rfl, rfl, rfl⟩, hp.isList.push _⟩, ?_, ?_, ?_⟩))
    · intro b hb
      rw [Heap.size_push]
      rcases List.mem_cons.mp hb with hb | hb
      · exact hb ▸ Nat.lt_succ_self _
      · rcases List.mem_cons.mp hb with hb | hb
        · exact hb ▸ Nat.lt_succ_of_lt hp.lt
        · cases hb
    · intro i v hv
      exact intsAre_get hi (by simpa using hv)
    · intro s' t' hm hsz
      refine ⟨?_, ⟨fun b o u0 e => hm.heap b o ?_ (Heap.get?_push_of_some _ e), hsz, fun g x u0 e => by rw [hm.gens]; exact e, by rw [hm.gens]; exact Nat.le_refl _, fun h => by rw [hm.gens]; exact h, hm.os⟩⟩
      · have e : preSum (fun i => ns.getD i 0) vs.toArray.size = ns.sum := by
          rw [preSum_getD]
          rw [List.take_of_length_le (by simp [hi.length])]
        rw [e]; exact .int _ _
      · intro hb
        rcases List.mem_cons.mp hb with rfl | hb
        · exact Nat.lt_irrefl _ (Heap.lt_size e)
        · cases hb
  · cases h
end

section
variable {C : Cfg} {Φ : Fs} {ℓ : Nat} {env : Env} {K₀ : Addr → Prop} {H : Nat → Option Addr} {ρ : List Sl} {s : Shared} {A : Around}

noncomputable def Glo (C : Cfg) (x : Str) (v : Value) : Prop := C.mg x = some v ∨ (C.mg x = none ∧ C.mb x = some v)

theorem wp_global {x : Str} {v : Value} {pos : Pos} {Q : Value → Shared → Prop} (hC : C.Ok) (F : Fm C Φ env K₀ H ρ s) (hk : Φ.kind x = some .globalImplicit) (hv : Glo C x v)
    (hd : (x == ("__debug__" : Str)) = false) (h : Q v s) : wp C A (eval (.Name x pos) env) Q s := by
  refine Calls.Name_function_global (by rw [F.envOk.scope]; exact F.fsOk.kind) (by unfold Env.kindOf; rw [F.envOk.scope]; exact hk) ?_ hd
  have hg : s.heap.Ns env.globals C.mg := by rw [F.envOk.glob]; exact hC.g.keeps F.keepT
  have hb : s.heap.Ns env.builtins C.mb := by rw [F.envOk.bi]; exact hC.b.keeps F.keepT
  rcases hv with hv | ⟨h1, h2⟩
  · exact Calls.loadGlobal_global hg hv h
  · exact Calls.loadGlobal_builtin hg h1 hb h2 h

theorem EvS.glob {x : Str} {pos : Pos} {v : Value} {cs : List Nat} (hC : C.Ok) (hk : Φ.kind x = some .globalImplicit) (hv : ∃ t, Glo C x (.str ⟨cs.toArray⟩ t)) (hd : (x == ("__debug__" : Str)) = false) :
    EvS C Φ ℓ (.Name x pos) (fun u0 => some (.str cs)) := .mk fun A rm env K₀ H ρ s c F hf => by
  cases hf
  obtain ⟨t, hv⟩ := hv
  exact wp_global hC F hk hv hd ⟨.str _ _, Late.refl s⟩

noncomputable def app1 (op : MV → Option MV) (f : List Sl → Option MV) (ρ : List Sl) : Option MV := (f ρ).bind op

theorem EvS.call1 {x : Str} {np pos : Pos} {e : Expr} {f : List Sl → Option MV} {op : MV → Option MV} {id : String} (hC : C.Ok) (hk : Φ.kind x = some .globalImplicit) (hv : Glo C x (.builtin id))
    (hd : (x == ("__debug__" : Str)) = false) (hb : Bf1 C (.builtin id) op) (he : EvH C Φ ℓ e f) (hs : ∀ env, starEach [e] env = [(false, eval e env)]) (h1 : 1 ≤ ℓ) :
    EvS C Φ ℓ (.Call (.Name x np) [e] [] pos) (app1 op f) := .mk fun A rm env K₀ H ρ s c F hf => by
  unfold app1 at hf
  rw [Option.bind_eq_some_iff] at hf
  obtain ⟨a, h2, h3⟩ := hf
  refine wpAny_Call_NameR (wp_global hC F hk hv hd ?_)
  rw [hs]
  refine Calls.callWith_builtin rfl (Calls.evalArgs_plain (Calls.spliced_cons (he.run rm F h2 fun va s₁ ra g₁ F₁ => Calls.spliced_nil ?_)))
  exact wp_mono (hb A (rm.mono h1) s₁ _ va a c (fun z h => F₁.kLt h) ra h3) fun v s₂ q => ⟨q.1, g₁.then q.2⟩
theorem EvS.callT1 {x : Str} {np pos : Pos} {e : Expr} {f : List Sl → Option MV} {op : MV → Option MV} {T : String} (hC : C.Ok) (hk : Φ.kind x = some .globalImplicit) (hv : Glo C x (.type T))
    (hd : (x == ("__debug__" : Str)) = false) (hb : Bf1 C (.type T) op) (he : EvH C Φ ℓ e f) (hs : ∀ env, starEach [e] env = [(false, eval e env)]) (h1 : 1 ≤ ℓ) :
    EvS C Φ ℓ (.Call (.Name x np) [e] [] pos) (app1 op f) := .mk fun A rm env K₀ H ρ s c F hf => by
  unfold app1 at hf
  rw [Option.bind_eq_some_iff] at hf
  obtain ⟨a, h2, h3⟩ := hf
  refine wpAny_Call_NameR (wp_global hC F hk hv hd ?_)
  rw [hs]
  refine PySem.callWith_type rfl (Calls.evalArgs_plain (Calls.spliced_cons (he.run rm F h2 fun va s₁ ra g₁ F₁ => Calls.spliced_nil ?_)))
  exact wp_mono (hb A (rm.mono h1) s₁ _ va a c (fun z h => F₁.kLt h) ra h3) fun v s₂ q => ⟨q.1, g₁.then q.2⟩
theorem EvS.call2 {x : Str} {np pos : Pos} {e e' : Expr} {f g : List Sl → Option MV} {op : MV → MV → Option MV} {id : String} (hC : C.Ok) (hk : Φ.kind x = some .globalImplicit) (hv : Glo C x (.builtin id))
    (hd : (x == ("__debug__" : Str)) = false) (hb : Bf2 C (.builtin id) op) (he : EvH C Φ ℓ e f) (he' : EvH C Φ ℓ e' g) (hs : ∀ env, starEach [e, e'] env = [(false, eval e env), (false, eval e' env)]) (h1 : 1 ≤ ℓ) :
    EvS C Φ ℓ (.Call (.Name x np) [e, e'] [] pos) (bin2 op f g) := .mk fun A rm env K₀ H ρ s c F hf => by
  obtain ⟨a, b, h2, h3, h4⟩ := bin2_some hf
  refine wpAny_Call_NameR (wp_global hC F hk hv hd ?_)
  rw [hs]
  refine Calls.callWith_builtin rfl (Calls.evalArgs_plain (Calls.spliced_cons (he.run rm F h2 fun va s₁ ra g₁ F₁ => Calls.spliced_cons (he'.run rm F₁ h3 fun vb s₂ rb g₂ F₂ => Calls.spliced_nil ?_))))
  exact wp_mono (hb A (rm.mono h1) s₂ _ va a vb b c (fun z h => F₂.kLt h) (g₂.repH ra) rb h4) fun v s₃ q => ⟨q.1, (g₁.then g₂).then q.2⟩

noncomputable def FnS (C : Cfg) (ℓ : Nat) (x : Str) (φ : List MV → Option MV) : Prop :=
  ∃ a o fd, C.mg x = some (.ref a) ∧ C.hT.get? a = some o ∧ o.data = .func fd ∧
    ∀ A, Rm A ℓ → ∀ s (K : Addr → Prop) vs xs c, (∀ b o, C.hT.get? b = some o → s.heap.get? b = some o) → C.hT.objs.size ≤ s.heap.objs.size → AllBare s.gens → (∀ a, K a → a < s.heap.objs.size) → RepAll s.heap K vs xs → φ xs = some c →
      wp C A (call (.ref a) vs) (fun v' s' => Rep s'.heap K v' c ∧ Grow s s') s

noncomputable def appF (φ : List MV → Option MV) (f : List Sl → Option (List MV)) (ρ : List Sl) : Option MV := (f ρ).bind φ
theorem EvS.fn {x : Str} {np pos : Pos} {e : Expr} {es : List Expr} {f : List Sl → Option (List MV)} {φ : List MV → Option MV} {k : Nat} (hC : C.Ok) (hk : Φ.kind x = some .globalImplicit)
    (hd : (x == ("__debug__" : Str)) = false) (hf : FnS C k x φ) (he : EvL C Φ ℓ (e :: es) f) (hs : ∀ env, ∃ t, starEach (e :: es) env = (false, t) :: starEach es env) (h1 : k ≤ ℓ) :
    EvS C Φ ℓ (.Call (.Name x np) (e :: es) [] pos) (appF φ f) := .mk fun A rm env K₀ H ρ s c F hf' => by
  unfold appF at hf'
  rw [Option.bind_eq_some_iff] at hf'
  obtain ⟨xs, h2, h3⟩ := hf'
  obtain ⟨a, o, fd, hmg, ho, hdt, hcall⟩ := hf
  refine wpAny_Call_NameR (wp_global hC F hk (.inl hmg) hd ?_)
  obtain ⟨t, hst⟩ := hs env
  have e1 : backTo pos (starEach (e :: es) env) = (false, t) :: backTo pos (starEach es env) := by rw [hst]; rfl
  have key := he.go A rm env K₀ H ρ s xs F h2 pos
  rw [e1] at key ⊢
  refine Calls.callWith_function (o := o) (fd := fd) (Calls.evalArgs_plain (wp_mono key fun vs s₁ q => ⟨⟨(F.grow q.2).keepT _ _ ho, hdt⟩, ?_⟩))
  have F₁ := F.grow q.2
  exact wp_mono (hcall A (rm.mono h1) s₁ _ vs xs c F₁.keepT F₁.tsz F₁.bare (fun z h => F₁.kLt h) q.1 h3) fun v s₂ r => ⟨r.1, q.2.then r.2⟩
end
end Mine
end

section
open PySem PyProof.Rows PySem.StrLaws
open Builtin Builtin.Str
set_option linter.unusedVariables false
namespace Mine

theorem at_iff' (x y : List Nat) (b i : Nat) (hb : b ≤ x.length) : At ⟨x.toArray⟩ ⟨y.toArray⟩ b i ↔ i ≤ b ∧ y <+: (x.take b).drop i := by
  unfold At
  rw [subAt_eq]
  simp only [Str.length, List.size_toArray]
  rw [beq_iff_eq]
  constructor
  · rintro ⟨h1, h2⟩
    refine ⟨by omega, ?_⟩
    rw [List.prefix_iff_eq_take, List.drop_take, List.take_take, Nat.min_eq_left (by omega)]
    exact h2.symm
  · rintro ⟨h1, h2⟩
    have h3 := h2.length_le
    rw [List.length_drop, List.length_take] at h3
    refine ⟨by omega, ?_⟩
    have := List.prefix_iff_eq_take.mp h2
    rw [List.drop_take, List.take_take, Nat.min_eq_left (by omega)] at this
    exact this.symm

theorem range'_from {lo n a : Nat} {pre post : List Nat} (h : List.range' lo n = pre ++ a :: post) : lo ≤ a ∧ ∀ k, lo ≤ k → k < a → k ∈ pre := range'_split_from h

theorem occ_find3 (x y : List Nat) (a b : Nat) (hab : a ≤ b) (hb : b ≤ x.length) :
    match find3L y x a b with
    | none => occurrences ⟨x.toArray⟩ ⟨y.toArray⟩ a b 1 = []
    | some k => ∃ r, occurrences ⟨x.toArray⟩ ⟨y.toArray⟩ a b 1 = k :: r := by
  have h : (occurrences ⟨x.toArray⟩ ⟨y.toArray⟩ a b 1 = [] ∧ ∀ i, a ≤ i → ¬ At ⟨x.toArray⟩ ⟨y.toArray⟩ b i) ∨
      ∃ i r, occurrences ⟨x.toArray⟩ ⟨y.toArray⟩ a b 1 = i :: r ∧ a ≤ i ∧ At ⟨x.toArray⟩ ⟨y.toArray⟩ b i ∧ ∀ k, a ≤ k → k < i → ¬ At ⟨x.toArray⟩ ⟨y.toArray⟩ b k := by
    rw [occ_eq]
    rcases occ_first ⟨x.toArray⟩ ⟨y.toArray⟩ b 1 (Nat.le_refl _) (List.range' a (b + 1 - a)) a (fun i hi => by have := List.mem_range'_1.mp hi; omega) with ⟨h0, hn⟩ | ⟨pre, c, post, e, h0, ha, hn⟩
    · refine .inl ⟨by rw [h0], fun i hlo hi => ?_⟩
      exact hn i (by have := hi.1; rw [List.mem_range'_1]; omega) hi
    · have hs := range'_from e
      refine .inr ⟨c, ((forIn (List.range' a (b + 1 - a)) ((#[] : Array Nat), a) (occBody ⟨x.toArray⟩ ⟨y.toArray⟩ b 1)).run.fst.toList).tail, ?_, hs.1, ha, fun k hk0 hk => hn k (hs.2 k hk0 hk)⟩
      generalize (forIn (List.range' a (b + 1 - a)) ((#[] : Array Nat), a) (occBody ⟨x.toArray⟩ ⟨y.toArray⟩ b 1)).run.fst = arr at h0
      have h1 : arr.toList[0]? = some c := by simpa using h0
      cases hL : arr.toList with
      | nil => rw [hL] at h1; cases h1
      | cons b t => rw [hL] at h1; simp at h1; rw [h1]; rfl
  unfold find3L
  have dd : ∀ j, ((x.take b).drop a).drop j = (x.take b).drop (a + j) := fun j => by rw [List.drop_drop]
  have hl : ((x.take b).drop a).length = b - a := by rw [List.length_drop, List.length_take]; omega
  cases hf : findL y ((x.take b).drop a) with
  | none =>
    show occurrences _ _ _ _ _ = []
    rcases h with ⟨h, _⟩ | ⟨i, r, h, h1, ha, _⟩
    · exact h
    · obtain ⟨h2, h3⟩ := (at_iff' x y b i hb).mp ha
      refine absurd ?_ (findL_none y _ hf (i - a) (by omega))
      rw [dd, show a + (i - a) = i by omega]; exact h3
  | some k =>
    show ∃ r, occurrences _ _ _ _ _ = (a + k) :: r
    obtain ⟨h1, h2, h3⟩ := findL_some y _ k hf
    rw [dd] at h2
    rcases h with ⟨h, hn⟩ | ⟨i, r, h, hi, ha, hm⟩
    · exact absurd ((at_iff' x y b (a + k) hb).mpr ⟨by omega, h2⟩) (hn _ (by omega))
    · obtain ⟨h4, h5⟩ := (at_iff' x y b i hb).mp ha
      have : i = a + k := by
        rcases Nat.lt_trichotomy i (a + k) with q | q | q
        · refine absurd ?_ (h3 (i - a) (by omega))
          rw [dd, show a + (i - a) = i by omega]; exact h5
        · exact q
        · exact absurd ((at_iff' x y b (a + k) hb).mpr ⟨by omega, h2⟩) (hm _ (by omega) q)
      subst this
      exact ⟨r, h⟩

theorem gives_find_4 (x y : Str) (i j : Int) (t u v z : Tok) : Gives («str.find» ⟨[.str x t, .str y u, .int i v, .int j z], []⟩)
    (.int (match occurrences x y (fromIndex x.length i) (min (fromIndex x.length j) x.length) 1 with | k :: _ => (k : Int) | [] => -1)) := by
  show Gives (match occurrences x y (fromIndex x.length i) (min (fromIndex x.length j) x.length) 1 with | k :: _ => retInt k | [] => (do rule "str.find.not-found"; retInt (-1))) _
  cases occurrences x y (fromIndex x.length i) (min (fromIndex x.length j) x.length) 1 with
  | nil => exact .rule (.of_eq rfl)
  | cons k _ => exact .of_eq rfl

noncomputable def joinL (sep : List Nat) : List (List Nat) → List Nat
  | [] => []
  | [x] => x
  | x :: y :: r => x ++ sep ++ joinL sep (y :: r)
theorem join_eq (sep : List Nat) : ∀ xs : List (List Nat), Str.join ⟨sep.toArray⟩ (xs.map fun c => (⟨c.toArray⟩ : Str)) = ⟨(joinL sep xs).toArray⟩
  | [] => rfl
  | [x] => rfl
  | x :: y :: r => by
    have h := join_eq sep (y :: r)
    show (⟨x.toArray⟩ : Str) ++ ⟨sep.toArray⟩ ++ Str.join _ ((y :: r).map fun c => (⟨c.toArray⟩ : Str)) = _
    rw [h, str_append, str_append]; rfl

noncomputable def fitJ (sep : List Nat) (xs : List (List Nat)) : Bool := decide ((xs.map List.length).sum + xs.length * sep.length ≤ lim)
theorem fitJ_ok {sep : List Nat} {xs : List (List Nat)} (h : fitJ sep xs = true) : JoinOk ⟨sep.toArray⟩ (xs.map fun c => (⟨c.toArray⟩ : Str)) = true := by
  refine joinOk_of ?_
  have h' := of_decide_eq_true h
  have e : ((xs.map fun c => (⟨c.toArray⟩ : Str)).map (·.length)) = xs.map List.length := by
    rw [List.map_map]; congr 1
  rw [e, List.length_map]
  have h'' : (xs.map List.length).sum + xs.length * sep.length ≤ 16777216 := h'
  simpa [Str.length] using h''

section
variable {C : Cfg} {Φ : Fs} {ℓ : Nat}

noncomputable def Mt1 (C : Cfg) (name : Str) (op : MV → MV → Option MV) : Prop :=
  ∀ A, Rm A 1 → ∀ s (K : Addr → Prop) vo x pos (a : Sem Value) y c (Q : Value → Shared → Prop), RepH s.heap K vo x → op x y = some c →
    wp C A a (fun v s₁ => (∀ z, K z → z < s₁.heap.objs.size) ∧ RepH s₁.heap K v y ∧ Grow s s₁ ∧ ∀ v' s₂, Rep s₂.heap K v' c → Grow s₁ s₂ → Q v' s₂) s → MethodOnS C.prog C.w A (fun u0 u1 => False) name vo pos [(false, a)] Q s

theorem EvS.meth1 {o e : Expr} {name : Str} {ap pos : Pos} {f g : List Sl → Option MV} {op : MV → MV → Option MV} (hm : Mt1 C name op) (ho : EvH C Φ ℓ o f) (he : EvH C Φ ℓ e g)
    (hb : ∀ env, attributeBase o name env (eval o env) = eval o env) (hs : ∀ env, starEach [e] env = [(false, eval e env)]) (hl : (ap.endLine == pos.line) = true) (h1 : 1 ≤ ℓ) :
    EvS C Φ ℓ (.Call (.Attribute o name ap) [e] [] pos) (bin2 op f g) := .mk fun A rm env K₀ H ρ s c F hf => by
  obtain ⟨a, b, h2, h3, h4⟩ := bin2_some hf
  refine Call_method1 (hb env) (hs env) hl (ho.run rm F h2 fun va s₁ ra g₁ F₁ => hm A (rm.mono h1) s₁ _ va a pos _ b c _ ra h4 (he.run rm F₁ h3 fun vb s₂ rb g₂ F₂ => ⟨fun z hz => F₂.kLt hz, rb, g₂, fun v' s₃ r g₃ => ⟨r, (g₁.then g₂).then g₃⟩⟩))

noncomputable def strOp {α : Type} (f : List Nat → List Nat → Option α) (a b : MV) : Option α := on2 asStr asStr f none a b
theorem strOp_inv {α : Type} {f : List Nat → List Nat → Option α} {a b : MV} {c : α} (h : strOp f a b = some c) : ∃ x y, a = .str x ∧ b = .str y ∧ f x y = some c := by
  rcases on2_inv h with ⟨x, y, hx, hy, h⟩ | h
  · exact ⟨x, y, asStr_inv hx, asStr_inv hy, h⟩
  · cases h
noncomputable def mStarts : MV → MV → Option MV := strOp fun x y => some (.bool (y.isPrefixOf x))
noncomputable def mEnds : MV → MV → Option MV := strOp fun x y => some (.bool (y.isSuffixOf x))
noncomputable def mIndex : MV → MV → Option MV := strOp fun x y => (findL y x).map fun k : Nat => MV.int (Int.ofNat k)
noncomputable def mJoin (a b : MV) : Option MV := (asStr a).bind fun x =>
  (asList b).elim ((asStr b).bind fun y => if fitJ x (y.map fun c => [c]) then some (.str (joinL x (y.map fun c => [c]))) else none)
    fun ys => (strsOf ys).bind fun l => if fitJ x l then some (.str (joinL x l)) else none

theorem mt_starts : Mt1 C "startswith" mStarts := fun A rm s K vo x pos a y c Q r h k => by
  obtain ⟨x, y, rfl, rfl, h⟩ := strOp_inv h
  cases h
  obtain ⟨t, rfl⟩ := r.isStr
  refine SB.startswith (wp_mono k fun v s₁ q => ?_)
  obtain ⟨_, rb, _, hq⟩ := q
  obtain ⟨u, rfl⟩ := rb.isStr
  exact ⟨_, _, rfl, hq _ _ (by rw [startswith_eq]; exact .bool _) (Late.refl _)⟩
theorem mt_ends : Mt1 C "endswith" mEnds := fun A rm s K vo x pos a y c Q r h k => by
  obtain ⟨x, y, rfl, rfl, h⟩ := strOp_inv h
  cases h
  obtain ⟨t, rfl⟩ := r.isStr
  refine SB.endswith (wp_mono k fun v s₁ q => ?_)
  obtain ⟨_, rb, _, hq⟩ := q
  obtain ⟨u, rfl⟩ := rb.isStr
  exact ⟨_, _, rfl, hq _ _ (by rw [endswith_eq]; exact .bool _) (Late.refl _)⟩
theorem mt_index : Mt1 C "index" mIndex := fun A rm s K vo x pos a y c Q r h k => by
  obtain ⟨x, y, rfl, rfl, h⟩ := strOp_inv h
  obtain ⟨n, hn, rfl⟩ := Option.map_eq_some_iff.1 h
  obtain ⟨t, rfl⟩ := r.isStr
  refine SB.index (wp_mono k fun v s₁ q => ?_)
  obtain ⟨_, rb, _, hq⟩ := q
  obtain ⟨u, rfl⟩ := rb.isStr
  have ho := occ_findL x y 1 (Nat.le_refl _)
  rw [hn] at ho
  obtain ⟨rest, ho⟩ := ho
  exact ⟨_, _, rfl, n, rest, ho, hq _ _ (.int _ _) Late.tok⟩

theorem zip_fst {α β : Type} : ∀ (l : List α) (ts : List β), ts.length = l.length → (l.zip ts).map (·.1) = l
  | [], _, _ => by simp
  | a :: l, [], h => by simp at h
  | a :: l, b :: ts, h => by simpa using zip_fst l ts (by simpa using h)

theorem mt_join : Mt1 C "join" mJoin := fun A rm s K vo x pos a y c Q r h k => by
  obtain ⟨x, hx, h⟩ := Option.bind_eq_some_iff.1 h
  obtain rfl := asStr_inv hx
  obtain ⟨t, rfl⟩ := r.isStr
  rcases elim_inv h with ⟨ys, hy, e⟩ | h'
  · obtain rfl := asList_inv hy
    obtain ⟨l, hl, e⟩ := Option.bind_eq_some_iff.1 e
    obtain ⟨hfit, rfl⟩ := if_inv e
    refine SB.join (wp_mono k fun v s₁ q => ?_)
    obtain ⟨_, rb, _, hq⟩ := q
    obtain ⟨D, vs, rfl, hp, ra⟩ := rb.isList
    obtain ⟨ts, rfl, hts⟩ := strsOf_rep ra hl
    refine ⟨D, (l.zip ts).map fun p => ((⟨p.1.toArray⟩ : Str), p.2), rfl, ?_, l.map fun c => ⟨c.toArray⟩, ?_, fitJ_ok hfit, fun t' k' => ?_⟩
    · have e : strValues ((l.zip ts).map fun p => ((⟨p.1.toArray⟩ : Str), p.2)) = (l.zip ts).map fun p => Value.str ⟨p.1.toArray⟩ p.2 := by
        unfold strValues; rw [List.map_map]; rfl
      rw [e]; exact hp.isList
    · rw [List.map_map]
      have : ((fun p : Str × Tok => p.1) ∘ fun p : List Nat × Tok => ((⟨p.1.toArray⟩ : Str), p.2)) = (fun c : List Nat => (⟨c.toArray⟩ : Str)) ∘ (·.1) := rfl
      rw [this, ← List.map_map, zip_fst l ts hts]
    · refine hq _ _ ?_ Late.tok
      show Rep _ _ (.str (glued _ _) _) _
      rw [glued_eq_join, join_eq]; exact .str _ _
  · obtain ⟨y, hy, e⟩ := Option.bind_eq_some_iff.1 h'
    obtain rfl := asStr_inv hy
    obtain ⟨hfit, rfl⟩ := if_inv e
    have e : signs ⟨y.toArray⟩ = (y.map fun c => [c]).map fun c => (⟨c.toArray⟩ : Str) := by
      unfold signs; rw [List.map_map]; rfl
    refine ⟨"str", _, PySem.F.plainAttrs_str, PySem.F.slot_str_join, PySem.F.type_str_join, typeIs_str _ _ _, (fun u0 e => nomatch e), ?_⟩
    refine Calls.callWith_builtin rfl (Calls.evalArgs_plain (Calls.spliced_cons (wp_mono k fun v s₁ q => Calls.spliced_nil ?_)))
    obtain ⟨_, rb, _, hq⟩ := q
    obtain ⟨u, rfl⟩ := rb.isStr
    refine wp_sized (SC.joinStr rm.hh (by rw [e]; exact fitJ_ok hfit) fun h' k' t' hk hsz => ?_)
    refine hq _ _ ?_ (.heap (fun b o u0 eo => hk b o eo) hsz)
    show Rep _ _ (.str (glued _ _) _) _
    rw [glued_eq_join, e, join_eq]; exact .str _ _

noncomputable def mFind (o p q r : MV) : Option MV := strOp (fun x y => intOp (fun a b => if 0 ≤ a ∧ a ≤ b ∧ b ≤ x.length then some (.int (match find3L y x a.toNat b.toNat with | some k => (k : Int) | none => -1)) else none) q r) o p
noncomputable def findF (f g h k : List Sl → Option MV) (ρ : List Sl) : Option MV := (f ρ).bind fun a => (g ρ).bind fun b => (h ρ).bind fun c => (k ρ).bind fun d => mFind a b c d
theorem find3_facts {x : List Nat} {i j : Int} (h1 : 0 ≤ i) (h2 : i ≤ j) (h3 : j ≤ x.length) : fromIndex (Str.length ⟨x.toArray⟩) i = i.toNat ∧ min (fromIndex (Str.length ⟨x.toArray⟩) j) (Str.length ⟨x.toArray⟩) = j.toNat ∧ i.toNat ≤ j.toNat ∧ j.toNat ≤ x.length := by
  have hsz : Str.length ⟨x.toArray⟩ = x.length := List.size_toArray
  have e3 : i.toNat ≤ j.toNat := Int.toNat_le_toNat h2
  have e4 : j.toNat ≤ x.length := Int.toNat_le.2 h3
  rw [hsz]
  unfold fromIndex
  rw [if_neg (Int.not_lt.2 h1), if_neg (Int.not_lt.2 (Int.le_trans h1 h2))]
  rw [Int.max_eq_right h1, Int.max_eq_right (Int.le_trans h1 h2)]
  exact ⟨rfl, Nat.min_eq_left e4, e3, e4⟩
theorem find_val (x y : List Nat) (i j : Int) (h1 : 0 ≤ i) (h2 : i ≤ j) (h3 : j ≤ x.length) :
    (match occurrences ⟨x.toArray⟩ ⟨y.toArray⟩ (fromIndex (Str.length ⟨x.toArray⟩) i) (min (fromIndex (Str.length ⟨x.toArray⟩) j) (Str.length ⟨x.toArray⟩)) 1 with | k :: _ => (k : Int) | [] => -1)
      = (match find3L y x i.toNat j.toNat with | some k => (k : Int) | none => -1) := by
  obtain ⟨e1, e2, e3, e4⟩ := find3_facts (x := x) h1 h2 h3
  rw [e1, e2]
  have := occ_find3 x y i.toNat j.toNat e3 e4
  cases hF : find3L y x i.toNat j.toNat with
  | none => rw [hF] at this; rw [show _ = _ from this]
  | some k => rw [hF] at this; obtain ⟨r, this⟩ := this; rw [this]
theorem EvS.find3 {o e e' e'' : Expr} {ap pos : Pos} {f g h k : List Sl → Option MV} (ho : EvH C Φ ℓ o f) (he : EvS C Φ ℓ e g) (he' : EvS C Φ ℓ e' h) (he'' : EvS C Φ ℓ e'' k)
    (hb : ∀ env, attributeBase o "find" env (eval o env) = eval o env) (hs : ∀ env, starEach [e, e', e''] env = [(false, eval e env), (false, eval e' env), (false, eval e'' env)]) (hl : (ap.endLine == pos.line) = true) (h1 : 1 ≤ ℓ) :
    EvS C Φ ℓ (.Call (.Attribute o "find" ap) [e, e', e''] [] pos) (findF f g h k) := .mk fun A rm env K₀ H ρ s c F hf => by
  unfold findF at hf
  rw [Option.bind_eq_some_iff] at hf
  obtain ⟨x, h2, hf⟩ := hf
  rw [Option.bind_eq_some_iff] at hf
  obtain ⟨y, h3, hf⟩ := hf
  rw [Option.bind_eq_some_iff] at hf
  obtain ⟨i, h4, hf⟩ := hf
  rw [Option.bind_eq_some_iff] at hf
  obtain ⟨j, h5, hf⟩ := hf
  obtain ⟨x, y, rfl, rfl, hf⟩ := strOp_inv hf
  obtain ⟨i, j, rfl, rfl, hf⟩ := intOp_inv hf
  obtain ⟨hc, rfl⟩ := if_inv hf
  refine wpAny_Call_method_lateS (hb env) (by rw [hs]; rfl) hl (ho.run rm F h2 fun va s₁ ra g₁ F₁ => ?_)
  obtain ⟨t, rfl⟩ := ra.isStr
  rw [hs]
  refine ⟨"str", _, PySem.F.plainAttrs_str, PySem.F.slot_str_find, PySem.F.type_str_find, typeIs_str _ _ _, (fun u0 e => nomatch e), ?_⟩
  refine method_gives PySem.F.slot_str_find PySem.F.entry_str_find rfl (Calls.evalArgs_plain (Calls.spliced_cons (he.run rm F₁ h3 fun vb s₂ rb g₂ F₂ => Calls.spliced_cons (he'.run rm F₂ h4 fun vc s₃ rc g₃ F₃ => Calls.spliced_cons (he''.run rm F₃ h5 fun vd s₄ rd g₄ F₄ => Calls.spliced_nil ?_)))))
  obtain ⟨u, rfl⟩ := (RepH.of rb).isStr
  obtain ⟨v, rfl⟩ := (RepH.of rc).isInt
  obtain ⟨z, rfl⟩ := (RepH.of rd).isInt
  refine ⟨rfl, typeIs_str _ _ _, PySem.F.args_str_find_4 _ _ _ _, _, gives_find_4 _ _ _ _ _ _ _ _, ?_⟩
  rw [find_val x y i j hc.1 hc.2.1 hc.2.2]
  exact ⟨.int _ _, (((g₁.then g₂).then g₃).then g₄).then Late.tok⟩

noncomputable def mSplit : MV → MV → Option (List MV)
  | .str x, .str y => if 1 ≤ y.length ∧ y.all (· < 256) ∧ x.length + 2 ≤ lim then some ((splitL y x).map .str) else none
  | _, _ => none
set_option tactic.hygienic true in
theorem splitN_length (y : List Nat) : ∀ (n : Nat) (x : List Nat), (splitN y n x).length ≤ n + 1
  | 0, x => by rw [splitN]; simp
  | n + 1, x => by
    rw [splitN]
    split
    · simp
    · next k hk =>
      have h2 := splitN_length y n (List.drop (k + y.length) x)
      rw [List.length_cons]
      omega
noncomputable def split2 (f g : List Sl → Option MV) (ρ : List Sl) : Option (List MV) := (f ρ).bind fun a => (g ρ).bind fun b => mSplit a b
theorem strs_rep {h : Heap} {K : Addr → Prop} : ∀ (l : List (List Nat)) (tk : Nat), RepAll h K (strsFrom tk (l.map fun c => (⟨c.toArray⟩ : Str))) (l.map .str)
  | [], _ => .nil
  | c :: l, tk => .cons (.str _ _) (strs_rep l (tk + 1))
set_option tactic.hygienic true in
theorem EvN.split {o e : Expr} {ap pos : Pos} {f g : List Sl → Option MV} (ho : EvH C Φ ℓ o f) (he : EvS C Φ ℓ e g)
    (hb : ∀ env, attributeBase o "split" env (eval o env) = eval o env) (hs : ∀ env, starEach [e] env = [(false, eval e env)]) (hl : (ap.endLine == pos.line) = true) :
    EvN C Φ ℓ (.Call (.Attribute o "split" ap) [e] [] pos) (split2 f g) := .mk fun A rm env K₀ H ρ s c F hf => by
  unfold split2 at hf
  rw [Option.bind_eq_some_iff] at hf
  obtain ⟨x, h2, hf⟩ := hf
  rw [Option.bind_eq_some_iff] at hf
  obtain ⟨y, h3, hf⟩ := hf
  unfold mSplit at hf
  split at hf
  · rename_i x y
    split at hf
    · next hc =>
      cases hf
      obtain ⟨hy, hy2, hx⟩ := hc
      refine Call_method1 (hb env) (hs env) hl (ho.run rm F h2 fun va s₁ ra g₁ F₁ => ?_)
      obtain ⟨t, rfl⟩ := ra.isStr
      refine ⟨"str", _, PySem.F.plainAttrs_str, PySem.F.slot_str_split, PySem.F.type_str_split, typeIs_str _ _ _, (fun u0 e => nomatch e),
        method1_meets PySem.F.slot_str_split PySem.F.entry_str_split (he.run rm F₁ h3 fun vb s₂ rb g₂ F₂ => ?_)⟩
      obtain ⟨u, rfl⟩ := (RepH.of rb).isStr
      refine ⟨typeIs_str _ _ _, PySem.F.args_str_split_2 _ _, ?_⟩
      have hsx : Str.length ⟨x.toArray⟩ = x.length := by simp [Str.length]
      have hsy : Str.length ⟨y.toArray⟩ = y.length := by simp [Str.length]
      have hky : Str.strKind ⟨y.toArray⟩ = 1 := by
        unfold Str.strKind
        rw [if_pos]
        simpa using hy2
      have hkx : ¬ Str.strKind ⟨x.toArray⟩ < Str.strKind ⟨y.toArray⟩ := by
        rw [hky]; unfold Str.strKind; split <;> (try split) <;> omega
      have alone : findL y x = none → splitL y x = [x] := fun hn => by
        unfold splitL; rw [splitN]; rw [hn]
      have one : findL y x = none → RepAll s₂.heap (Kof K₀ Φ env H) [Value.str ⟨x.toArray⟩ t] ((splitL y x).map MV.str) := fun hn => by
        rw [alone hn]; exact .cons (.str _ _) .nil
      have fin : ∀ (vs : List Value) (tk : Nat), RepAll s₂.heap (Kof K₀ Φ env H) vs ((splitL y x).map MV.str) →
          (fun v (s' : Shared) => ∃ a vs, v = Value.ref a ∧ s.heap.objs.size ≤ a ∧ Ls s'.heap a (List.toArray vs) ∧ RepAll s'.heap (fun b => Kof K₀ Φ env H b ∨ b = a) vs ((splitL y x).map MV.str) ∧ Grow s s')
            (.ref s₂.heap.objs.size) { s₂ with heap := s₂.heap.push { cls := .type "list", data := .seq vs.toArray }, toks := tk } := fun vs tk hr =>
        ⟨_, vs, rfl, (g₁.then g₂).size, Ls.push _ _, hr.mono (fun b o u0 e => Heap.get?_push_of_some _ e) (fun b h => h.elim .inl fun e => .inr (Nat.le_of_eq e.symm)), (g₁.then g₂).then Late.push⟩
      cases h1 : (decide (Str.length ⟨x.toArray⟩ < Str.length ⟨y.toArray⟩) || decide (Str.strKind ⟨x.toArray⟩ < Str.strKind ⟨y.toArray⟩))
      · have hy0 : (Str.length ⟨y.toArray⟩ == 0) = false := by rw [hsy]; simpa using Nat.ne_of_gt hy
        cases hF : (occurrences ⟨x.toArray⟩ ⟨y.toArray⟩ 0 (Str.length ⟨x.toArray⟩) (Str.length ⟨x.toArray⟩ + 1)).isEmpty
        · have hlen : (partsBetween ⟨x.toArray⟩ (occurrences ⟨x.toArray⟩ ⟨y.toArray⟩ 0 (Str.length ⟨x.toArray⟩) (Str.length ⟨x.toArray⟩ + 1)) (Str.length ⟨y.toArray⟩)).length ≤ sizeLine := by
            rw [hsx, hsy, split_eq x y hy, List.length_map]
            have := splitN_length y (x.length + 1) x
            have e : sizeLine = 16777216 := sizeLine_eq
            have hx' : x.length + 2 ≤ 16777216 := hx
            have e2 : (splitL y x).length ≤ x.length + 1 + 1 := this
            omega
          refine ⟨_, meets_str_split_sep ⟨x.toArray⟩ ⟨y.toArray⟩ t u h1 hy0 hF (by rw [hsx, sizeLine_eq]; have hx' : x.length + 2 ≤ 16777216 := hx; omega) hlen, ?_⟩
          show wants _ _ _ { s₂ with toks := _, heap := s₂.heap.push { cls := .type "list", data := .seq (strsFrom s₂.toks (partsBetween ⟨x.toArray⟩ (occurrences ⟨x.toArray⟩ ⟨y.toArray⟩ 0 (Str.length ⟨x.toArray⟩) (Str.length ⟨x.toArray⟩ + 1)) (Str.length ⟨y.toArray⟩))).toArray } }
          refine fin _ _ ?_
          rw [hsx, hsy, split_eq x y hy]
          exact strs_rep _ _
        · have hn : findL y x = none := by
            have := occ_findL x y (x.length + 1) (by omega)
            cases hq : findL y x with
            | none => rfl
            | some k =>
              rw [hq] at this
              obtain ⟨r, this⟩ := this
              rw [hsx, this] at hF; cases hF
          exact ⟨_, meets_str_split_not_found ⟨x.toArray⟩ ⟨y.toArray⟩ t u h1 hy0 hF, fin _ _ (one hn)⟩
      · have hn : findL y x = none := by
          rw [Bool.or_eq_true, decide_eq_true_iff, decide_eq_true_iff] at h1
          have h2 : x.length < y.length := by
            rcases h1 with h1 | h1
            · rw [hsx, hsy] at h1; exact h1
            · exact absurd h1 hkx
          cases hq : findL y x with
          | none => rfl
          | some k =>
            obtain ⟨_, q, _⟩ := findL_some y x k hq
            have := q.length_le
            rw [List.length_drop] at this
            omega
        exact ⟨_, meets_str_split_cannot_occur ⟨x.toArray⟩ ⟨y.toArray⟩ t u h1, fin _ _ (one hn)⟩
    · cases hf
  · cases hf
end
end Mine
end

section
open PySem PyProof.Rows
set_option linter.unusedVariables false
namespace Mine

inductive Fl where
  | next
  | brk
  | cont
  | ret (v : MV)

noncomputable def FlRep (h : Heap) (K : Addr → Prop) : Flow → Fl → Prop
  | .next, .next => True
  | .brk, .brk => True
  | .cont, .cont => True
  | .ret v, .ret mv => Rep h K v mv
  | _, _ => False

inductive Out (C : Cfg) (Φ : Fs) (env : Env) (K₀ : Addr → Prop) (H : Nat → Option Addr) (s : Shared) (ρ' : List Sl) (s' : Shared) : Prop
  | mk (H' : Nat → Option Addr) : Fm C Φ env K₀ H' ρ' s' → Late (Wr Φ env H) No s s' → (∀ i a, H' i = some a → H i = some a ∨ s.heap.objs.size ≤ a) → Out C Φ env K₀ H s ρ' s'

section
variable {C : Cfg} {Φ : Fs} {env : Env} {K₀ : Addr → Prop} {H H₁ : Nat → Option Addr} {ρ ρ' : List Sl} {s s₁ s' : Shared}

theorem Wr.back {n : Nat} (hh : ∀ i a, H₁ i = some a → H i = some a ∨ n ≤ a) {b : Addr} (h : Wr Φ env H₁ b) : Wr Φ env H b ∨ n ≤ b := by
  rcases h with h | h | ⟨i, h⟩
  · exact .inl (.inl h)
  · exact .inl (.inr (.inl h))
  · exact (hh i b h).imp (fun q => .inr (.inr ⟨i, q⟩)) id
theorem Kof.back {n : Nat} (hh : ∀ i a, H₁ i = some a → H i = some a ∨ n ≤ a) {b : Addr} (h : Kof K₀ Φ env H₁ b) : Kof K₀ Φ env H b ∨ n ≤ b :=
  h.elim (fun q => .inl (.inl q)) fun q => (q.back hh).imp .inr id
theorem Out.refl (F : Fm C Φ env K₀ H ρ s) : Out C Φ env K₀ H s ρ s := ⟨H, F, Late.refl s, fun u0 u1 h => .inl h⟩
theorem Out.of_grow (F : Fm C Φ env K₀ H ρ s) (g : Grow s s') : Out C Φ env K₀ H s ρ s' := ⟨H, F.grow g, g.mono (fun u0 h => h.elim) fun u0 h => h.elim, fun u0 u1 h => .inl h⟩
theorem Out.bind (L : Late (Wr Φ env H) No s s₁) (hh : ∀ i a, H₁ i = some a → H i = some a ∨ s.heap.objs.size ≤ a) (o : Out C Φ env K₀ H₁ s₁ ρ' s') : Out C Φ env K₀ H s ρ' s' := by
  obtain ⟨H', F, L', h'⟩ := o
  refine ⟨H', F, L.trans L' (fun b hb => hb.back hh) fun u0 h => h.elim, fun i a e => ?_⟩
  rcases h' i a e with q | q
  · exact hh i a q
  · exact .inr (Nat.le_trans L.size q)
theorem Out.after (g : Grow s s₁) (o : Out C Φ env K₀ H s₁ ρ' s') : Out C Φ env K₀ H s ρ' s' :=
  Out.bind (H₁ := H) (g.mono (fun u0 h => h.elim) fun u0 h => h.elim) (fun u0 u1 h => .inl h) o
theorem Fm.repAll_late {v : List Value} {mv : List MV} (F : Fm C Φ env K₀ H ρ s) (L : Late (Wr Φ env H) No s s₁) (hh : ∀ i a, H₁ i = some a → H i = some a ∨ s.heap.objs.size ≤ a) (r : RepAll s.heap (Kof K₀ Φ env H) v mv) :
    RepAll s₁.heap (Kof K₀ Φ env H₁) v mv := r.mono (fun b o hb e => L.keep b o (fun h => hb (.inr h)) e) fun b h => h.back hh

theorem wp_set {A : Around} {i : Nat} {x : Str} {v : Value} {mv : MV} {Q : Unit → Shared → Prop} (F : Fm C Φ env K₀ H ρ s) (hx : Φ.names[i]? = some x) (hw : Φ.kind x = some .cell → Φ.wc = true)
    (r : Rep s.heap (Kof K₀ Φ env H) v mv) (hQ : ∀ s', Out C Φ env K₀ H s (ρ.set i (.v mv)) s' → Q () s') : wp C A (storeName env x v) Q s :=
  wp_store (sl := .v mv) F (Late.refl s) hx hw (ha := none) (hb := none) (nofun) (nofun) (nofun) ⟨v, rfl, r.mono (fun b o u0 e => e) (Kof.put (fun u0 e => by cases e) (fun u0 e => by cases e))⟩ fun s' F' L => hQ s' ⟨_, F', L, fun j a h => by
    rcases hput_some h with ⟨_, e⟩ | ⟨_, e⟩ | ⟨_, _, e⟩
    · cases e
    · cases e
    · exact .inl e⟩

theorem wp_setN {A : Around} {i : Nat} {x : Str} {a : Addr} {vs : List Value} {xs : List MV} {Q : Unit → Shared → Prop} (F : Fm C Φ env K₀ H ρ s) (g : Grow s s₁) (hx : Φ.names[i]? = some x) (hw : Φ.kind x = some .cell → Φ.wc = true)
    (ha : s.heap.objs.size ≤ a) (hl : Ls s₁.heap a vs.toArray) (r : RepAll s₁.heap (fun b => Kof K₀ Φ env H b ∨ b = a) vs xs) (hQ : ∀ s', Out C Φ env K₀ H s (ρ.set i (.m xs)) s' → Q () s') : wp C A (storeName env x (.ref a)) Q s₁ :=
  wp_store (sl := .m xs) F g hx hw (ha := some a) (hb := none) (fun b e => by cases e; exact .inr ⟨ha, hl.lt⟩) (nofun) (nofun)
    ⟨a, vs, rfl, hput_0 _ _ _ _, hl, r.mono (fun b o u0 e => e) (fun b h => by
      rcases h with h | h | h | ⟨j, h⟩
      · exact .inl (.inl (.inl h))
      · exact .inl (.inl (.inr (.inl h)))
      · exact .inl (.inl (.inr (.inr (.inl h))))
      · rcases hput_some h with ⟨_, e⟩ | ⟨_, e⟩ | ⟨_, _, e⟩
        · cases e; exact .inl (.inr rfl)
        · cases e
        · exact .inl (.inl (.inr (.inr (.inr ⟨j, e⟩)))))⟩ fun s' F' L => hQ s' ⟨_, F', L, fun j b h => by
      rcases hput_some h with ⟨_, e⟩ | ⟨_, e⟩ | ⟨_, _, e⟩
      · cases e; exact .inr ha
      · cases e
      · exact .inl e⟩

noncomputable def frz : Sl → Sl
  | .m xs => .v (.list xs)
  | .mm xs last => .v (.list (xs ++ [.list last]))
  | s => s
noncomputable def frzP : List Bool → List Sl → List Sl
  | b :: p, sl :: ρ => (if b then frz sl else sl) :: frzP p ρ
  | _, ρ => ρ
theorem frzP_length : ∀ (p : List Bool) (ρ : List Sl), (frzP p ρ).length = ρ.length
  | [], ρ => by cases ρ <;> rfl
  | b :: p, [] => rfl
  | b :: p, sl :: ρ => by simp [frzP, frzP_length p ρ]
theorem frzP_get : ∀ (p : List Bool) (ρ : List Sl) (i : Nat) (sl : Sl), (frzP p ρ)[i]? = some sl → ∃ sl₀, ρ[i]? = some sl₀ ∧ sl = (if p.getD i false then frz sl₀ else sl₀)
  | [], ρ, i, sl, h => ⟨sl, by cases ρ <;> exact h, by simp⟩
  | b :: p, [], i, sl, h => by simp [frzP] at h
  | b :: p, s :: ρ, 0, sl, h => by
    simp only [frzP, List.getElem?_cons_zero, Option.some.injEq] at h
    exact ⟨s, rfl, by simp [← h]⟩
  | b :: p, s :: ρ, i + 1, sl, h => by
    simp only [frzP, List.getElem?_cons_succ] at h
    obtain ⟨sl₀, h1, h2⟩ := frzP_get p ρ i sl h
    exact ⟨sl₀, by simpa using h1, by simpa using h2⟩
noncomputable def frzH (p : List Bool) (H : Nat → Option Addr) : Nat → Option Addr := fun j => if p.getD (j / 2) false then none else H j
theorem frzH_some {p : List Bool} {j : Nat} {a : Addr} (h : frzH p H j = some a) : H j = some a ∧ p.getD (j / 2) false = false := by
  unfold frzH at h
  split at h
  · cases h
  · next hp => exact ⟨h, by simpa using hp⟩
theorem Wr.unfrz {p : List Bool} {b : Addr} (h : Wr Φ env (frzH p H) b) : Wr Φ env H b := by
  rcases h with h | h | ⟨i, h⟩
  · exact .inl h
  · exact .inr (.inl h)
  · exact .inr (.inr ⟨i, (frzH_some h).1⟩)

theorem VarRep.frz {p : List Bool} {i : Nat} {ov : Option Value} {sl : Sl} (F : Fm C Φ env K₀ H ρ s) (hp : p.getD i false = true) (h : VarRep s.heap (Kof K₀ Φ env H) H i ov sl) :
    VarRep s.heap (Kof K₀ Φ env (frzH p H)) (frzH p H) i ov (Mine.frz sl) := by
  have hK : ∀ b, Kof K₀ Φ env (frzH p H) b → Kof K₀ Φ env H b ∨ s.heap.objs.size ≤ b := fun b h => .inl (h.imp id Wr.unfrz)
  have free : ∀ (j : Nat) (a : Addr), H j = some a → j / 2 = i → ¬ Kof K₀ Φ env (frzH p H) a := by
    intro j a hj hji hk
    obtain ⟨_, h2, h3, h4, _⟩ := F.hd j a hj
    rcases hk with hk | hk | ⟨_, x, hk⟩ | ⟨k, hk⟩
    · exact h4 hk
    · exact h2 hk
    · exact h3 x a hk rfl
    · obtain ⟨h5, h6⟩ := frzH_some hk
      have := F.hinj j k a hj h5
      subst this
      rw [hji, hp] at h6; cases h6
  cases sl with
  | un => trivial
  | v mv => obtain ⟨v, e, r⟩ := h; exact ⟨v, e, r.mono (fun b o u0 e => e) hK⟩
  | m xs =>
    obtain ⟨a, vs, e, hh, hl, ra⟩ := h
    exact ⟨_, e, .list hl (free _ a hh (by omega)) (ra.mono (fun b o u0 e => e) hK)⟩
  | mm xs last =>
    obtain ⟨a, vs, b, ws, e, hh, hl, ra, hb, hlb, rb⟩ := h
    exact ⟨_, e, .list hl (free _ a hh (by omega)) ((ra.mono (fun b o u0 e => e) hK).append (.cons (.list hlb (free _ b hb (by omega)) (rb.mono (fun b o u0 e => e) hK)) .nil))⟩
theorem VarRep.unfrz {p : List Bool} {i : Nat} {ov : Option Value} {sl : Sl} (F : Fm C Φ env K₀ H ρ s) (hp : p.getD i false = false) (h : VarRep s.heap (Kof K₀ Φ env H) H i ov sl) :
    VarRep s.heap (Kof K₀ Φ env (frzH p H)) (frzH p H) i ov sl :=
  h.mono (fun b o u0 e => e) (fun b h => .inl (h.imp id Wr.unfrz))
    (fun a h => ⟨by unfold frzH; rw [show 2 * i / 2 = i by omega, hp]; exact h, fun u0 e => e⟩) (fun a h => ⟨by unfold frzH; rw [show (2 * i + 1) / 2 = i by omega, hp]; exact h, fun u0 e => e⟩)

theorem Fm.frzP (p : List Bool) (F : Fm C Φ env K₀ H ρ s) : Fm C Φ env K₀ (frzH p H) (Mine.frzP p ρ) s := by
  have key : ∀ (i : Nat) (sl : Sl), (Mine.frzP p ρ)[i]? = some sl → ∃ sl₀, ρ[i]? = some sl₀ ∧ ∀ ov, VarRep s.heap (Kof K₀ Φ env H) H i ov sl₀ → VarRep s.heap (Kof K₀ Φ env (frzH p H)) (frzH p H) i ov sl := by
    intro i sl h
    obtain ⟨sl₀, h1, h2⟩ := frzP_get p ρ i sl h
    refine ⟨sl₀, h1, fun ov hv => ?_⟩
    cases hp : p.getD i false with
    | true => rw [hp, if_pos rfl] at h2; subst h2; exact hv.frz F hp
    | false => rw [hp] at h2; simp only [Bool.false_eq_true, if_false] at h2; subst h2; exact hv.unfrz F hp
  refine { F with loc := ?_, cel := ?_, hd := ?_, hinj := ?_, len := (frzP_length p ρ).trans F.len }
  · obtain ⟨m, hn, hm⟩ := F.loc
    refine ⟨m, hn, fun i x sl h1 h2 h3 => ?_⟩
    obtain ⟨sl₀, h4, h5⟩ := key i sl h3
    exact h5 _ (hm i x sl₀ h1 h2 h4)
  · intro i x sl h1 h2 h3
    obtain ⟨sl₀, h4, h5⟩ := key i sl h3
    obtain ⟨c, ov, hc, hi, hv⟩ := F.cel i x sl₀ h1 h2 h4
    exact ⟨c, ov, hc, hi, h5 _ hv⟩
  · intro i a h; exact F.hd i a (frzH_some h).1
  · intro i j a h h'; exact F.hinj i j a (frzH_some h).1 (frzH_some h').1
theorem Out.unfrz {p : List Bool} (o : Out C Φ env K₀ (frzH p H) s ρ' s') : Out C Φ env K₀ H s ρ' s' := by
  obtain ⟨H', F, L, h⟩ := o
  exact ⟨H', F, L.mono (fun b h => .inl h.unfrz) (fun u0 h => .inl h), fun i a e => (h i a e).imp (fun q => (frzH_some q).1) id⟩
end

structure ExS (C : Cfg) (Φ : Fs) (ℓ : Nat) (st : Stmt) (g : List Sl → Option (Fl × List Sl)) : Prop where
  mk ::
  go : ∀ A, Rm A ℓ → ∀ env K₀ H ρ s fl ρ', Fm C Φ env K₀ H ρ s → g ρ = some (fl, ρ') → wp C A (exec st env) (fun fl' s' => FlRep s'.heap K₀ fl' fl ∧ Out C Φ env K₀ H s ρ' s') s
structure ExsS (C : Cfg) (Φ : Fs) (ℓ : Nat) (sts : List Stmt) (g : List Sl → Option (Fl × List Sl)) : Prop where
  mk ::
  go : ∀ A, Rm A ℓ → ∀ env K₀ H ρ s fl ρ', Fm C Φ env K₀ H ρ s → g ρ = some (fl, ρ') → wp C A (execs sts env) (fun fl' s' => FlRep s'.heap K₀ fl' fl ∧ Out C Φ env K₀ H s ρ' s') s

section
variable {C : Cfg} {Φ : Fs} {ℓ : Nat}

noncomputable def doneF (ρ : List Sl) : Option (Fl × List Sl) := some (.next, ρ)
noncomputable def seqF (g h : List Sl → Option (Fl × List Sl)) (ρ : List Sl) : Option (Fl × List Sl) := match g ρ with
  | some (.next, ρ') => h ρ'
  | r => r
theorem ExsS.nil : ExsS C Φ ℓ [] doneF := .mk fun A rm env K₀ H ρ s fl ρ' F hf => by
  cases hf
  exact wpAny_execs_nil ⟨trivial, Out.refl F⟩
set_option tactic.hygienic true in
theorem ExsS.cons {st : Stmt} {sts : List Stmt} {g h : List Sl → Option (Fl × List Sl)} (hg : ExS C Φ ℓ st g) (hh : ExsS C Φ ℓ sts h) : ExsS C Φ ℓ (st :: sts) (seqF g h) := .mk fun A rm env K₀ H ρ s fl ρ' F hf => by
  unfold seqF at hf
  split at hf
  · next ρ₁ h1 =>
    refine wpAny_execs_cons (wp_mono (hg.go A rm env K₀ H ρ s .next ρ₁ F h1) fun fl' s₁ q => ?_)
    obtain ⟨q1, H₁, F₁, L₁, hh₁⟩ := q
    cases fl' with
    | next => exact wp_mono (hh.go A rm env K₀ H₁ ρ₁ s₁ fl ρ' F₁ hf) fun fl'' s₂ q => ⟨q.1, Out.bind L₁ hh₁ q.2⟩
    | brk => exact q1.elim
    | cont => exact q1.elim
    | ret v => exact q1.elim
  · next hne =>
    refine wpAny_execs_cons (wp_mono (hg.go A rm env K₀ H ρ s fl ρ' F hf) fun fl' s₁ q => ?_)
    cases fl with
    | next => exact absurd hf (hne ρ')
    | brk => cases fl' <;> first | exact q | exact q.1.elim
    | cont => cases fl' <;> first | exact q | exact q.1.elim
    | ret v => cases fl' <;> first | exact q | exact q.1.elim

theorem ExsS.one {st : Stmt} {g : List Sl → Option (Fl × List Sl)} (hg : ExS C Φ ℓ st g) : ExsS C Φ ℓ [st] g := .mk fun A rm env K₀ H ρ s fl ρ' F hf => by
  refine wpAny_execs_cons (wp_mono (hg.go A rm env K₀ H ρ s fl ρ' F hf) fun fl' s₁ q => ?_)
  cases fl' with
  | next => exact wpAny_execs_nil q
  | brk => exact q
  | cont => exact q
  | ret v => exact q

noncomputable def retF (p : List Bool) (f : List Sl → Option MV) (ρ : List Sl) : Option (Fl × List Sl) := (f (frzP p ρ)).map fun v => (.ret v, frzP p ρ)
theorem ExS.ret {e : Expr} {pos : Pos} {f : List Sl → Option MV} (p : List Bool) (he : EvS C Φ ℓ e f) : ExS C Φ ℓ (.Return (some e) pos) (retF p f) := .mk fun A rm env K₀ H ρ s fl ρ' F hf => by
  unfold retF at hf
  rw [Option.map_eq_some_iff] at hf
  obtain ⟨v, h1, h2⟩ := hf
  cases h2
  exact wpAny_Return_some (he.run rm (F.frzP p) h1 fun v s₁ r g F₁ => ⟨r.mono (fun b o u0 e => e) (fun b h => .inl (.inl h)), Out.unfrz (Out.of_grow (F.frzP p) g)⟩)

theorem ExS.ite {t : Expr} {b1 b2 : List Stmt} {pos : Pos} {u : List Sl → Option Bool} {g h : List Sl → Option (Fl × List Sl)} (ht : TrS C Φ ℓ t u) (hg : ExsS C Φ ℓ b1 g) (hh : ExsS C Φ ℓ b2 h) :
    ExS C Φ ℓ (.If t b1 b2 pos) (iteF u g h) := .mk fun A rm env K₀ H ρ s fl ρ' F hf => by
  unfold iteF at hf
  rw [Option.bind_eq_some_iff] at hf
  obtain ⟨b, hb, hf⟩ := hf
  refine wpAny_If (ht.run rm F hb fun s₁ g₁ F₁ => ?_)
  cases b with
  | true => exact wp_mono (hg.go A rm env K₀ H ρ s₁ fl ρ' F₁ hf) fun fl' s₂ q => ⟨q.1, Out.after g₁ q.2⟩
  | false => exact wp_mono (hh.go A rm env K₀ H ρ s₁ fl ρ' F₁ hf) fun fl' s₂ q => ⟨q.1, Out.after g₁ q.2⟩

noncomputable def assertF (u : List Sl → Option Bool) (ρ : List Sl) : Option (Fl × List Sl) := match u ρ with
  | some true => some (.next, ρ)
  | _ => none
theorem ExS.assert {t : Expr} {m : Option Expr} {pos : Pos} {u : List Sl → Option Bool} (ht : TrS C Φ ℓ t u) : ExS C Φ ℓ (.Assert t m pos) (assertF u) := .mk fun A rm env K₀ H ρ s fl ρ' F hf => by
  unfold assertF at hf
  split at hf
  · next h =>
    cases hf
    exact wpAny_Assert_holds (ht.run rm F h fun s₁ g₁ F₁ => ⟨rfl, trivial, Out.of_grow F g₁⟩)
  · cases hf

noncomputable def whileL (u : List Sl → Option Bool) (g : List Sl → Option (Fl × List Sl)) : Nat → List Sl → Option (Fl × List Sl)
  | 0, _ => none
  | n + 1, ρ => match u ρ with
    | none => none
    | some false => some (.next, ρ)
    | some true => match g ρ with
      | none => none
      | some (.next, ρ') => whileL u g n ρ'
      | some (.cont, ρ') => whileL u g n ρ'
      | some (.brk, ρ') => some (.next, ρ')
      | some (.ret v, ρ') => some (.ret v, ρ')
set_option tactic.hygienic true in
theorem ExS.while {t : Expr} {body : List Stmt} {pos : Pos} {u : List Sl → Option Bool} {g : List Sl → Option (Fl × List Sl)} (n : Nat) (ht : TrS C Φ ℓ t u) (hg : ExsS C Φ ℓ body g) :
    ExS C Φ ℓ (.While t body [] pos) (whileL u g n) := .mk fun A rm env K₀ H ρ s fl ρ' F hf => by
  refine wpAny_While (codeAny_whileLoop (I := fun n s₁ => ∃ ρ₁, Out C Φ env K₀ H s ρ₁ s₁ ∧ whileL u g n ρ₁ = some (fl, ρ')) ?_ n ⟨ρ, ⟨H, F, Late.refl s, fun u0 u1 h => .inl h⟩, hf⟩)
  intro n s₁ hI
  obtain ⟨ρ₁, ⟨H₁, F₁, L₁, hh₁⟩, hf⟩ := hI
  cases n with
  | zero => cases hf
  | succ n =>
    rw [whileL] at hf
    split at hf
    · cases hf
    · next hu =>
      cases hf
      exact wp_any (ht.run rm F₁ hu fun s₂ g₂ F₂ => wpAny_execs_nil ⟨trivial, Out.bind L₁ hh₁ (Out.of_grow F₁ g₂)⟩)
    · next hu =>
      refine wp_any (ht.run rm F₁ hu fun s₂ g₂ F₂ => ?_)
      have fin : ∀ {fl₂ ρ₂}, g ρ₁ = some (fl₂, ρ₂) → wp C A (execs body env) (fun fl' s' => FlRep s'.heap K₀ fl' fl₂ ∧ Out C Φ env K₀ H s ρ₂ s') s₂ := by
        intro fl₂ ρ₂ h2
        exact wp_mono (hg.go A rm env K₀ H₁ ρ₁ s₂ fl₂ ρ₂ F₂ h2) fun fl' s' q => ⟨q.1, Out.bind L₁ hh₁ (Out.after g₂ q.2)⟩
      split at hf
      · cases hf
      · next ρ₂ h2 =>
        refine wp_any (wp_mono (fin h2) fun fl' s' q => ?_)
        obtain ⟨q1, q⟩ := q
        cases fl' with
        | next => exact ⟨n, Nat.lt_succ_self n, ρ₂, q, hf⟩
        | brk => exact q1.elim
        | cont => exact q1.elim
        | ret v => exact q1.elim
      · next ρ₂ h2 =>
        refine wp_any (wp_mono (fin h2) fun fl' s' q => ?_)
        obtain ⟨q1, q⟩ := q
        cases fl' with
        | cont => exact ⟨n, Nat.lt_succ_self n, ρ₂, q, hf⟩
        | brk => exact q1.elim
        | next => exact q1.elim
        | ret v => exact q1.elim
      · next ρ₂ h2 =>
        cases hf
        refine wp_any (wp_mono (fin h2) fun fl' s' q => ?_)
        obtain ⟨q1, q⟩ := q
        cases fl' with
        | brk => exact ⟨trivial, q⟩
        | cont => exact q1.elim
        | next => exact q1.elim
        | ret v => exact q1.elim
      · next v ρ₂ h2 =>
        cases hf
        refine wp_any (wp_mono (fin h2) fun fl' s' q => ?_)
        obtain ⟨q1, q⟩ := q
        cases fl' with
        | ret v => exact ⟨q1, q⟩
        | cont => exact q1.elim
        | next => exact q1.elim
        | brk => exact q1.elim

theorem ExS.frz {st : Stmt} {g : List Sl → Option (Fl × List Sl)} (p : List Bool) (h : ExS C Φ ℓ st g) : ExS C Φ ℓ st (fun ρ => g (frzP p ρ)) := .mk fun A rm env K₀ H ρ s fl ρ' F hf =>
  wp_mono (h.go A rm env K₀ _ _ s fl ρ' (F.frzP p) hf) fun fl' s' q => ⟨q.1, Out.unfrz q.2⟩

noncomputable def noswap (value t : Expr) (Φ : Fs) (line : Nat) : Prop := ∀ env, EnvOk Φ env → swapsWith value (some t) line env = pure false
noncomputable def setF (i : Nat) (f : List Sl → Option MV) (ρ : List Sl) : Option (Fl × List Sl) := (f ρ).map fun v => (.next, ρ.set i (.v v))
theorem ExS.assign {x : Str} {p1 pos : Pos} {e : Expr} {f : List Sl → Option MV} {i : Nat} (he : EvS C Φ ℓ e f) (hx : Φ.names[i]? = some x) (hw : Φ.kind x = some .cell → Φ.wc = true) (hs : noswap e (.Name x p1) Φ pos.line) :
    ExS C Φ ℓ (.Assign [.Name x p1] e pos) (setF i f) := .mk fun A rm env K₀ H ρ s fl ρ' F hf => by
  unfold setF at hf
  rw [Option.map_eq_some_iff] at hf
  obtain ⟨v, h1, h2⟩ := hf
  cases h2
  exact wpAny_Assign_Name (he.run rm F h1 fun v s₁ r g F₁ => wp_set F₁ hx hw r fun s' o => ⟨trivial, Out.after g o⟩) (hs env F.envOk)
noncomputable def setNF (i : Nat) (f : List Sl → Option (List MV)) (ρ : List Sl) : Option (Fl × List Sl) := (f ρ).map fun v => (.next, ρ.set i (.m v))
theorem ExS.assignN {x : Str} {p1 pos : Pos} {e : Expr} {f : List Sl → Option (List MV)} {i : Nat} (he : EvN C Φ ℓ e f) (hx : Φ.names[i]? = some x) (hw : Φ.kind x = some .cell → Φ.wc = true) (hs : noswap e (.Name x p1) Φ pos.line) :
    ExS C Φ ℓ (.Assign [.Name x p1] e pos) (setNF i f) := .mk fun A rm env K₀ H ρ s fl ρ' F hf => by
  unfold setNF at hf
  rw [Option.map_eq_some_iff] at hf
  obtain ⟨v, h1, h2⟩ := hf
  cases h2
  refine wpAny_Assign_Name (wp_mono (he.go A rm env K₀ H ρ s v F h1) fun v s₁ q => ?_) (hs env F.envOk)
  obtain ⟨a, vs, rfl, ha, hl, ra, g⟩ := q
  exact wp_setN F g hx hw ha hl ra fun s' o => ⟨trivial, o⟩

inductive NamesAt (Φ : Fs) : List Expr → List Nat → Prop
  | nil : NamesAt Φ [] []
  | cons {x : Str} {p : Pos} {i : Nat} {es : List Expr} {is : List Nat} : Φ.names[i]? = some x → (Φ.kind x = some .cell → Φ.wc = true) → NamesAt Φ es is → NamesAt Φ (.Name x p :: es) (i :: is)
noncomputable def setAll : List Nat → List MV → List Sl → Option (List Sl)
  | [], [], ρ => some ρ
  | i :: is, x :: xs, ρ => setAll is xs (ρ.set i (.v x))
  | _, _, _ => none

theorem wp_inOrder {A : Around} {es : List Expr} {is : List Nat} {env : Env} {K₀ : Addr → Prop} (hn : NamesAt Φ es is) : ∀ {H : Nat → Option Addr} {ρ ρ' : List Sl} {s : Shared} {vs : List Value} {xs : List MV}, Fm C Φ env K₀ H ρ s →
    RepAll s.heap (Kof K₀ Φ env H) vs xs → setAll is xs ρ = some ρ' → wp C A (assignInOrder ((assignEach es env).map (·.2)) vs) (fun u0 s' => Out C Φ env K₀ H s ρ' s') s := by
  induction hn with
  | nil =>
    intro H ρ ρ' s vs xs F _ h
    cases xs with
    | nil => cases h; exact assignInOrder_nil (Out.refl F)
    | cons _ _ => cases h
  | cons h1 h2 h3 ih =>
    intro H ρ ρ' s vs xs F ra h
    cases ra with
    | nil => cases h
    | cons r ra =>
      refine assignInOrder_cons (wpAny_assign_Name (wp_set F h1 h2 r fun s₁ o => ?_))
      obtain ⟨H₁, F₁, L₁, hh₁⟩ := o
      exact wp_mono (ih F₁ (F.repAll_late L₁ hh₁ ra) h) fun u0 s' q => Out.bind L₁ hh₁ q

noncomputable def RepU (h : Heap) (K : Addr → Prop) (v : Value) (mv : MV) : Prop :=
  RepH h K v mv ∨ ∃ a vs xs, v = .ref a ∧ mv = .tuple xs ∧ h.IsTuple a (List.toArray vs) ∧ RepAll h K vs xs
noncomputable def partsOf : MV → Option (List MV)
  | .list xs => some xs
  | .tuple xs => some xs
  | _ => none
theorem RepU.parts {h : Heap} {K : Addr → Prop} {v : Value} {mv : MV} {xs : List MV} (r : RepU h K v mv) (hp : partsOf mv = some xs) : ∃ a vs, v = .ref a ∧ (Ls h a (List.toArray vs) ∨ h.IsTuple a (List.toArray vs)) ∧ RepAll h K vs xs := by
  rcases r with r | ⟨a, vs, ys, rfl, rfl, ht, ra⟩
  · cases mv <;> cases hp
    · obtain ⟨a, vs, rfl, hl, ra⟩ := r.isList; exact ⟨a, vs, rfl, .inl hl, ra⟩
    · obtain ⟨a, vs, rfl, hl, _, ra⟩ := r.isTuple; exact ⟨a, vs, rfl, .inr hl, ra⟩
  · cases hp; exact ⟨a, vs, rfl, .inr ht, ra⟩

theorem wp_unpackItems {A : Around} {k : Nat} {K : Addr → Prop} {s : Shared} {v : Value} {mv : MV} {xs : List MV} {n : Nat} {Q : List Value → Shared → Prop} (rm : Rm A k) (r : RepU s.heap K v mv) (hp : partsOf mv = some xs) (hn : n = xs.length)
    (hQ : ∀ vs s', RepAll s'.heap K vs xs → Grow s s' → Q vs s') : wp C A (unpackItems v n none) Q s := by
  obtain ⟨a, vs, rfl, hor, ra⟩ := r.parts hp
  have hsz : n = vs.toArray.size := by rw [hn, ← ra.length, List.size_toArray]
  subst hsz
  have go : ∀ s' : Shared, Grow s s' → Q vs.toArray.toList s' := fun s' g => hQ _ s' (g.repAll ra) g
  have g0 : ∀ h', Heap.ExtBut s.heap.objs.size s.heap h' → s.heap.objs.size ≤ h'.objs.size → Grow s { s with heap := h' } := fun h' he hs =>
    .heap (h' := h') (tk := s.toks) (fun b o u0 e => he b o (fun q => Nat.lt_irrefl _ (q ▸ Heap.lt_size e)) e) hs
  rcases hor with hl | ht
  · exact wp_sized (PySem.W.kun_itemsOf rm.hh hl.isList fun h' he hs => go _ (g0 h' he hs))
  · exact wp_sized (wpAny_unpackItems_tuple rm.hh ht fun h' he hs => go _ (g0 h' he hs))

theorem wp_assignTuple {A : Around} {k : Nat} {es : List Expr} {is : List Nat} {n : Nat} {p : Pos} {env : Env} {K₀ : Addr → Prop} {H : Nat → Option Addr} {ρ ρ' : List Sl} {s : Shared} {v : Value} {mv : MV} {xs : List MV} (rm : Rm A k)
    (hn : NamesAt Φ es is) (F : Fm C Φ env K₀ H ρ s) (r : RepU s.heap (Kof K₀ Φ env H) v mv) (hp : partsOf mv = some xs) (h : setAll is xs ρ = some ρ') :
    wp C A (assign (.Tuple es n p) env v) (fun u0 s' => Out C Φ env K₀ H s ρ' s') s := by
  have len : ∀ {es : List Expr} {is : List Nat}, NamesAt Φ es is → es.length = is.length ∧ (assignEach es env).length = es.length ∧ (assignEach es env).findIdx? (·.1) = none := by
    intro es is hn
    induction hn with
    | nil => exact ⟨rfl, rfl, rfl⟩
    | cons h1 h2 h3 ih =>
      obtain ⟨h1, h2, h3⟩ := ih
      refine ⟨by simp [h1], by show (_ :: assignEach _ env).length = _; simp [h2], ?_⟩
      show List.findIdx? _ ((false, _) :: assignEach _ env) = none
      rw [List.findIdx?_cons]; simp [h3]
  have len2 : ∀ {is : List Nat} {xs : List MV} {ρ ρ' : List Sl}, setAll is xs ρ = some ρ' → is.length = xs.length := by
    intro is
    induction is with
    | nil => intro xs ρ ρ' h; cases xs <;> first | rfl | cases h
    | cons i is ih => intro xs ρ ρ' h; cases xs with
      | nil => cases h
      | cons x xs => rw [List.length_cons, List.length_cons, ih (ρ := ρ.set i (.v x)) h]
  obtain ⟨h1, h2, h3⟩ := len hn
  rw [arm_assign_Tuple]
  refine wpAny_bind (wpAny_standAt ?_)
  unfold unpack
  rw [h3]
  refine wpAny_bind (wpAny_holding (wp_unpackItems rm r hp (h2.trans (h1.trans (len2 h))) fun vs s₁ ra g => ?_))
  exact wp_mono (wp_inOrder hn (F.grow g) ra h) fun u0 s' o => Out.after g o

noncomputable def setTF (is : List Nat) (f : List Sl → Option MV) (ρ : List Sl) : Option (Fl × List Sl) := (f ρ).bind fun v => (partsOf v).bind fun xs => (setAll is xs ρ).map fun ρ' => (.next, ρ')
theorem setTF_some {is : List Nat} {f : List Sl → Option MV} {ρ ρ' : List Sl} {fl : Fl} (h : setTF is f ρ = some (fl, ρ')) : ∃ v xs, f ρ = some v ∧ partsOf v = some xs ∧ setAll is xs ρ = some ρ' ∧ fl = .next := by
  unfold setTF at h
  rw [Option.bind_eq_some_iff] at h
  obtain ⟨v, h1, h⟩ := h
  rw [Option.bind_eq_some_iff] at h
  obtain ⟨xs, h2, h⟩ := h
  rw [Option.map_eq_some_iff] at h
  obtain ⟨ρ₁, h3, h4⟩ := h
  cases h4
  exact ⟨v, xs, h1, h2, h3, rfl⟩
theorem ExS.assignT {es : List Expr} {is : List Nat} {n : Nat} {p1 pos : Pos} {e : Expr} {f : List Sl → Option MV} (he : EvH C Φ ℓ e f) (hn : NamesAt Φ es is)
    (hs : ∀ env, EnvOk Φ env → swappedStores [.Tuple es n p1] e env = pure none) (hs0 : ∀ env, swapsWithSole [.Tuple es n p1] e pos.line env = pure false) :
    ExS C Φ ℓ (.Assign [.Tuple es n p1] e pos) (setTF is f) := .mk fun A rm env K₀ H ρ s fl ρ' F hf => by
  obtain ⟨v, xs, h1, h2, h3, rfl⟩ := setTF_some hf
  refine wpAny_Assign_stores (he.run rm F h1 fun v s₁ r g F₁ => ?_) (hs0 env) (hs env F.envOk)
  show wp C A (PySem.assign (.Tuple es n p1) env v) _ s₁
  exact wp_mono (wp_assignTuple rm hn F₁ (.inl r) h2 h3) fun u0 s' o => ⟨trivial, Out.after g o⟩
inductive NamesRev (Φ : Fs) : List Str → List Nat → Prop
  | nil : NamesRev Φ [] []
  | cons {x : Str} {i : Nat} {es : List Str} {is : List Nat} : Φ.names[i]? = some x → (Φ.kind x = some .cell → Φ.wc = true) → NamesRev Φ es is → NamesRev Φ (x :: es) (i :: is)
theorem wp_inNames {A : Around} {ns : List Str} {is : List Nat} {env : Env} {K₀ : Addr → Prop} (hn : NamesRev Φ ns is) : ∀ {H : Nat → Option Addr} {ρ ρ' : List Sl} {s : Shared} {vs : List Value} {xs : List MV}, Fm C Φ env K₀ H ρ s →
    RepAll s.heap (Kof K₀ Φ env H) vs xs → setAll is xs ρ = some ρ' → wp C A (assignInOrder (ns.map fun n => bindName env n) vs) (fun u0 s' => Out C Φ env K₀ H s ρ' s') s := by
  induction hn with
  | nil =>
    intro H ρ ρ' s vs xs F _ h
    cases xs with
    | nil => cases h; exact assignInOrder_nil (Out.refl F)
    | cons _ _ => cases h
  | cons h1 h2 h3 ih =>
    intro H ρ ρ' s vs xs F ra h
    cases ra with
    | nil => cases h
    | cons r ra =>
      refine assignInOrder_cons (wpAny_bindName (wp_set F h1 h2 r fun s₁ o => ?_))
      obtain ⟨H₁, F₁, L₁, hh₁⟩ := o
      exact wp_mono (ih F₁ (F.repAll_late L₁ hh₁ ra) h) fun u0 s' q => Out.bind L₁ hh₁ q
noncomputable def setRF (is : List Nat) (f : List Sl → Option MV) (ρ : List Sl) : Option (Fl × List Sl) := (f ρ).bind fun v => (partsOf v).bind fun xs => if is.length = xs.length then (setAll is.reverse xs.reverse ρ).map fun ρ' => (.next, ρ') else none
theorem ExS.assignR {es : List Expr} {ns : List Str} {is : List Nat} {n : Nat} {p1 pos : Pos} {e : Expr} {f : List Sl → Option MV} (he : EvH C Φ ℓ e f) (hn : NamesRev Φ ns.reverse is.reverse) (hl : ns.length = is.length)
    (hs : ∀ env, EnvOk Φ env → swappedStores [.Tuple es n p1] e env = pure (some ns)) (hs0 : ∀ env, swapsWithSole [.Tuple es n p1] e pos.line env = pure false) :
    ExS C Φ ℓ (.Assign [.Tuple es n p1] e pos) (setRF is f) := .mk fun A rm env K₀ H ρ s fl ρ' F hf => by
  unfold setRF at hf
  rw [Option.bind_eq_some_iff] at hf
  obtain ⟨v, h1, hf⟩ := hf
  rw [Option.bind_eq_some_iff] at hf
  obtain ⟨xs, h2, hf⟩ := hf
  split at hf
  · next hlen =>
    rw [Option.map_eq_some_iff] at hf
    obtain ⟨ρ₁, h3, h4⟩ := hf
    cases h4
    refine Assign_Tuple_swapped (names := ns) (he.run rm F h1 fun v s₁ r g F₁ => ?_) (hs0 env) (hs env F.envOk)
    refine wp_unpackItems rm (.inl r) h2 (hl.trans hlen) fun vs s₂ ra g₂ => ?_
    exact wp_mono (wp_inNames hn (F₁.grow g₂) ra.reverse h3) fun u0 s' o => ⟨trivial, Out.after g (Out.after g₂ o)⟩
  · cases hf
end
end Mine
end

section
open PySem PyProof.Rows
set_option linter.unusedVariables false
namespace Mine

section
variable {C : Cfg} {Φ : Fs} {env : Env} {K₀ : Addr → Prop} {H : Nat → Option Addr} {ρ : List Sl} {s s' : Shared}

theorem Ns.fun {h : Heap} {a : Addr} {m m' : Str → Option Value} (x : h.Ns a m) (y : h.Ns a m') : m = m' := by
  obtain ⟨o, es, ep, e1, e2, _, e3⟩ := x
  obtain ⟨o', es', ep', e1', e2', _, e3'⟩ := y
  rw [e1] at e1'; cases e1'
  rw [e2] at e2'; cases e2'
  funext z; rw [← e3, ← e3']

inductive MutOut (C : Cfg) (Φ : Fs) (env : Env) (K₀ : Addr → Prop) (H : Nat → Option Addr) (i : Nat) (ρ' : List Sl) (s s' : Shared) : Prop
  | mk (H' : Nat → Option Addr) : (∀ j, j ≠ i → H' (2 * j) = H (2 * j)) → Fm C Φ env K₀ H' ρ' s' → Late (Wr Φ env H) No s s' → (∀ i a, H' i = some a → H i = some a) → MutOut C Φ env K₀ H i ρ' s s'
theorem Fm.mut {i : Nat} {x : Str} {xs xs' : List MV} {a : Addr} {vs' : List Value} (F : Fm C Φ env K₀ H ρ s) (hx : Φ.names[i]? = some x) (hs : ρ[i]? = some (.m xs)) (ha : H (2 * i) = some a)
    (g : Late (fun b => b = a) No s s') (hl : Ls s'.heap a vs'.toArray) (r : RepAll s'.heap (Kof K₀ Φ env H) vs' xs') :
    MutOut C Φ env K₀ H i (ρ.set i (.m xs')) s s' := by
  have hd := F.hd _ a ha
  refine ⟨hput H i (some a) none, fun j hj => (hput_ne H _ _ hj).1, F.turn (W := fun b => b = a) (v := some (.ref a)) hx g (fun j b hj h e => ?_) (fun b e => ?_) (fun y c hy hc e => ?_) (fun b e => e ▸ hd.2.2.2.2)
    (fun hk m hm => ?_) (fun u0 e => hd.2.1 e.symm) (fun hk c hc => ?_) (fun u0 c hc e => hd.2.2.1 x c hc e.symm) (fun b e => .inl (by cases e; exact ha)) (fun u0 e => by cases e) (fun u0 u1 e => by cases e) ?_, g.mono (fun b e => .inl (.inr (.inr ⟨_, e ▸ ha⟩))) (fun u0 h => h.elim), fun j b h => ?_⟩
  · subst e
    rcases h with h | h
    · have := F.hinj _ _ _ h ha; omega
    · have := F.hinj _ _ _ h ha; omega
  · subst e; exact ⟨.inr (.inr (.inr ⟨_, ha⟩)), hd.2.2.2.1⟩
  · subst e; exact hd.2.2.1 y _ hc rfl
  · obtain ⟨m₀, hn, hm₀⟩ := F.loc
    have hv := hm₀ i x _ hx hk hs
    obtain ⟨a', vs, e, e2, _⟩ := hv
    rw [ha] at e2; cases e2
    have := Ns.fun hm hn
    subst this
    refine ⟨m, hm.at' fun o e => g.keep _ o (fun q => hd.2.1 q.symm) e, e, fun u0 u1 => rfl⟩
  · obtain ⟨c', ov, hc', ⟨o, ho, hdt⟩, hv⟩ := F.cel i x _ hx hk hs
    rw [hc] at hc'; cases hc'
    obtain ⟨a', vs, e, e2, _⟩ := hv
    rw [ha] at e2; cases e2
    subst e
    exact ⟨o, g.keep c o (fun q => hd.2.2.1 x c hc q.symm) ho, hdt⟩
  · refine ⟨a, vs', rfl, hput_0 _ _ _ _, hl, r.mono (fun b o u0 e => e) fun b h => .inl ?_⟩
    rcases h with h | h | h | ⟨j, h⟩
    · exact .inl h
    · exact .inr (.inl h)
    · exact .inr (.inr (.inl h))
    · rcases hput_some h with ⟨_, e⟩ | ⟨_, e⟩ | ⟨_, _, e⟩
      · cases e; exact .inr (.inr (.inr ⟨_, ha⟩))
      · cases e
      · exact .inr (.inr (.inr ⟨j, e⟩))
  · rcases hput_some h with ⟨q, e⟩ | ⟨q, e⟩ | ⟨_, _, e⟩
    · cases e; subst q; exact ha
    · cases e
    · exact e

theorem wp_Mut {A : Around} {i : Nat} {x : Str} {pos : Pos} {xs : List MV} {Q : Value → Shared → Prop} (F : Fm C Φ env K₀ H ρ s) (hx : Φ.names[i]? = some x) (hs : ρ[i]? = some (.m xs))
    (h : ∀ a vs, H (2 * i) = some a → Ls s.heap a (List.toArray vs) → RepAll s.heap (Kof K₀ Φ env H) vs xs → Q (.ref a) s) : wp C A (eval (.Name x pos) env) Q s :=
  wp_Name F hx hs (by nofun) fun v hv => by obtain ⟨a, vs, e, e2, e3, e4⟩ := hv; cases e; exact h a vs e2 e3 e4
end

theorem late_update {s : Shared} {a : Addr} {f : Obj → Obj} {tk : Nat} : Late (fun b => b = a) No s { s with heap := s.heap.update a f, toks := tk } := sameBut_late (Heap.SameBut.update ..)
theorem Ls.app {h : Heap} {a : Addr} {its : Array Value} (x : Ls h a its) (f : Array Value → Array Value) : Ls (h.update a (Obj.mapSeq f)) a (f its) := by
  obtain ⟨n, ho⟩ := x
  exact ⟨_, IsL.update (n := n) ho f⟩

section
variable {C : Cfg} {A : Around} {s : Shared}

theorem wp_setItemL {l : Addr} {vs : List Value} {i : Int} {u : Tok} {v : Value} {Q : Unit → Shared → Prop} (hl : Ls s.heap l vs.toArray) (h0 : 0 ≤ i) (hi : i < vs.length) (hs : vs.length ≤ 16777216)
    (hQ : ∀ s', Ls s'.heap l (vs.set i.toNat v).toArray → Late (fun b => b = l) No s s' → Q () s') : wp C A (setItem (.ref l) (.int i u) v) Q s := by
  have hL := hl.isList
  obtain ⟨n, ho⟩ := id hl
  have hd : ({ cls := .type "list", dict := Option.none, data := .seq vs.toArray n, slots := #[] } : Obj).data = .seq vs.toArray n := rfl
  unfold setItem
  try with_reducible refine wpAny_holding ?_
  first | refine wpAny_bind (wpAny_pure ?_) | skip
  refine wpAny_bind (wpAny_sequenceKey hL.typeIs (by decide) ?_)
  refine wpAny_bind (wpAny_callSpecial?_slot (name := Str.ofString "__setitem__") hL.typeIs PySem.slot_list_setitem
    (wpAny_call_entry PySem.slot_list_setitem hL.typeIs PySem.entry_list_setitem ?_ (PySem.args_list_setitem _ _ _)))
  show wpAny _ _ (Builtin.List.listSubscript? (.int i u) >>= _) _ _ s
  refine wpAny_bind (wpAny_listSubscript_int (fitsIndex_of h0 (by omega)) ?_)
  obtain ⟨j, rfl⟩ := Int.eq_ofNat_of_zero_le h0
  have hj : j < vs.toArray.size := by rw [List.size_toArray]; omega
  have hx' : vs.toArray[j]? = some vs.toArray[j] := Array.getElem?_eq_getElem hj
  show wpAny _ _ ((seqItemAt l j >>= fun r => pure (r.map (j, ·))) >>= _) _ _ s
  refine wpAny_bind (wpAny_bind (wpAny_seqItemAt ho hd (wpAny_pure ?_)))
  rw [hx']
  show wpAny _ _ (setSeqItemAt l j v >>= _) _ _ s
  have hfin : Ls (s.heap.update l (Obj.mapSeq (·.setIfInBounds j v))) l (vs.set j v).toArray := by
    have := hl.app (·.setIfInBounds j v)
    rwa [List.setIfInBounds_toArray] at this
  refine wpAny_bind (wpAny_setSeqItemAt ho hd ?_)
  first
    | exact wpAny_bind (wpAny_pure (wpAny_pure ⟨.none, rfl, wpAny_pure (hQ _ hfin late_update)⟩))
    | exact wpAny_pure ⟨.none, rfl, wpAny_pure (hQ _ hfin late_update)⟩

theorem wp_appendL {l : Addr} {vs : List Value} {v : Value} {Q : Value → Shared → Prop} (hl : Ls s.heap l vs.toArray) (hs : vs.length ≤ 16777216)
    (hQ : ∀ s', Ls s'.heap l (vs ++ [v]).toArray → Late (fun b => b = l) No s s' → Q .none s') : wp C A (call (.builtin "list.append") [.ref l, v]) Q s := by
  obtain ⟨n, ho⟩ := id hl
  refine call_meets PySem.F.slot_list_append ⟨_, ho, rfl⟩ PySem.F.entry_list_append (PySem.F.args_list_append_2 _ _) (PySem.list_append l vs.toArray n v (by rw [List.size_toArray, sizeLine_eq]; exact hs)) ⟨ho, ?_⟩
  refine hQ _ ?_ late_update
  have := hl.app (·.push v)
  rwa [List.push_toArray] at this

theorem eraseIdx_toArray (vs : List Value) (k : Nat) (h : k < vs.length) : vs.toArray.eraseIdxIfInBounds k = (vs.eraseIdx k).toArray := by
  rw [List.eraseIdxIfInBounds_toArray]

theorem wp_delL {l : Addr} {vs : List Value} {i : Int} {k : Nat} {u : Tok} {Q : Unit → Shared → Prop} (hl : Ls s.heap l vs.toArray) (hi : idx vs.length i = some k)
    (hQ : ∀ s', Ls s'.heap l (vs.eraseIdx k).toArray → Late (fun b => b = l) No s s' → Q () s') : wp C A (delItem (.ref l) (.int i u)) Q s := by
  obtain ⟨n, ho⟩ := id hl
  obtain ⟨f1, f2, f3, f4, f5, _⟩ := idx_facts hi
  have hsz : vs.toArray.size = vs.length := List.size_toArray
  refine PySem.P.delItem_list (n := n) ho (by unfold Builtin.List.listFitsIndex; rw [Bool.and_eq_true, decide_eq_true_iff, decide_eq_true_iff]; omega) (by rw [hsz]; exact f5) (hQ _ ?_ late_update) (by rw [hsz, sizeLine_eq]; exact f1)
  have := hl.app (·.eraseIdxIfInBounds k)
  rwa [eraseIdx_toArray vs k f4] at this

end

noncomputable def getM (ρ : List Sl) (i : Nat) : Option (List MV) := match ρ[i]? with
  | some (.m xs) => some xs
  | _ => none
theorem getM_some {ρ : List Sl} {i : Nat} {xs : List MV} (h : getM ρ i = some xs) : ρ[i]? = some (.m xs) := by
  unfold getM at h
  split at h
  · next hs => cases h; exact hs
  · cases h

theorem dict_none {s : Shared} {a : Addr} {its : Array Value} (h : Ls s.heap a its) : ∀ b, Value.ref a = .ref b → ∃ ob, s.heap.get? b = some ob ∧ ob.dict = none := fun b e => by
  cases e; obtain ⟨n, ho⟩ := h; exact ⟨_, ho, rfl⟩

section
variable {C : Cfg} {Φ : Fs} {ℓ : Nat}

noncomputable def appendF (i : Nat) (f : List Sl → Option MV) (ρ : List Sl) : Option (Fl × List Sl) := (getM ρ i).bind fun xs => (f ρ).bind fun v => if xs.length < lim then some (.next, ρ.set i (.m (xs ++ [v]))) else none
theorem ExS.append {x : Str} {p1 ap pos p2 : Pos} {e : Expr} {f : List Sl → Option MV} {i : Nat} (he : EvS C Φ ℓ e f) (hx : Φ.names[i]? = some x)
    (hb : ∀ env, attributeBase (.Name x p1) "append" env (eval (.Name x p1) env) = eval (.Name x p1) env) (hs : ∀ env, starEach [e] env = [(false, eval e env)]) (hl : (ap.endLine == pos.line) = true) (hint : ∀ env, EnvOk Φ env → interactive env = false) :
    ExS C Φ ℓ (.Expr (.Call (.Attribute (.Name x p1) "append" ap) [e] [] pos) p2) (appendF i f) := .mk fun A rm env K₀ H ρ s fl ρ' F hf => by
  unfold appendF at hf
  rw [Option.bind_eq_some_iff] at hf
  obtain ⟨xs, h1, hf⟩ := hf
  rw [Option.bind_eq_some_iff] at hf
  obtain ⟨v, h2, hf⟩ := hf
  split at hf
  · next hlen =>
    cases hf
    have hm := getM_some h1
    refine wpAny_Expr_any (Call_method1 (hb env) (hs env) hl (wp_Mut F hx hm fun a vs ha hla ra => ?_)) (hint env F.envOk) rfl
    refine ⟨"list", _, PySem.F.plainAttrs_list, PySem.F.slot_list_append, PySem.type_list_append, ⟨_, hla.choose_spec, rfl⟩, dict_none hla, ?_⟩
    refine Calls.callWith_builtin rfl (Calls.evalArgs_plain (Calls.spliced_cons (he.run rm F h2 fun va s₁ rv g₁ F₁ => Calls.spliced_nil ?_)))
    have hl₁ : Ls s₁.heap a vs.toArray := hla.at fun o e => g₁.get e
    have hlen' : xs.length < 16777216 := hlen
    refine wp_appendL hl₁ (by rw [ra.length]; omega) fun s₂ hl₂ L₂ => ?_
    have K2 : ∀ b, Wr Φ env H b → Kof K₀ Φ env H b := fun b h => .inr h
    have r2 : RepAll s₂.heap (Kof K₀ Φ env H) (vs ++ [va]) (xs ++ [v]) := ((g₁.repAll ra).append (.cons rv .nil)).mono (fun b o hb e => L₂.keep b o (fun q => hb (.inr (.inr (.inr ⟨_, q ▸ ha⟩)))) e) fun b h => .inl h
    obtain ⟨H', _, F', L', hh⟩ := F₁.mut hx hm ha L₂ hl₂ r2
    exact ⟨trivial, Out.after g₁ ⟨H', F', L', fun i a e => .inl (hh i a e)⟩⟩
  · cases hf

inductive PopOut (C : Cfg) (Φ : Fs) (env : Env) (K₀ : Addr → Prop) (H : Nat → Option Addr) (j : Nat) (ρ' : List Sl) (s : Shared) (v : Value) (mv : MV) (s' : Shared) : Prop
  | mk (H' : Nat → Option Addr) : Fm C Φ env K₀ H' ρ' s' → (∀ k, k ≠ j → H' (2 * k) = H (2 * k)) → Late (Wr Φ env H) No s s' → (∀ i a, H' i = some a → H i = some a) → Rep s'.heap (Kof K₀ Φ env H') v mv → PopOut C Φ env K₀ H j ρ' s v mv s'
structure EvP (C : Cfg) (Φ : Fs) (ℓ : Nat) (e : Expr) (j : Nat) (f : List Sl → Option (MV × List MV)) : Prop where
  mk ::
  go : ∀ A, Rm A ℓ → ∀ env K₀ H ρ s mv xs', Fm C Φ env K₀ H ρ s → f ρ = some (mv, xs') → wp C A (eval e env) (fun v s' => PopOut C Φ env K₀ H j (ρ.set j (.m xs')) s v mv s') s

set_option tactic.hygienic true in
noncomputable def iaddV (a b : MV) : Option MV :=
  on2 asInt asInt (fun x y => some (.int (x + y))) (on2 asStr asStr (fun x y => if x.length + y.length ≤ lim then some (.str (x ++ y)) else none) none a b) a b
noncomputable def iop : Operator → MV → MV → Option MV
  | .Add => iaddV
  | .Sub => subV
  | _ => fun u0 u1 => none
theorem wp_iop {A : Around} {s : Shared} {K : Addr → Prop} {op : Operator} {a b c : MV} {va vb : Value} (ha : RepH s.heap K va a) (hb : RepH s.heap K vb b) (h : iop op a b = some c) :
    wp C A (inplaceOp op va vb) (fun v s' => (∀ h K, Rep h K v c) ∧ Grow s s') s := by
  cases op
  case Add =>
    replace h : iaddV a b = some c := h
    rcases on2_inv h with ⟨x, y, hx, hy, e⟩ | h'
    · obtain rfl := asInt_inv hx; obtain rfl := asInt_inv hy
      cases e
      obtain ⟨t, rfl⟩ := ha.isInt; obtain ⟨u, rfl⟩ := hb.isInt
      exact wpAny_iadd_int ⟨fun u0 u1 => .int _ _, Late.tok⟩
    clear h
    rcases on2_inv h' with ⟨x, y, hx, hy, e⟩ | h
    · obtain rfl := asStr_inv hx; obtain rfl := asStr_inv hy
      obtain ⟨hl, rfl⟩ := if_inv e
      obtain ⟨t, rfl⟩ := ha.isStr; obtain ⟨u, rfl⟩ := hb.isStr
      refine SB.iadd (fun t' tk => ⟨fun u0 u1 => ?_, Late.tok⟩) hl
      rw [str_append]; exact .str _ _
    · cases h
  case Sub =>
    obtain ⟨x, y, rfl, rfl, h⟩ := intOp_inv h
    cases h
    obtain ⟨t, rfl⟩ := ha.isInt; obtain ⟨u, rfl⟩ := hb.isInt
    exact PyProof.Rows.isub_int ⟨fun u0 u1 => .int _ _, Late.tok⟩
  all_goals exact nomatch (show (none : Option MV) = some c from h)

noncomputable def augF (i : Nat) (op : Operator) (f : List Sl → Option MV) (ρ : List Sl) : Option (Fl × List Sl) := (getV ρ i).bind fun a => (f ρ).bind fun b => (iop op a b).map fun c => (.next, ρ.set i (.v c))
theorem getV_some {ρ : List Sl} {i : Nat} {v : MV} (h : getV ρ i = some v) : ρ[i]? = some (.v v) := by
  unfold getV at h
  split at h
  · next hs => cases h; exact hs
  · cases h
theorem ExS.aug {x : Str} {p1 pos : Pos} {op : Operator} {e : Expr} {f : List Sl → Option MV} {i : Nat} (he : EvH C Φ ℓ e f) (hx : Φ.names[i]? = some x) (hw : Φ.kind x = some .cell → Φ.wc = true) :
    ExS C Φ ℓ (.AugAssign (.Name x p1) op e pos) (augF i op f) := .mk fun A rm env K₀ H ρ s fl ρ' F hf => by
  unfold augF at hf
  rw [Option.bind_eq_some_iff] at hf
  obtain ⟨a, h1, hf⟩ := hf
  rw [Option.bind_eq_some_iff] at hf
  obtain ⟨b, h2, hf⟩ := hf
  rw [Option.map_eq_some_iff] at hf
  obtain ⟨c, h3, hf⟩ := hf
  cases hf
  have hs := getV_some h1
  refine wpAny_AugAssign_Name (wp_loadVar F hx hs (by nofun) fun v hv => he.run rm F h2 fun vb s₁ rb g₁ F₁ => ?_)
  obtain ⟨v', e, rv⟩ := hv
  cases e
  refine wp_mono (wp_iop (.inl (g₁.rep rv)) rb h3) fun v₂ s₂ q => ?_
  exact wp_set (F₁.grow q.2) hx hw (q.1 _ _) fun s' o => ⟨trivial, Out.after (g₁.then q.2) o⟩
noncomputable def atomic : MV → Bool
  | .list _ => false
  | .tuple _ => false
  | _ => true
theorem Rep.atom {h h' : Heap} {K K' : Addr → Prop} {v : Value} {mv : MV} (ha : atomic mv = true) (r : Rep h K v mv) : Rep h' K' v mv := by
  cases r with
  | none => exact .none
  | bool b => exact .bool b
  | int i t => exact .int i t
  | str c t => exact .str c t
  | bytes c t => exact .bytes c t
  | list _ _ _ => cases ha
  | tuple _ _ _ => cases ha
set_option tactic.hygienic true in
noncomputable def augIF (i : Nat) (op : Operator) (g f : List Sl → Option MV) (ρ : List Sl) : Option (Fl × List Sl) := (getM ρ i).bind fun xs => match g ρ with
  | some (.int k) => (f ρ).bind fun b => if 0 ≤ k ∧ k < xs.length ∧ xs.length ≤ lim then (xs[k.toNat]?).bind fun a => (iop op a b).map fun c => (.next, ρ.set i (.m (xs.set k.toNat c))) else none
  | _ => none
set_option tactic.hygienic true in
theorem ExS.augI {x : Str} {p1 p2 pos : Pos} {op : Operator} {ie e : Expr} {g f : List Sl → Option MV} {i : Nat} (hi : EvS C Φ ℓ ie g) (he : EvH C Φ ℓ e f) (hx : Φ.names[i]? = some x)
    (hs : ∀ ov iv new, augStore ie ov iv new = (do holding [new, ov, iv] (setItem ov iv new); release [new, ov, iv] []; pure .next)) :
    ExS C Φ ℓ (.AugAssign (.Subscript (.Name x p1) ie p2) op e pos) (augIF i op g f) := .mk fun A rm env K₀ H ρ s fl ρ' F hf => by
  unfold augIF at hf
  rw [Option.bind_eq_some_iff] at hf
  obtain ⟨xs, h1, hf⟩ := hf
  split at hf
  · next k h2 =>
    rw [Option.bind_eq_some_iff] at hf
    obtain ⟨b, h3, hf⟩ := hf
    split at hf
    · next hk =>
      rw [Option.bind_eq_some_iff] at hf
      obtain ⟨a, h4, hf⟩ := hf
      rw [Option.map_eq_some_iff] at hf
      obtain ⟨c, h5, hf⟩ := hf
      cases hf
      obtain ⟨hk0, hk1, hk2⟩ := hk
      have hm := getM_some h1
      have hlen' : xs.length ≤ 16777216 := hk2
      refine wpAny_AugAssign_SubscriptAny (wp_Mut F hx hm fun l vs ha hla ra => hi.run rm F h2 fun vi s₁ ri g₁ F₁ => ?_) hs
      obtain ⟨t, rfl⟩ := (RepH.of ri).isInt
      have hl₁ : Ls s₁.heap l vs.toArray := hla.at fun o e => g₁.get e
      have hit : itemOp (.list xs) (.int k) = some a := by
        show (idx xs.length k).bind (fun k => xs[k]?) = some a
        have e : idx xs.length k = some k.toNat := by unfold idx; rw [if_pos hk2, if_pos hk0, if_pos hk1]
        rw [e]; exact h4
      refine wp_mono (wp_itemOp (.inr ⟨l, vs, xs, rfl, rfl, hl₁, g₁.repAll ra⟩) (.inl ri) hit) fun vo s₂ q₂ => ?_
      have F₂ := F₁.grow q₂.2
      refine he.run rm F₂ h3 fun vb s₃ rb g₃ F₃ => ?_
      refine wp_mono (wp_iop (.inl (g₃.rep q₂.1)) rb h5) fun vn s₄ q₄ => ?_
      have gg : Grow s₁ s₄ := (q₂.2.then g₃).then q₄.2
      have hl₄ : Ls s₄.heap l vs.toArray := hl₁.at fun o e => gg.get e
      refine wp_setItemL hl₄ hk0 (by rw [ra.length]; exact hk1) (by rw [ra.length]; exact hlen') fun s₅ hl₅ L₅ => ?_
      have r5 : RepAll s₅.heap (Kof K₀ Φ env H) (vs.set k.toNat vn) (xs.set k.toNat c) := ((gg.repAll (g₁.repAll ra)).set _ (q₄.1 _ _)).mono (fun b o hb e => L₅.keep b o (fun q => hb (.inr (.inr (.inr ⟨_, q ▸ ha⟩)))) e) fun b h => .inl h
      obtain ⟨H', hk', F', L', hh⟩ := (F₃.grow q₄.2).mut hx hm ha L₅ hl₅ r5
      exact ⟨trivial, Out.after (g₁.then gg) ⟨H', F', L', fun i a e => .inl (hh i a e)⟩⟩
    · cases hf
  · cases hf

noncomputable def delF (i : Nat) (g : List Sl → Option MV) (ρ : List Sl) : Option (Fl × List Sl) := (getM ρ i).bind fun xs => match g ρ with
  | some (.int k) => (idx xs.length k).map fun j => (.next, ρ.set i (.m (xs.eraseIdx j)))
  | _ => none
set_option tactic.hygienic true in
theorem ExS.del {x : Str} {p1 p2 pos : Pos} {ie : Expr} {g : List Sl → Option MV} {i : Nat} (hi : EvS C Φ ℓ ie g) (hx : Φ.names[i]? = some x) :
    ExS C Φ ℓ (.Delete [.Subscript (.Name x p1) ie p2] pos) (delF i g) := .mk fun A rm env K₀ H ρ s fl ρ' F hf => by
  unfold delF at hf
  rw [Option.bind_eq_some_iff] at hf
  obtain ⟨xs, h1, hf⟩ := hf
  split at hf
  · next k h2 =>
    rw [Option.map_eq_some_iff] at hf
    obtain ⟨j, h3, hf⟩ := hf
    cases hf
    have hm := getM_some h1
    refine wpAny_Delete (wpAny_deleteEach_cons (wpAny_delete_Subscript (wp_Mut F hx hm fun l vs ha hla ra => hi.run rm F h2 fun vi s₁ ri g₁ F₁ => ?_)))
    obtain ⟨t, rfl⟩ := (RepH.of ri).isInt
    have hl₁ : Ls s₁.heap l vs.toArray := hla.at fun o e => g₁.get e
    refine wp_delL hl₁ (by rw [ra.length]; exact h3) fun s₂ hl₂ L₂ => wpAny_deleteEach_nil ?_
    have r2 : RepAll s₂.heap (Kof K₀ Φ env H) (vs.eraseIdx j) (xs.eraseIdx j) := ((g₁.repAll ra).eraseIdx _).mono (fun b o hb e => L₂.keep b o (fun q => hb (.inr (.inr (.inr ⟨_, q ▸ ha⟩)))) e) fun b h => .inl h
    obtain ⟨H', hk', F', L', hh⟩ := F₁.mut hx hm ha L₂ hl₂ r2
    exact ⟨trivial, Out.after g₁ ⟨H', F', L', fun i a e => .inl (hh i a e)⟩⟩
  · cases hf
end
end Mine
end

section
open PySem PyProof.Rows
set_option linter.unusedVariables false
namespace Mine

structure IterS (C : Cfg) (A : Around) (tgt : Expr) (it : Value) (n₀ : Nat) (K : Addr → Prop) (G : Nat → Prop) (xs : List MV) (St : Nat → (Addr → Prop) → Shared → Prop) : Prop where
  next : ∀ i (W : Addr → Prop) s x (K' : Addr → Prop), St i W s → AllBare s.gens → (∀ b o, C.hT.get? b = some o → s.heap.get? b = some o) → C.hT.objs.size ≤ s.heap.objs.size → xs[i]? = some x →
    (∀ b, K' b → (K b ∨ W b ∨ n₀ ≤ b) ∧ b < s.heap.objs.size) → n₀ ≤ s.heap.objs.size →
    wp C A (pyNext it) (fun r s₁ => ∃ v, r = some v ∧ wp C A (letOwnedTupleGo tgt it v) (fun u0 s₂ => ∃ W' : Addr → Prop, St (i + 1) W' s₂ ∧ (∀ b, W' b → W b ∨ (s.heap.objs.size ≤ b ∧ b < s₂.heap.objs.size)) ∧
      Rep s₂.heap (fun b => K' b ∨ W' b) v x ∧ Late W G s s₂) s₁) s
  done : ∀ (W : Addr → Prop) s, St xs.length W s → AllBare s.gens → (∀ b o, C.hT.get? b = some o → s.heap.get? b = some o) → C.hT.objs.size ≤ s.heap.objs.size → n₀ ≤ s.heap.objs.size →
    wp C A (pyNext it) (fun r s₁ => r = none ∧ Late W G s s₁) s
  self : ∀ i W s (Q : Value → Shared → Prop), St i W s → Q it s → wp C A (pyIter it) Q s
  frame : ∀ i (W : Addr → Prop) (s s' : Shared), St i W s → (∀ b o, ((b < n₀ ∧ ¬ K b) ∨ W b) → s.heap.get? b = some o → s'.heap.get? b = some o) → (∀ g x, G g → s.gens[g]? = some x → s'.gens[g]? = some x) → s.heap.objs.size ≤ s'.heap.objs.size → St i W s'
  lt : ∀ i (W : Addr → Prop) (s : Shared) b, St i W s → W b → b < s.heap.objs.size

inductive Its (C : Cfg) (A : Around) (tgt : Expr) (s₀ : Shared) (K : Addr → Prop) (xs : List MV) (it : Value) (s₂ : Shared) : Prop
  | mk : Grow s₀ s₂ → (G : Nat → Prop) → (W : Addr → Prop) → (St : Nat → (Addr → Prop) → Shared → Prop) → (∀ g, G g → s₀.gens.size ≤ g) → (∀ b, W b → s₀.heap.objs.size ≤ b) →
    IterS C A tgt it s₂.heap.objs.size K G xs St → St 0 W s₂ → Its C A tgt s₀ K xs it s₂

structure ItS (C : Cfg) (Φ : Fs) (ℓ : Nat) (tgt e : Expr) (f : List Sl → Option (List MV)) : Prop where
  mk ::
  go : ∀ A, Rm A ℓ → ∀ env K₀ H ρ s xs, Fm C Φ env K₀ H ρ s → f ρ = some xs → wp C A (eval e env) (fun x s₁ => wp C A (pyIter x) (fun it s₂ => Its C A tgt s (Kof K₀ Φ env H) xs it s₂) s₁) s

structure AsT (C : Cfg) (Φ : Fs) (ℓ : Nat) (tgt : Expr) (t : MV → List Sl → Option (List Sl)) : Prop where
  mk ::
  go : ∀ A, Rm A ℓ → ∀ env K₀ H ρ s v x ρ', Fm C Φ env K₀ H ρ s → Rep s.heap (Kof K₀ Φ env H) v x → t x ρ = some ρ' → wp C A (assign tgt env v) (fun u0 s' => Out C Φ env K₀ H s ρ' s') s

section
variable {C : Cfg} {Φ : Fs} {ℓ : Nat}

noncomputable def tName (i : Nat) (x : MV) (ρ : List Sl) : Option (List Sl) := some (ρ.set i (.v x))
theorem AsT.name {x : Str} {p : Pos} {i : Nat} (hx : Φ.names[i]? = some x) (hw : Φ.kind x = some .cell → Φ.wc = true) : AsT C Φ ℓ (.Name x p) (tName i) := .mk fun A rm env K₀ H ρ s v mv ρ' F r h => by
  cases h
  exact wpAny_assign_Name (wp_set F hx hw r fun s' o => o)
noncomputable def tTup (is : List Nat) (x : MV) (ρ : List Sl) : Option (List Sl) := (partsOf x).bind fun xs => setAll is xs ρ
theorem AsT.tup {es : List Expr} {is : List Nat} {n : Nat} {p : Pos} (hn : NamesAt Φ es is) : AsT C Φ ℓ (.Tuple es n p) (tTup is) := .mk fun A rm env K₀ H ρ s v mv ρ' F r h => by
  unfold tTup at h
  rw [Option.bind_eq_some_iff] at h
  obtain ⟨xs, h1, h2⟩ := h
  exact wp_assignTuple rm hn F (.inl (.inl r)) h1 h2

noncomputable def forL (t : MV → List Sl → Option (List Sl)) (g : List Sl → Option (Fl × List Sl)) : List MV → List Sl → Option (Fl × List Sl)
  | [], ρ => some (.next, ρ)
  | x :: xs, ρ => match t x ρ with
    | none => none
    | some ρ₁ => match g ρ₁ with
      | none => none
      | some (.next, ρ₂) => forL t g xs ρ₂
      | some (.cont, ρ₂) => forL t g xs ρ₂
      | some (.brk, ρ₂) => some (.next, ρ₂)
      | some (.ret v, ρ₂) => some (.ret v, ρ₂)

theorem Fm.own {env : Env} {K₀ : Addr → Prop} {H : Nat → Option Addr} {ρ : List Sl} {s s₁ : Shared} {W W' : Addr → Prop} {G : Nat → Prop} (F : Fm C Φ env (fun b => K₀ b ∨ W b) H ρ s) (g : Late W G s s₁) (n : Nat)
    (hT : C.hT.objs.size ≤ n) (hc : ∀ x c, env.cells.lookup x = some c → c < n) (hW : ∀ b, W b → n ≤ b) (hW' : ∀ b, W' b → W b ∨ (s.heap.objs.size ≤ b ∧ b < s₁.heap.objs.size)) : Fm C Φ env (fun b => K₀ b ∨ W' b) H ρ s₁ :=
  F.step g (fun b h => ⟨.inr h, Nat.le_trans hT (hW b h), fun x e => Nat.lt_irrefl _ (Nat.lt_of_lt_of_le (hc x b e) (hW b h))⟩) fun b h => h.elim (fun q => .inl (.inl q)) fun q => (hW' b q).imp .inr id
theorem Fm.less {env : Env} {K₀ K₁ : Addr → Prop} {H : Nat → Option Addr} {ρ : List Sl} {s : Shared} (F : Fm C Φ env K₀ H ρ s) (h : ∀ b, K₁ b → K₀ b) : Fm C Φ env K₁ H ρ s :=
  F.step (Late.refl s : Late No No s s) (fun u0 h => h.elim) fun b q => .inl (h b q)

theorem FlRep.less {h : Heap} {K K' : Addr → Prop} {fl' : Flow} {fl : Fl} (r : FlRep h K fl' fl) (hK : ∀ b, K' b → K b) : FlRep h K' fl' fl := by
  cases fl' <;> cases fl <;> first | exact r | exact Rep.mono (fun b o u0 e => e) (fun b q => .inl (hK b q)) r

noncomputable def forF (f : List Sl → Option (List MV)) (t : MV → List Sl → Option (List Sl)) (g : List Sl → Option (Fl × List Sl)) (ρ : List Sl) : Option (Fl × List Sl) := (f ρ).bind fun xs => forL t g xs ρ

inductive ForP (C : Cfg) (Φ : Fs) (env : Env) (K₀ : Addr → Prop) (H : Nat → Option Addr) (s : Shared) (n₂ : Nat) (St : Nat → (Addr → Prop) → Shared → Prop) (i : Nat) (ρ : List Sl) (s₃ : Shared) : Prop
  | mk (W₁ : Addr → Prop) (H₁ : Nat → Option Addr) : St i W₁ s₃ → Fm C Φ env (fun b => K₀ b ∨ W₁ b) H₁ ρ s₃ → Late (Wr Φ env H) No s s₃ → (∀ j a, H₁ j = some a → H j = some a ∨ n₂ ≤ a) → (∀ b, W₁ b → s.heap.objs.size ≤ b) → n₂ ≤ s₃.heap.objs.size →
    ForP C Φ env K₀ H s n₂ St i ρ s₃
set_option tactic.hygienic true in
theorem ExS.for {tgt iter : Expr} {body : List Stmt} {pos : Pos} {f : List Sl → Option (List MV)} {t : MV → List Sl → Option (List Sl)} {g : List Sl → Option (Fl × List Sl)} (hi : ItS C Φ ℓ tgt iter f) (ht : AsT C Φ ℓ tgt t) (hg : ExsS C Φ ℓ body g)
    (hs : ∀ env x, foldedSetIterable iter env x = pure x) : ExS C Φ ℓ (.For tgt iter body [] pos) (forF f t g) := .mk fun A rm env K₀ H ρ s fl ρ' F hf => by
  unfold forF at hf
  rw [Option.bind_eq_some_iff] at hf
  obtain ⟨xs, h1, hf⟩ := hf
  refine wpAny_For (wp_mono (hi.go A rm env K₀ H ρ s xs F h1) fun x s₁ q => wp_mono q fun it s₂ q => ?_) (hs env)
  obtain ⟨gr, G, W, St, hG, hW, I, hst⟩ := q
  have F₂ : Fm C Φ env (fun b => K₀ b ∨ W b) H ρ s₂ := F.step gr (fun u0 h => h.elim) fun b h => h.imp id fun q => ⟨hW b q, I.lt _ _ _ _ hst q⟩
  have hn : s.heap.objs.size ≤ s₂.heap.objs.size := gr.size
  have hcel : ∀ x c, env.cells.lookup x = some c → c < s.heap.objs.size := fun x c h => F.celLt h
  refine codeAny_forLoop_any (fun n s₃ => ∃ i ρ₁, i + n = xs.length ∧ ForP C Φ env K₀ H s s₂.heap.objs.size St i ρ₁ s₃ ∧ forL t g (xs.drop i) ρ₁ = some (fl, ρ')) ?_ xs.length
    ⟨0, ρ, by omega, ⟨W, H, hst, F₂, gr.mono (fun u0 h => h.elim) (fun u0 h => h.elim), fun u0 u1 h => .inl h, hW, Nat.le_refl _⟩, by rw [List.drop_zero]; exact hf⟩
  intro n s₃ hI
  obtain ⟨i, ρ₁, hin, ⟨W₁, H₁, hst₁, F₃, L₃, hh₃, hW₁, hsz₃⟩, hf₃⟩ := hI
  have hhs : ∀ j a, H₁ j = some a → H j = some a ∨ s.heap.objs.size ≤ a := fun j a h => (hh₃ j a h).imp id fun q => Nat.le_trans hn q
  rcases hx : xs[i]? with _ | x
  · have hi0 : i = xs.length := by
      have := List.getElem?_eq_none_iff.mp hx
      omega
    subst hi0
    rw [List.drop_length] at hf₃
    cases hf₃
    refine wp_any (wp_mono (I.done W₁ s₃ hst₁ F₃.bare F₃.keepT F₃.tsz hsz₃) fun r s₄ q => ?_)
    obtain ⟨rfl, L₄⟩ := q
    refine wpAny_execs_nil ⟨trivial, H₁, (F₃.own L₄ (W' := W₁) s.heap.objs.size F.tsz hcel hW₁ (fun b h => .inl h)).less (fun b h => .inl h), L₃.trans L₄ (fun b h => .inr (hW₁ b h)) ?_, hhs⟩
    intro g hg; exact .inr (hG g hg)
  · have hlt := (List.getElem?_eq_some_iff.mp hx).1
    have hd : xs.drop i = x :: xs.drop (i + 1) := by
      rw [List.drop_eq_getElem_cons hlt]
      congr 1
      exact (List.getElem?_eq_some_iff.mp hx).2
    rw [hd, forL] at hf₃
    have kof : ∀ b, Kof (fun b => K₀ b ∨ W₁ b) Φ env H₁ b → (Kof K₀ Φ env H b ∨ W₁ b ∨ s₂.heap.objs.size ≤ b) ∧ b < s₃.heap.objs.size := fun b h => by
      refine ⟨?_, F₃.kLt h⟩
      rcases h with (h | h) | h
      · exact .inl (.inl h)
      · exact .inr (.inl h)
      · exact (Wr.back hh₃ h).elim (fun q => .inl (.inr q)) fun q => .inr (.inr q)
    refine wp_any (wp_mono (I.next i W₁ s₃ x _ hst₁ F₃.bare F₃.keepT F₃.tsz hx kof hsz₃) fun r s₄ q => ?_)
    obtain ⟨v, rfl, q⟩ := q
    refine wp_any (wp_mono q fun u0 s₅ q => ?_)
    obtain ⟨W₂, hst₂, hW₂, rv, L₅⟩ := q
    have F₅ := F₃.own L₅ s.heap.objs.size F.tsz hcel hW₁ hW₂
    have hW₂' : ∀ b, W₂ b → s.heap.objs.size ≤ b := fun b h => (hW₂ b h).elim (hW₁ b) fun q => Nat.le_trans L₃.size q.1
    have L₃₅ : Late (Wr Φ env H) No s s₅ := L₃.trans L₅ (fun b h => .inr (hW₁ b h)) fun g hg => .inr (hG g hg)
    have rv' : Rep s₅.heap (Kof (fun b => K₀ b ∨ W₂ b) Φ env H₁) v x := rv.mono (fun b o u0 e => e) fun b h => .inl (by
      rcases h with (h | h) | h
      · exact .inl (.inl (.inl h))
      · exact .inr h
      · exact .inl (.inr h))
    split at hf₃
    · cases hf₃
    · next ρ₂ h2 =>
      refine wp_any (wp_mono (ht.go A rm env _ H₁ ρ₁ s₅ v x ρ₂ F₅ rv' h2) fun u0 s₆ o => ?_)
      obtain ⟨H₆, F₆, L₆, hh₆⟩ := o
      have big : s₂.heap.objs.size ≤ s₅.heap.objs.size := Nat.le_trans hsz₃ L₅.size
      have run : ∀ {fl₂ ρ₃}, g ρ₂ = some (fl₂, ρ₃) → wp C A (execs body env) (fun fl' s₇ => FlRep s₇.heap K₀ fl' fl₂ ∧ ForP C Φ env K₀ H s s₂.heap.objs.size St (i + 1) ρ₃ s₇) s₆ := by
        intro fl₂ ρ₃ h3
        refine wp_mono (hg.go A rm env _ H₆ ρ₂ s₆ fl₂ ρ₃ F₆ h3) fun fl' s₇ q => ⟨q.1.less fun b h => .inl h, ?_⟩
        obtain ⟨H₇, F₇, L₇, hh₇⟩ := Out.bind L₆ hh₆ q.2
        refine ⟨W₂, H₇, I.frame (i + 1) W₂ s₅ s₇ hst₂ (fun b o hb e => L₇.keep b o (fun hw => ?_) e) (fun g x hg e => L₇.gens g x (fun h => h) e) L₇.size, F₇, L₃₅.trans L₇ (fun b h => (Wr.back hhs h)) (fun u0 h => h.elim), fun j a h => ?_, hW₂', Nat.le_trans big L₇.size⟩
        · rcases hb with ⟨h1, h2⟩ | hb
          · exact (Wr.back hh₃ hw).elim (fun q => h2 (.inr q)) fun q => Nat.lt_irrefl _ (Nat.lt_of_lt_of_le h1 q)
          · exact F₅.wrK0 hw (.inr hb)
        · rcases hh₇ j a h with q | q
          · exact hh₃ j a q
          · exact .inr (Nat.le_trans big q)
      have out : ∀ {ρ₃ s₇}, ForP C Φ env K₀ H s s₂.heap.objs.size St (i + 1) ρ₃ s₇ → Out C Φ env K₀ H s ρ₃ s₇ := fun q => by
        obtain ⟨_, _, _, F, L, hh, _, _⟩ := q
        exact ⟨_, F.less (fun b h => .inl h), L, fun j a h => (hh j a h).imp id fun q => Nat.le_trans hn q⟩
      split at hf₃
      · cases hf₃
      · next ρ₃ h3 =>
        refine wp_any (wp_mono (run h3) fun fl' s₇ q => ?_)
        obtain ⟨q1, q⟩ := q
        cases fl' with
        | next => exact ⟨n - 1, by omega, i + 1, ρ₃, by omega, q, hf₃⟩
        | brk => exact q1.elim
        | cont => exact q1.elim
        | ret v => exact q1.elim
      · next ρ₃ h3 =>
        refine wp_any (wp_mono (run h3) fun fl' s₇ q => ?_)
        obtain ⟨q1, q⟩ := q
        cases fl' with
        | cont => exact ⟨n - 1, by omega, i + 1, ρ₃, by omega, q, hf₃⟩
        | brk => exact q1.elim
        | next => exact q1.elim
        | ret v => exact q1.elim
      · next ρ₃ h3 =>
        cases hf₃
        refine wp_any (wp_mono (run h3) fun fl' s₇ q => ?_)
        obtain ⟨q1, q⟩ := q
        cases fl' with
        | brk => exact ⟨trivial, out q⟩
        | cont => exact q1.elim
        | next => exact q1.elim
        | ret v => exact q1.elim
      · next u ρ₃ h3 =>
        cases hf₃
        refine wp_any (wp_mono (run h3) fun fl' s₇ q => ?_)
        obtain ⟨q1, q⟩ := q
        cases fl' with
        | ret v => exact ⟨q1, out q⟩
        | cont => exact q1.elim
        | next => exact q1.elim
        | brk => exact q1.elim
end
end Mine
end

section
open PySem PyProof.Rows
set_option linter.unusedVariables false
namespace Mine

noncomputable def TgtN (tgt : Expr) : Prop := ∀ it v, letOwnedTupleGo tgt it v = pure ()

noncomputable def tupMakers : List String := ["enumerate", "zip", "dict_itemiterator", "dict_reverseitemiterator", "odict_iterator", "itertools.zip_longest", "itertools.pairwise"]
theorem wp_letGo {C : Cfg} {A : Around} {s : Shared} {tgt : Expr} {I : Addr} {v : Value} {o : Obj} {T : String} {Q : Unit → Shared → Prop} (ho : s.heap.get? I = some o) (hc : o.cls = .type T) (hT : tupMakers.contains T = false) (hQ : Q () s) :
    wp C A (letOwnedTupleGo tgt (.ref I) v) Q s := by
  have key : ∀ a : Addr, wp C A (do
      let o ← load I
      match o.cls, o.data with
      | .type n, .fields vs =>
        if ["enumerate", "zip", "dict_itemiterator", "dict_reverseitemiterator", "odict_iterator", "itertools.zip_longest", "itertools.pairwise"].contains n && vs[0]? == some (rawInt a) then
          rule "for.unpacks-the-owned-tuple"
          updateField I 0 .none
      | _, _ => pure () : Sem Unit) Q s := fun a => by
    refine wpAny_bind (wpAny_load ho ?_)
    rw [hc]
    cases o.data with
    | fields vs =>
      show wp C A (if (tupMakers.contains T && vs[0]? == some (rawInt a)) = true then _ else pure ()) Q s
      rw [hT]
      exact wpAny_pure hQ
    | _ => exact wpAny_pure hQ
  have key' : ∀ e i p, wp C A (letOwnedTupleGo (.Tuple e i p) (.ref I) v) Q s := fun e i p => by
    cases v with
    | ref a => exact key a
    | _ => exact wpAny_pure hQ
  cases tgt with
  | Tuple e i p => exact key' e i p
  | List e p => exact key' e 0 p
  | _ => exact wpAny_pure hQ

section
variable {C : Cfg} {ℓ : Nat}

noncomputable def WSt (K : Addr → Prop) (h₀ : Heap) (wr : List Addr) (St₀ : Nat → Heap → Prop) (i : Nat) (W : Addr → Prop) (s : Shared) : Prop :=
  W = (· ∈ wr) ∧ St₀ i s.heap ∧ (∀ b o, ¬ K b → b ∉ wr → h₀.get? b = some o → s.heap.get? b = some o) ∧ h₀.objs.size ≤ s.heap.objs.size

theorem IterS.ofWalks {A : Around} (hA : A.handled = none) {tgt : Expr} {I : Addr} {fp wr : List Addr} {n : Nat} {P : Nat → Value → Prop} {St₀ : Nat → Heap → Prop} {h₀ : Heap} {K : Addr → Prop} {xs : List MV}
    (W : ∀ A : Around, A.handled = none → Walks C.prog C.w A I fp wr n P St₀) (hwr : ∀ b ∈ wr, b < h₀.objs.size) (hfp : ∀ b ∈ fp, b ∈ wr ∨ (b < h₀.objs.size ∧ ¬ K b)) (hn : n = xs.length)
    (hP : ∀ i v x, P i v → xs[i]? = some x → Rep h₀ (fun b => K b ∨ b ∈ wr) v x)
    (hgo : ∀ A s i v (Q : Unit → Shared → Prop), St₀ i s.heap → Q () s → wp C A (letOwnedTupleGo tgt (.ref I) v) Q s) :
    IterS C A tgt (.ref I) h₀.objs.size K No xs (WSt K h₀ wr St₀) where
  next := fun i W₁ s x K' st hb u0 u1 hx hK hn₀ => by
    obtain ⟨rfl, hst, hk, hsz⟩ := st
    have hi : i < n := by rw [hn]; exact (List.getElem?_eq_some_iff.mp hx).1
    refine wp_sized ((W A hA).item i s _ _ hi hst fun v h' tk hv hst' hk' hs => ⟨v, rfl, ?_⟩)
    refine hgo A _ (i + 1) v _ hst' ⟨(· ∈ wr), ⟨rfl, hst', fun b o h1 h2 e => hk' b o h2 (hk b o h1 h2 e), Nat.le_trans hsz hs⟩, fun b h => .inl h, ?_, .heap (fun b o h e => hk' b o h e) hs⟩
    refine (hP i v x hv hx).mono (fun b o hb e => hk' b o (fun h => hb (.inr h)) (hk b o (fun h => hb (.inl h)) (fun h => hb (.inr h)) e)) fun b h => ?_
    rcases h with h | h
    · rcases (hK b h).1 with h | h | h
      · exact .inl (.inl h)
      · exact .inl (.inr h)
      · exact .inr h
    · exact .inl (.inr h)
  done := fun W₁ s st u0 u1 u2 u3 => by
    obtain ⟨rfl, hst, hk, hsz⟩ := st
    subst hn
    exact wp_sized ((W A hA).done s _ _ hst fun h' tk hk' hs => ⟨rfl, .heap (fun b o h e => hk' b o h e) hs⟩)
  self := fun i W₁ s Q st hQ => (W A hA).self i s _ _ st.2.1 hQ
  frame := fun i W₁ s s' st hk u0 hs => by
    obtain ⟨rfl, hst, hk0, hsz⟩ := st
    refine ⟨rfl, (W callerA rfl).frame i _ _ hst fun b hb o e => hk b o ((hfp b hb).elim .inr .inl) e, fun b o h1 h2 e => ?_, Nat.le_trans hsz hs⟩
    exact hk b o (.inl ⟨Heap.lt_size e, h1⟩) (hk0 b o h1 h2 e)
  lt := fun i W₁ s b st h => by
    obtain ⟨rfl, hst, hk0, hsz⟩ := st
    exact Nat.lt_of_lt_of_le (hwr b h) hsz

theorem IterS.ofWalksT {A : Around} (hA : A.handled = none) {elts : List Expr} {k : Nat} {pos : Pos} {I : Addr} {fp wr : List Addr} {n : Nat} {Pt : Nat → Array Value → Prop} {St₀ : Nat → Heap → Prop} {Mid : Nat → Addr → Heap → Prop} {h₀ : Heap} {K : Addr → Prop} {xs : List MV}
    (W : ∀ A : Around, A.handled = none → WalksT C.prog C.w A I fp wr n Pt St₀ Mid) (hwr : ∀ b ∈ wr, b < h₀.objs.size) (hfp : ∀ b ∈ fp, b ∈ wr ∨ (b < h₀.objs.size ∧ ¬ K b)) (hn : n = xs.length)
    (hP : ∀ i v x, Pt i v → xs[i]? = some x → ∃ ys, x = .tuple ys ∧ RepAll h₀ (fun b => K b ∨ b ∈ wr) v.toList ys) :
    IterS C A (.Tuple elts k pos) (.ref I) h₀.objs.size K No xs (WSt K h₀ wr St₀) where
  next := fun i W₁ s x K' st hb u0 u1 hx hK hn₀ => by
    obtain ⟨rfl, hst, hk, hsz⟩ := st
    have hi : i < n := by rw [hn]; exact (List.getElem?_eq_some_iff.mp hx).1
    refine wp_sized ((W A hA).item i s _ _ hi hst fun T vals h' tk hv hT ht hm hk' hs => ⟨.ref T, rfl, ?_⟩)
    refine wp_sized ((W A hA).go elts k pos i T _ _ _ hm fun h'' hst' hk'' hs' => ?_)
    have hne := (W A hA).apart i T h' hm
    refine ⟨(· ∈ wr), ⟨rfl, hst', fun b o h1 h2 e => hk'' b o h2 (hk' b o h2 (hk b o h1 h2 e)), Nat.le_trans hsz (Nat.le_trans hs hs')⟩, fun b h => .inl h, ?_, .heap (fun b o h e => hk'' b o h (hk' b o h e)) (Nat.le_trans hs hs')⟩
    obtain ⟨ys, rfl, ra⟩ := hP i vals x hv hx
    have ht' : h''.IsTuple T vals.toList.toArray := by
      rw [Array.toArray_toList]
      exact IsTuple.at ht fun o e => hk'' T o hne e
    refine .tuple ht' (fun h => ?_) (ra.mono (fun b o hb e => hk'' b o (fun h => hb (.inr h)) (hk' b o (fun h => hb (.inr h)) (hk b o (fun h => hb (.inl h)) (fun h => hb (.inr h)) e))) fun b h => ?_)
    · rcases h with h | h
      · exact Nat.lt_irrefl _ (Nat.lt_of_lt_of_le (hK T h).2 hT)
      · exact hne h
    · rcases h with h | h
      · rcases (hK b h).1 with h | h | h
        · exact .inl (.inl h)
        · exact .inl (.inr h)
        · exact .inr h
      · exact .inl (.inr h)
  done := fun W₁ s st u0 u1 u2 u3 => by
    obtain ⟨rfl, hst, hk, hsz⟩ := st
    subst hn
    exact wp_sized ((W A hA).done s _ _ hst fun h' tk hk' hs => ⟨rfl, .heap (fun b o h e => hk' b o h e) hs⟩)
  self := fun i W₁ s Q st hQ => (W A hA).self i s _ _ st.2.1 hQ
  frame := fun i W₁ s s' st hk u0 hs => by
    obtain ⟨rfl, hst, hk0, hsz⟩ := st
    refine ⟨rfl, (W callerA rfl).frame i _ _ hst fun b hb o e => hk b o ((hfp b hb).elim .inr .inl) e, fun b o h1 h2 e => ?_, Nat.le_trans hsz hs⟩
    exact hk b o (.inl ⟨Heap.lt_size e, h1⟩) (hk0 b o h1 h2 e)
  lt := fun i W₁ s b st h => by
    obtain ⟨rfl, hst, hk0, hsz⟩ := st
    exact Nat.lt_of_lt_of_le (hwr b h) hsz
end

noncomputable def iterOf : MV → Option (List MV)
  | .list xs => some xs
  | .str cs => some (cs.map fun c => .str [c])
  | .bytes bs => some (bs.map fun b => .int b.toNat)
  | _ => none
noncomputable def listOf : MV → Option (List MV)
  | .list xs => some xs
  | _ => none

section
variable {C : Cfg} {Φ : Fs} {ℓ : Nat} {env : Env} {K₀ : Addr → Prop} {H : Nat → Option Addr} {ρ : List Sl} {s : Shared} {A : Around}

theorem its_walks (hA : A.handled = none) {tgt : Expr} {s₀ : Shared} {K : Addr → Prop} {xs : List MV} {I : Addr} {o : Obj} {n : Nat} {P : Nat → Value → Prop} {St₀ : Nat → Heap → Prop} {fp : List Addr} (g : Grow s₀ s) (hI : I = s.heap.objs.size)
    (W : ∀ A : Around, A.handled = none → Walks C.prog C.w A I fp [I] n P St₀) (hfp : ∀ b ∈ fp, b = I ∨ (b < s.heap.objs.size ∧ ¬ K b)) (hn : n = xs.length)
    (hP : ∀ i v x, P i v → xs[i]? = some x → Rep s.heap K v x) (h0 : St₀ 0 (s.heap.push o))
    (hgo : ∀ A s i v (Q : Unit → Shared → Prop), St₀ i s.heap → Q () s → wp C A (letOwnedTupleGo tgt (.ref I) v) Q s) :
    Its C A tgt s₀ K xs (.ref I) { s with heap := s.heap.push o } := by
  subst hI
  have g2 : Grow s₀ { s with heap := s.heap.push o } := g.then (Late.push (tk := s.toks))
  have hlt : s.heap.objs.size < (s.heap.push o).objs.size := by rw [Heap.size_push]; omega
  refine ⟨g2, No, (· ∈ [s.heap.objs.size]), WSt K (s.heap.push o) [s.heap.objs.size] St₀, fun g h => h.elim, fun b h => ?_, IterS.ofWalks hA W (fun b h => ?_) (fun b h => ?_) hn (fun i v x h1 h2 => ?_) hgo, rfl, h0, fun b o u0 u1 e => e, Nat.le_refl _⟩
  · rw [List.mem_singleton.mp h]; exact g.size
  · rw [List.mem_singleton.mp h]; exact hlt
  · rcases hfp b h with rfl | h
    · exact .inl (List.mem_singleton.mpr rfl)
    · exact .inr ⟨Nat.lt_trans h.1 hlt, h.2⟩
  · refine (hP i v x h1 h2).mono (fun b o u0 e => Heap.get?_push_of_some _ e) fun b h => ?_
    exact h.imp id fun q => Nat.le_of_eq (List.mem_singleton.mp q).symm

set_option tactic.hygienic true in
theorem its_list (hA : A.handled = none) {tgt : Expr} {s₀ : Shared} {K : Addr → Prop} {xs : List MV} {v : Value} (g : Grow s₀ s) (r : Rep s.heap K v (.list xs)) : wp C A (pyIter v) (fun it s₂ => Its C A tgt s₀ K xs it s₂) s := by
  cases r with
  | list hl hK ra =>
    rename_i a vs
    have hne : a ≠ s.heap.objs.size := Nat.ne_of_lt hl.lt
    refine wpAny_pyIter_list hl.isList (its_walks hA g rfl (fun A' hA' => Walks.list hA' s.heap.objs.size a hne vs.toArray) (fun b h => ?_) ?_ (fun i v x h1 h2 => ?_) ⟨⟨_, Heap.get?_push_size _ rfl, rfl, rfl⟩, hl.isList.push _⟩ fun A' s' i v Q st hQ => ?_)
    · rcases List.mem_cons.mp h with h | h
      · exact .inl h
      · rcases List.mem_cons.mp h with h | h
        · subst h; exact .inr ⟨hl.lt, hK⟩
        · cases h
    · rw [List.size_toArray, ra.length]
    · rw [List.getElem?_toArray] at h1
      obtain ⟨v', h3, h4⟩ := ra.get h2
      rw [h1] at h3; cases h3; exact h4
    · obtain ⟨⟨o, ho, hc, _⟩, _⟩ := st
      exact wp_letGo ho hc (by decide) hQ
theorem its_str (hA : A.handled = none) {tgt : Expr} {s₀ : Shared} {K : Addr → Prop} {cs : List Nat} {v : Value} (ht : TgtN tgt) (g : Grow s₀ s) (r : Rep s.heap K v (.str cs)) : wp C A (pyIter v) (fun it s₂ => Its C A tgt s₀ K (cs.map fun c => .str [c]) it s₂) s := by
  obtain ⟨t, rfl⟩ := (RepH.of r).isStr
  refine PySem.wpAny_pyIter_str fun o St hW hst => its_walks hA g rfl hW (fun b h => .inl (List.mem_singleton.mp h)) ?_ (fun i v x h1 h2 => ?_) hst fun A' s' i v Q st hQ => by rw [ht]; exact wpAny_pure hQ
  · simp
  · obtain ⟨c, u, h3, rfl⟩ := h1
    rw [List.getElem?_map, Option.map_eq_some_iff] at h2
    obtain ⟨c', h4, rfl⟩ := h2
    have : c = c' := by
      rw [List.getElem?_toArray] at h3
      rw [h3] at h4; exact Option.some.inj h4
    subst this
    exact .str [c] u
theorem its_bytes (hA : A.handled = none) {tgt : Expr} {s₀ : Shared} {K : Addr → Prop} {bs : List UInt8} {v : Value} (ht : TgtN tgt) (g : Grow s₀ s) (r : Rep s.heap K v (.bytes bs)) : wp C A (pyIter v) (fun it s₂ => Its C A tgt s₀ K (bs.map fun c => .int c.toNat) it s₂) s := by
  obtain ⟨t, rfl⟩ := (RepH.of r).isBytes
  refine PySem.W.KBw.pyIter_bytes (its_walks hA g rfl (fun A' hA' => PySem.W.KBw.walks hA' s.heap.objs.size bs.toArray t) (fun b h => .inl (List.mem_singleton.mp h)) ?_ (fun i v x h1 h2 => ?_) ⟨_, Heap.get?_push_size _ rfl, rfl, rfl⟩ fun A' s' i v Q st hQ => by rw [ht]; exact wpAny_pure hQ)
  · simp
  · obtain ⟨c, u, h3, rfl⟩ := h1
    rw [List.getElem?_map, Option.map_eq_some_iff] at h2
    obtain ⟨c', h4, rfl⟩ := h2
    have : c = c' := by
      rw [List.getElem?_toArray] at h3
      rw [h3] at h4; exact Option.some.inj h4
    subst this
    exact .int _ u
end

section
variable {C : Cfg} {Φ : Fs} {ℓ : Nat}
noncomputable def valI (f : List Sl → Option MV) (ρ : List Sl) : Option (List MV) := (f ρ).bind iterOf
theorem ItS.val {tgt e : Expr} {f : List Sl → Option MV} (ht : TgtN tgt) (he : EvS C Φ ℓ e f) : ItS C Φ ℓ tgt e (valI f) := .mk fun A rm env K₀ H ρ s xs F hf => by
  unfold valI at hf
  rw [Option.bind_eq_some_iff] at hf
  obtain ⟨v, h1, h2⟩ := hf
  refine he.run rm F h1 fun va s₁ r g F₁ => ?_
  unfold iterOf at h2
  split at h2
  · cases h2; exact its_list rm.hh g r
  · cases h2; exact its_str rm.hh ht g r
  · cases h2; exact its_bytes rm.hh ht g r
  · cases h2
noncomputable def listI (f : List Sl → Option MV) (ρ : List Sl) : Option (List MV) := (f ρ).bind listOf
theorem ItS.list {tgt e : Expr} {f : List Sl → Option MV} (he : EvS C Φ ℓ e f) : ItS C Φ ℓ tgt e (listI f) := .mk fun A rm env K₀ H ρ s xs F hf => by
  unfold listI at hf
  rw [Option.bind_eq_some_iff] at hf
  obtain ⟨v, h1, h2⟩ := hf
  refine he.run rm F h1 fun va s₁ r g F₁ => ?_
  unfold listOf at h2
  split at h2
  · cases h2; exact its_list rm.hh g r
  · cases h2

noncomputable def intsL (a : Int) (n : Nat) : List MV := (List.range n).map fun k : Nat => MV.int (a + (k : Int))
theorem its_range {A : Around} (hA : A.handled = none) {tgt : Expr} {s s₀ : Shared} {K : Addr → Prop} {a b : Int} {t u v : Tok} {r : Addr} (ht : TgtN tgt) (g : Grow s₀ s) (hr : IsRange s.heap r a b 1 t u v) (ha : -(2 ^ 62) ≤ a) (ha' : a < 2 ^ 62) (hb : -(2 ^ 62) ≤ b) (hb' : b < 2 ^ 62) :
    wp C A (pyIter (.ref r)) (fun it s₂ => Its C A tgt s₀ K (intsL a (b - a).toNat) it s₂) s := by
  have e1 : Builtin.Range.rangeSize a b 1 = ((b - a).toNat : Int) := by rw [rangeSize_one]; split <;> omega
  refine wpAny_pyIter_range hr (small_one ha ha' hb hb') (its_walks hA g rfl (fun A' hA' => Walks.range hA' s.heap.objs.size a 1 (b - a).toNat) (fun b h => .inl (List.mem_singleton.mp h)) ?_ (fun i v x h1 h2 => ?_) ?_ fun A' s' i v Q st hQ => by rw [ht]; exact wpAny_pure hQ)
  · simp [intsL]
  · obtain ⟨t, rfl⟩ := h1
    unfold intsL at h2
    rw [List.getElem?_map, Option.map_eq_some_iff] at h2
    obtain ⟨k, h3, rfl⟩ := h2
    have hi : i < (b - a).toNat := by
      have := (List.getElem?_eq_some_iff.mp h3).1
      simpa using this
    rw [List.getElem?_range hi] at h3
    cases h3
    rw [Int.mul_one]; exact .int _ _
  · rw [e1]
    have := Heap.get?_push_size s.heap (o := { cls := .type "range_iterator", data := .fields #[rawInt a, rawInt ((b - a).toNat : Int), rawInt 1] }) rfl
    simpa using this

noncomputable def r62 (a : Int) : Bool := decide (-(2 ^ 62) ≤ a) && decide (a < 2 ^ 62)
theorem r62_of {a : Int} (h : r62 a = true) : -(2 ^ 62) ≤ a ∧ a < 2 ^ 62 := by
  unfold r62 at h
  rw [Bool.and_eq_true, decide_eq_true_iff, decide_eq_true_iff] at h; exact h
noncomputable def rangeI (f : List Sl → Option MV) (ρ : List Sl) : Option (List MV) := match f ρ with
  | some (.int n) => if r62 n then some (intsL 0 n.toNat) else none
  | _ => none
noncomputable def range2I (f g : List Sl → Option MV) (ρ : List Sl) : Option (List MV) := match f ρ, g ρ with
  | some (.int a), some (.int b) => if r62 a && r62 b then some (intsL a (b - a).toNat) else none
  | _, _ => none
set_option tactic.hygienic true in
theorem ItS.range {tgt e : Expr} {np pos : Pos} {f : List Sl → Option MV} (hC : C.Ok) (ht : TgtN tgt) (hk : Φ.kind "range" = some .globalImplicit) (hv : Glo C "range" (.type "range")) (he : EvH C Φ ℓ e f)
    (hs : ∀ env, starEach [e] env = [(false, eval e env)]) : ItS C Φ ℓ tgt (.Call (.Name "range" np) [e] [] pos) (rangeI f) := .mk fun A rm env K₀ H ρ s xs F hf => by
  unfold rangeI at hf
  split at hf
  · next n h1 =>
    split at hf
    · next hr =>
      cases hf
      obtain ⟨h2, h3⟩ := r62_of hr
      refine wpAny_Call_NameR (wp_global hC F hk hv (by decide) ?_)
      rw [hs]
      refine PySem.callWith_type rfl (Calls.evalArgs_plain (Calls.spliced_cons (he.run rm F h1 fun va s₁ ra g₁ F₁ => Calls.spliced_nil ?_)))
      obtain ⟨t, rfl⟩ := ra.isInt
      refine call_range_1 ?_
      have := its_range (A := A) (C := C) rm.hh (tgt := tgt) (s₀ := s) (K := Kof K₀ Φ env H) ht (g₁.then (Late.push (tk := s₁.toks + 1 + 1))) (IsRange.new s₁.heap 0 n 1 s₁.toks t (s₁.toks + 1)) (by decide) (by decide) h2 h3
      rw [Int.sub_zero] at this
      exact this
    · cases hf
  · cases hf
set_option tactic.hygienic true in
theorem ItS.range2 {tgt e e' : Expr} {np pos : Pos} {f g : List Sl → Option MV} (hC : C.Ok) (ht : TgtN tgt) (hk : Φ.kind "range" = some .globalImplicit) (hv : Glo C "range" (.type "range")) (he : EvH C Φ ℓ e f) (he' : EvH C Φ ℓ e' g)
    (hs : ∀ env, starEach [e, e'] env = [(false, eval e env), (false, eval e' env)]) : ItS C Φ ℓ tgt (.Call (.Name "range" np) [e, e'] [] pos) (range2I f g) := .mk fun A rm env K₀ H ρ s xs F hf => by
  unfold range2I at hf
  split at hf
  · next a b h1 h1' =>
    split at hf
    · next hr =>
      cases hf
      rw [Bool.and_eq_true] at hr
      obtain ⟨h2, h3⟩ := r62_of hr.1
      obtain ⟨h4, h5⟩ := r62_of hr.2
      refine wpAny_Call_NameR (wp_global hC F hk hv (by decide) ?_)
      rw [hs]
      refine PySem.callWith_type rfl (Calls.evalArgs_plain (Calls.spliced_cons (he.run rm F h1 fun va s₁ ra g₁ F₁ => Calls.spliced_cons (he'.run rm F₁ h1' fun vb s₂ rb g₂ F₂ => Calls.spliced_nil ?_))))
      obtain ⟨t, rfl⟩ := ra.isInt
      obtain ⟨u, rfl⟩ := rb.isInt
      refine call_range_2 ?_
      exact its_range (A := A) (C := C) rm.hh (tgt := tgt) (s₀ := s) (K := Kof K₀ Φ env H) ht ((g₁.then g₂).then (Late.push (tk := s₂.toks + 1))) (IsRange.new s₂.heap a b 1 t u s₂.toks) h2 h3 h4 h5
    · cases hf
  · cases hf

noncomputable def enumL (xs : List MV) : List MV := xs.zipIdx.map fun p => .tuple [.int p.2, p.1]
theorem enumL_get {xs : List MV} {i : Nat} {x : MV} (h : (enumL xs)[i]? = some x) : ∃ y, xs[i]? = some y ∧ x = .tuple [.int i, y] := by
  unfold enumL at h
  rw [List.getElem?_map, Option.map_eq_some_iff] at h
  obtain ⟨⟨y, k⟩, h1, rfl⟩ := h
  rw [List.getElem?_zipIdx, Option.map_eq_some_iff] at h1
  obtain ⟨w, h2, h3⟩ := h1
  cases h3
  exact ⟨y, h2, by simp⟩
theorem enumL_length (xs : List MV) : (enumL xs).length = xs.length := by simp [enumL]

theorem its_enum {A : Around} (hA : A.handled = none) {elts : List Expr} {k : Nat} {pos : Pos} {s s₀ : Shared} {K : Addr → Prop} {xs : List MV} {h' : Heap} {fp : List Addr} {n : Nat} {P : Nat → Value → Prop} {St₀ : Nat → Heap → Prop} (g : Grow s₀ s)
    (D : ∀ A : Around, A.handled = none → Draws C.prog C.w A s.heap.objs.size fp n P St₀) (hE : IsEnum h' (s.heap.objs.size + 1) s.heap.objs.size 0 .none) (hst : St₀ 0 h') (hsz : h'.objs.size = s.heap.objs.size + 2)
    (hk : ∀ b o, s.heap.get? b = some o → h'.get? b = some o) (hn : n = xs.length) (hef : s.heap.objs.size + 1 ∉ fp) (hif : s.heap.objs.size ∈ fp)
    (hfp : ∀ b ∈ fp, b = s.heap.objs.size ∨ (b < s.heap.objs.size ∧ ¬ K b)) (hP : ∀ i v x, P i v → xs[i]? = some x → Rep s.heap K v x) :
    wp C A (pyIter (.ref (s.heap.objs.size + 1))) (fun it s₂ => Its C A (.Tuple elts k pos) s₀ K (enumL xs) it s₂) { s with heap := h' } := by
  refine wpAny_pyIter_enum (i := 0) hE ?_
  have g1 : Grow s { s with heap := h' } := .heap (tk := s.toks) (fun b o u0 e => hk b o e) (by rw [hsz]; omega)
  have m1 : s.heap.objs.size + 1 ∈ [s.heap.objs.size + 1, s.heap.objs.size] := by simp
  refine ⟨g.then g1, No, (· ∈ [s.heap.objs.size + 1, s.heap.objs.size]), WSt K h' [s.heap.objs.size + 1, s.heap.objs.size] (fun i h => (∃ old, IsEnum h (s.heap.objs.size + 1) s.heap.objs.size i old) ∧ St₀ i h), fun g h => h.elim, fun b h => ?_,
    IterS.ofWalksT hA (fun A' hA' => WalksT.enumerateD (D A'.in1 (show A'.in1.handled = none from hA')) (s.heap.objs.size + 1) (Nat.succ_ne_self _) hef hif) (fun b h => ?_) (fun b h => ?_) ?_ (fun i v x h1 h2 => ?_), rfl, ⟨⟨_, hE⟩, hst⟩, fun b o u0 u1 e => e, Nat.le_refl _⟩
  · rcases List.mem_cons.mp h with h | h
    · subst h; exact Nat.le_succ_of_le g.size
    · rw [List.mem_singleton.mp h]; exact g.size
  · show b < h'.objs.size
    rw [hsz]
    rcases List.mem_cons.mp h with h | h
    · rw [h]; exact Nat.lt_succ_self _
    · rw [List.mem_singleton.mp h]; exact Nat.lt_succ_of_lt (Nat.lt_succ_self _)
  · rcases List.mem_cons.mp h with h | h
    · exact .inl (by simp [h])
    · rcases hfp b h with h | h
      · exact .inl (by simp [h])
      · refine .inr ⟨?_, h.2⟩
        show b < h'.objs.size
        exact Nat.lt_of_lt_of_le h.1 (by rw [hsz]; exact Nat.le_add_right _ _)
  · rw [enumL_length]; exact hn
  · obtain ⟨t, x', hp, rfl⟩ := h1
    obtain ⟨y, h3, rfl⟩ := enumL_get h2
    refine ⟨_, rfl, .cons (.int _ _) (.cons ?_ .nil)⟩
    refine (hP i x' y hp h3).mono (fun b o u0 e => hk b o e) fun b h => ?_
    rcases h with h | h
    · exact .inl h
    · right
      rcases List.mem_cons.mp h with h | h
      · rw [h]; exact Nat.le_succ _
      · rw [List.mem_singleton.mp h]; exact Nat.le_refl _

noncomputable def enumOf : MV → Option (List MV)
  | .list xs => some (enumL xs)
  | .str cs => some (enumL (cs.map fun c => .str [c]))
  | _ => none
noncomputable def enumI (f : List Sl → Option MV) (ρ : List Sl) : Option (List MV) := (f ρ).bind enumOf
set_option tactic.hygienic true in
theorem wp_enumerate {A : Around} (hA : A.handled = none) {elts : List Expr} {k : Nat} {pos : Pos} {s s₀ : Shared} {K : Addr → Prop} {v x : MV} {va : Value} {xs : List MV} (g : Grow s₀ s) (r : Rep s.heap K va x)
    (hx : enumOf x = some xs) :
    wp C A (call (.type "enumerate") [va]) (fun e s₁ => wp C A (pyIter e) (fun it s₂ => Its C A (.Tuple elts k pos) s₀ K xs it s₂) s₁) s := by
  cases x with
  | list ys =>
    cases hx
    cases r with
    | list hl hK ra =>
      rename_i a vs
      have hne : a ≠ s.heap.objs.size := Nat.ne_of_lt hl.lt
      refine call_enumerate_list hl.isList fun h' hE hit hsz hk => ?_
      refine its_enum hA g (fun A' hA' => Draws.list hA' s.heap.objs.size a hne vs.toArray) hE ⟨hit, let ⟨o, ho, q⟩ := hl.isList; ⟨o, hk a o ho, q⟩⟩ hsz hk ?_ ?_ (by simp) (fun b h => ?_) fun i v x h1 h2 => ?_
      · rw [List.size_toArray, ra.length]
      · intro h
        rcases List.mem_cons.mp h with h | h
        · exact Nat.succ_ne_self _ h
        · exact Nat.lt_irrefl _ (Nat.lt_of_lt_of_le hl.lt (by rw [← List.mem_singleton.mp h]; exact Nat.le_succ _))
      · rcases List.mem_cons.mp h with h | h
        · exact .inl h
        · have := List.mem_singleton.mp h
          subst this
          exact .inr ⟨hl.lt, hK⟩
      · rw [List.getElem?_toArray] at h1
        obtain ⟨v', h3, h4⟩ := ra.get h2
        rw [h1] at h3; cases h3; exact h4
  | str cs =>
    cases hx
    obtain ⟨t, rfl⟩ := (RepH.of r).isStr
    refine call_enumerate_str fun h' hE hit hsz hk => ?_
    have fin : ∀ {P : Nat → Value → Prop} {St : Nat → Heap → Prop}, (∀ A : Around, A.handled = Option.none → Draws C.prog C.w A s.heap.objs.size [s.heap.objs.size] cs.toArray.size P St) → St 0 h' → (∀ i v, P i v → ∃ c u, cs.toArray[i]? = some c ∧ v = .str ⟨#[c]⟩ u) →
        wp C A (pyIter (.ref (s.heap.objs.size + 1))) (fun it s₂ => Its C A (.Tuple elts k pos) s₀ K (enumL (cs.map fun c => .str [c])) it s₂) { s with heap := h' } := by
      intro P St D h0 hP
      refine its_enum hA g D hE h0 hsz hk (by simp) (by simp) (by simp) (fun b h => .inl (List.mem_singleton.mp h)) fun i v x h1 h2 => ?_
      obtain ⟨c, u, h3, rfl⟩ := hP i v h1
      rw [List.getElem?_map, Option.map_eq_some_iff] at h2
      obtain ⟨c', h4, rfl⟩ := h2
      have : c = c' := by
        rw [List.getElem?_toArray] at h3
        rw [h3] at h4; exact Option.some.inj h4
      subst this
      exact .str [c] u
    unfold strIterType at hit
    split at hit
    · exact fin (fun A' hA' => Draws.strAscii hA' s.heap.objs.size ⟨cs.toArray⟩ t) hit fun i v h => h
    · exact fin (fun A' hA' => Draws.strWide hA' s.heap.objs.size ⟨cs.toArray⟩ t) hit fun i v h => h
  | _ => cases hx

theorem ItS.enum {elts : List Expr} {k : Nat} {tp : Pos} {e : Expr} {np pos : Pos} {f : List Sl → Option MV} (hC : C.Ok) (hk : Φ.kind "enumerate" = some .globalImplicit) (hv : Glo C "enumerate" (.type "enumerate")) (he : EvS C Φ ℓ e f)
    (hs : ∀ env, starEach [e] env = [(false, eval e env)]) : ItS C Φ ℓ (.Tuple elts k tp) (.Call (.Name "enumerate" np) [e] [] pos) (enumI f) := .mk fun A rm env K₀ H ρ s xs F hf => by
  unfold enumI at hf
  rw [Option.bind_eq_some_iff] at hf
  obtain ⟨x, h1, h2⟩ := hf
  refine wpAny_Call_NameR (wp_global hC F hk hv (by decide) ?_)
  rw [hs]
  refine PySem.callWith_type rfl (Calls.evalArgs_plain (Calls.spliced_cons (he.run rm F h1 fun va s₁ ra g₁ F₁ => Calls.spliced_nil ?_)))
  exact wp_enumerate (v := x) rm.hh g₁ ra h2
end
end Mine
end

section
open PySem PyProof.Rows
set_option linter.unusedVariables false
namespace Mine

noncomputable def testsF (ifs : List Expr) (env : Env) : Sem Bool := forIn ifs true fun c r => if r = true then do let ok ← isTrue c env (eval c env); pure (ForInStep.yield ok) else pure (ForInStep.yield r)
noncomputable def turnOf (e : Expr) (d : Nat) (target iter : Expr) (ifs : List Expr) (act : Sem Unit) (it acc : Value) (env : Env) : Sem Fin :=
  standAt iter.pos >>= fun u0 => pyNext it >>= fun r => match r with
  | none => pure (.done .next)
  | some v => letOwnedTupleGo target it v >>= fun u0 => assign target env v >>= fun u0 => testsF ifs env >>= fun ok =>
    if ok = true then act >>= fun u0 => again (.compLoop e d it acc env) else again (.compLoop e d it acc env)
noncomputable def emitOf (elt : Expr) (acc : Value) (env : Env) : Sem Unit := eval elt env >>= fun x => call (.builtin "list.append") [acc, x] >>= fun u0 => pure ()

theorem compTurn_1 (elt target iter : Expr) (ifs : List Expr) (scope : Scope) (pos : Pos) (it acc : Value) (env : Env) :
    compTurn (.ListComp elt [⟨target, iter, ifs, 0⟩] scope pos) 0 it acc env = turnOf (.ListComp elt [⟨target, iter, ifs, 0⟩] scope pos) 0 target iter ifs (emitOf elt acc env) it acc env := by rfl
noncomputable def innerOf (e : Expr) (iter' : Expr) (acc : Value) (env : Env) : Sem Unit :=
  eval iter' env >>= fun x => standAt iter'.pos >>= fun u0 => foldedSetIterable iter' env x >>= fun x => holding [x] (pyIter x) >>= fun it => runOwn (.compStart e 1 it acc env) env >>= fun u0 => pure ()
theorem compTurn_2 (elt target iter target' iter' : Expr) (ifs ifs' : List Expr) (scope : Scope) (pos : Pos) (it acc : Value) (env : Env) :
    compTurn (.ListComp elt [⟨target, iter, ifs, 0⟩, ⟨target', iter', ifs', 0⟩] scope pos) 0 it acc env =
      turnOf (.ListComp elt [⟨target, iter, ifs, 0⟩, ⟨target', iter', ifs', 0⟩] scope pos) 0 target iter ifs (innerOf (.ListComp elt [⟨target, iter, ifs, 0⟩, ⟨target', iter', ifs', 0⟩] scope pos) iter' acc env) it acc env := by
  unfold turnOf innerOf
  simp only [bind_assoc, pure_bind]
  rfl
theorem compTurn_3 (elt target iter target' iter' : Expr) (ifs ifs' : List Expr) (scope : Scope) (pos : Pos) (it acc : Value) (env : Env) :
    compTurn (.ListComp elt [⟨target, iter, ifs, 0⟩, ⟨target', iter', ifs', 0⟩] scope pos) 1 it acc env =
      turnOf (.ListComp elt [⟨target, iter, ifs, 0⟩, ⟨target', iter', ifs', 0⟩] scope pos) 1 target' iter' ifs' (emitOf elt acc env) it acc env := by rfl

theorem codeAny_compAct {C : Cfg} {A : Around} {elt : Expr} {gens : List Comprehension} {scope : Scope} {pos : Pos} {d : Nat} {it acc : Value} {env : Env} {target iter : Expr} {ifs : List Expr} {act : Sem Unit} {R : Result → Shared → Prop}
    (he : compTurn (.ListComp elt gens scope pos) d it acc env = turnOf (.ListComp elt gens scope pos) d target iter ifs act it acc env) (I : Nat → Shared → Prop)
    (turn : ∀ n s, I n s → wp C A (pyNext it) (fun r s₁ => match r with
      | none => R (.ok .next) s₁
      | some v => wp C A (letOwnedTupleGo target it v) (fun u0 s₂ => wp C A (assign target env v) (fun u0 s₃ => wp C A (testsF ifs env) (fun ok s₄ =>
          if ok = true then wp C A act (fun u0 s₅ => ∃ m, m < n ∧ I m s₅) s₄ else ∃ m, m < n ∧ I m s₄) s₃) s₂) s₁) s) (n : Nat) {s : Shared} (h : I n s) :
    codeAny (model C.prog C.w) A (.compLoop (.ListComp elt gens scope pos) d it acc env) R s := by
  refine codeAny_loop rfl I (fun n s hI => ?_) n h
  show wpAny _ A ((compTurn (.ListComp elt gens scope pos) d it acc env).onRaise (fun x => do noteFrame x env; theTreesLotGoes x)) _ _ s
  refine wpAny_noted ?_
  rw [he]
  unfold turnOf
  refine wpAny_bind (wpAny_standAt (wpAny_bind (wpAny_mono (turn n s hI) (fun r s₁ h₁ => ?_) fun u0 u1 h' => h'.elim)))
  cases r with
  | none => exact wpAny_pure h₁
  | some v =>
    refine wpAny_bind (wpAny_mono h₁ (fun u0 s₂ h₂ => wpAny_bind (wpAny_mono h₂ (fun u0 s₃ h₃ => wpAny_bind (wpAny_mono h₃ (fun ok s₄ h₄ => ?_) fun u0 u1 h' => h'.elim)) fun u0 u1 h' => h'.elim)) fun u0 u1 h' => h'.elim)
    cases ok with
    | false => exact wpAny_pure ⟨rfl, h₄⟩
    | true => exact wpAny_bind (wpAny_mono h₄ (fun u0 s₅ h₅ => wpAny_pure ⟨rfl, h₅⟩) fun u0 u1 h' => h'.elim)

structure TsS (C : Cfg) (Φ : Fs) (ℓ : Nat) (ifs : List Expr) (u : List Sl → Option Bool) : Prop where
  mk ::
  go : ∀ A, Rm A ℓ → ∀ env K₀ H ρ s b, Fm C Φ env K₀ H ρ s → u ρ = some b → wp C A (testsF ifs env) (fun b' s' => b' = b ∧ Grow s s') s

section
variable {C : Cfg} {Φ : Fs} {ℓ : Nat}
noncomputable def noIf (_ : List Sl) : Option Bool := some true
theorem TsS.nil : TsS C Φ ℓ [] noIf := .mk fun A rm env K₀ H ρ s b F hf => by
  cases hf; exact wpAny_pure ⟨rfl, Late.refl s⟩
theorem TsS.one {c : Expr} {u : List Sl → Option Bool} (h : TrS C Φ ℓ c u) : TsS C Φ ℓ [c] u := .mk fun A rm env K₀ H ρ s b F hf => by
  unfold testsF
  exact wpAny_tests_one (h.go A rm env K₀ H ρ s b F hf)

noncomputable def compL (t : MV → List Sl → Option (List Sl)) (u : List Sl → Option Bool) (B : List Sl → List MV → Option (List Sl × List MV)) : List MV → List Sl → List MV → Option (List Sl × List MV)
  | [], ρ, acc => some (ρ, acc)
  | x :: xs, ρ, acc => match t x ρ with
    | none => none
    | some ρ₁ => match u ρ₁ with
      | none => none
      | some false => compL t u B xs ρ₁ acc
      | some true => match B ρ₁ acc with
        | none => none
        | some (ρ₂, acc₂) => compL t u B xs ρ₂ acc₂

inductive CPost (C : Cfg) (Φ : Fs) (env : Env) (Kc : Addr → Prop) (H : Nat → Option Addr) (D : Addr) (W : Addr → Prop) (G : Nat → Prop) (s : Shared) (ρ' : List Sl) (acc' : List MV) (s' : Shared) : Prop
  | mk (H' : Nat → Option Addr) (vs' : List Value) : Fm C Φ env Kc H' ρ' s' → (∀ i a, H' i = some a → H i = some a ∨ s.heap.objs.size ≤ a) → Late (fun b => Wr Φ env H b ∨ b = D ∨ W b) G s s' → Ls s'.heap D (List.toArray vs') → RepAll s'.heap (Kof Kc Φ env H') vs' acc' →
    CPost C Φ env Kc H D W G s ρ' acc' s'

structure DOk (C : Cfg) (env : Env) (Kc : Addr → Prop) (D : Addr) : Prop where
  k : Kc D
  t : C.hT.objs.size ≤ D
  c : ∀ x, env.cells.lookup x ≠ some D

structure ActS (C : Cfg) (Φ : Fs) (ℓ : Nat) (act : Value → Env → Sem Unit) (B : List Sl → List MV → Option (List Sl × List MV)) : Prop where
  mk ::
  go : ∀ A, Rm A ℓ → ∀ env Kc H ρ s D vs acc ρ' acc', Fm C Φ env Kc H ρ s → DOk C env Kc D → Ls s.heap D (List.toArray vs) → RepAll s.heap (Kof Kc Φ env H) vs acc → B ρ acc = some (ρ', acc') →
    wp C A (act (.ref D) env) (fun u0 s' => CPost C Φ env Kc H D No No s ρ' acc' s') s

noncomputable def emitB (f : List Sl → Option MV) (ρ : List Sl) (acc : List MV) : Option (List Sl × List MV) := (f ρ).bind fun v => if acc.length < lim then some (ρ, acc ++ [v]) else none
theorem ActS.emit {elt : Expr} {f : List Sl → Option MV} (he : EvS C Φ ℓ elt f) : ActS C Φ ℓ (fun acc env => emitOf elt acc env) (emitB f) := .mk fun A rm env Kc H ρ s D vs acc ρ' acc' F hD hl ra hf => by
  unfold emitB at hf
  rw [Option.bind_eq_some_iff] at hf
  obtain ⟨v, h1, hf⟩ := hf
  split at hf
  · next hlen =>
    cases hf
    have hlen' : acc.length < 16777216 := hlen
    show wp C A (emitOf elt (.ref D) env) _ s
    unfold emitOf
    refine wpAny_bind (he.run rm F h1 fun va s₁ rv g₁ F₁ => wpAny_bind (wp_appendL (hl.at fun o e => g₁.get e) (by rw [ra.length]; omega) fun s₂ hl₂ L₂ => wpAny_pure ?_))
    have F₂ : Fm C Φ env Kc H ρ s₂ := F₁.step L₂ (fun b h => by subst h; exact ⟨hD.k, hD.t, hD.c⟩) fun b h => .inl h
    refine ⟨H, _, F₂, fun u0 u1 h => .inl h, ?_, hl₂, ((g₁.repAll ra).append (.cons rv .nil)).mono (fun b o hb e => L₂.keep b o (fun q => hb (.inl (q ▸ hD.k))) e) fun b h => .inl h⟩
    exact Late.after g₁ (L₂.mono (fun b h => .inl (.inr (.inl h))) fun u0 h => h.elim)
  · cases hf

inductive CompI (C : Cfg) (Φ : Fs) (env : Env) (Kc : Addr → Prop) (H : Nat → Option Addr) (D : Addr) (W : Addr → Prop) (G : Nat → Prop) (s : Shared) (St : Nat → (Addr → Prop) → Shared → Prop) (t : MV → List Sl → Option (List Sl)) (u : List Sl → Option Bool)
    (B : List Sl → List MV → Option (List Sl × List MV)) (xs : List MV) (ρ' : List Sl) (acc' : List MV) (n : Nat) (s₃ : Shared) : Prop
  | mk (i : Nat) (W₁ : Addr → Prop) (H₁ : Nat → Option Addr) (ρ₁ : List Sl) (vs₁ : List Value) (acc₁ : List MV) : i + n = xs.length → St i W₁ s₃ → Fm C Φ env (fun b => Kc b ∨ W₁ b) H₁ ρ₁ s₃ → Late (fun b => Wr Φ env H b ∨ b = D ∨ W b) G s s₃ →
    (∀ j a, H₁ j = some a → H j = some a ∨ s.heap.objs.size ≤ a) → Ls s₃.heap D (List.toArray vs₁) → RepAll s₃.heap (Kof (fun b => Kc b ∨ W₁ b) Φ env H₁) vs₁ acc₁ → compL t u B (xs.drop i) ρ₁ acc₁ = some (ρ', acc') →
    (∀ b, W₁ b → W b ∨ s.heap.objs.size ≤ b) → CompI C Φ env Kc H D W G s St t u B xs ρ' acc' n s₃
set_option tactic.hygienic true in
theorem comp_loop {elt : Expr} {gens : List Comprehension} {scope : Scope} {pos : Pos} {d : Nat} {target iter : Expr} {ifs : List Expr} {act : Value → Env → Sem Unit} {t : MV → List Sl → Option (List Sl)} {u : List Sl → Option Bool}
    {B : List Sl → List MV → Option (List Sl × List MV)} (hact : ActS C Φ ℓ act B) (ht : AsT C Φ ℓ target t) (hu : TsS C Φ ℓ ifs u)
    (he : ∀ it acc env, compTurn (.ListComp elt gens scope pos) d it acc env = turnOf (.ListComp elt gens scope pos) d target iter ifs (act acc env) it acc env)
    {A : Around} (rm : Rm A ℓ) {env : Env} {K Kc W : Addr → Prop} {G : Nat → Prop} {St : Nat → (Addr → Prop) → Shared → Prop} {H : Nat → Option Addr} {ρ ρ' : List Sl} {s : Shared} {D : Addr} {vs : List Value} {acc acc' xs : List MV} {it : Value} {n₀ : Nat}
    (F : Fm C Φ env (fun b => Kc b ∨ W b) H ρ s) (hD : DOk C env Kc D) (hl : Ls s.heap D (List.toArray vs)) (ra : RepAll s.heap (Kof (fun b => Kc b ∨ W b) Φ env H) vs acc) (I : IterS C A target it n₀ K G xs St) (hst : St 0 W s)
    (hDW : ∀ b, W b → b ≠ D) (hDn : (n₀ ≤ D ∨ K D))
    (hK : ∀ b, Kof Kc Φ env H b → K b ∨ n₀ ≤ b) (hWf : ∀ b, W b → C.hT.objs.size ≤ b ∧ ∀ x, env.cells.lookup x ≠ some b) (hn₀ : n₀ ≤ s.heap.objs.size)
    (hf : compL t u B xs ρ acc = some (ρ', acc')) :
    codeAny (model C.prog C.w) A (.compLoop (.ListComp elt gens scope pos) d it (.ref D) env) (fun r s' => r = .ok .next ∧ CPost C Φ env Kc H D W G s ρ' acc' s') s := by
  have hDlt : ∀ {s : Shared} {vs : List Value}, Ls s.heap D vs.toArray → D < s.heap.objs.size := fun h => h.lt
  refine codeAny_compAct (he it (.ref D) env) (fun n s₃ => CompI C Φ env Kc H D W G s St t u B xs ρ' acc' n s₃) ?_ xs.length
    ⟨0, W, H, ρ, vs, acc, by omega, hst, F, Late.refl s, fun u0 u1 h => .inl h, hl, ra, by rw [List.drop_zero]; exact hf, fun b h => .inl h⟩
  intro n s₃ hI
  obtain ⟨i, W₁, H₁, ρ₁, vs₁, acc₁, hin, hst₁, F₃, L₃, hh₃, hl₃, ra₃, hf₃, hW₁⟩ := hI
  have hsz₃ : n₀ ≤ s₃.heap.objs.size := Nat.le_trans hn₀ L₃.size
  have hW₁D : ∀ b, W₁ b → b ≠ D := fun b h e => (hW₁ b h).elim (fun q => hDW b q e) fun q => Nat.lt_irrefl _ (Nat.lt_of_lt_of_le (e ▸ hl.lt) q)
  rcases hx : xs[i]? with _ | x
  · have hi0 : i = xs.length := by
      have := List.getElem?_eq_none_iff.mp hx
      omega
    subst hi0
    rw [List.drop_length] at hf₃
    cases hf₃
    refine wp_mono (I.done W₁ s₃ hst₁ F₃.bare F₃.keepT F₃.tsz hsz₃) fun r s₄ q => ?_
    obtain ⟨rfl, L₄⟩ := q
    have F₄ : Fm C Φ env Kc H₁ _ s₄ := (F₃.step (K₁ := fun b => Kc b ∨ W₁ b) L₄ (fun b h => ⟨.inr h, (hW₁ b h).elim (fun q => (hWf b q).1) fun q => Nat.le_trans F.tsz q, fun x e => (hW₁ b h).elim (fun q => (hWf b q).2 x e) fun q => Nat.lt_irrefl _ (Nat.lt_of_lt_of_le (F.celLt e) q)⟩) fun b h => .inl h).less fun b h => .inl h
    refine ⟨rfl, H₁, vs₁, F₄, hh₃, L₃.trans L₄ (fun b h => (hW₁ b h).imp (fun q => .inr (.inr q)) id) (fun g h => .inl h), hl₃.at fun o e => L₄.keep D o (fun q => hW₁D D q rfl) e, ra₃.mono (fun b o hb e => L₄.keep b o (fun q => hb (.inl (.inr q))) e) fun b h => .inl (h.imp .inl id)⟩
  · have hlt := (List.getElem?_eq_some_iff.mp hx).1
    have hd : xs.drop i = x :: xs.drop (i + 1) := by
      rw [List.drop_eq_getElem_cons hlt]
      congr 1
      exact (List.getElem?_eq_some_iff.mp hx).2
    rw [hd, compL] at hf₃
    have kof : ∀ b, Kof (fun b => Kc b ∨ W₁ b) Φ env H₁ b → (K b ∨ W₁ b ∨ n₀ ≤ b) ∧ b < s₃.heap.objs.size := fun b h => by
      refine ⟨?_, F₃.kLt h⟩
      rcases h with (h | h) | h
      · exact (hK b (.inl h)).imp id .inr
      · exact .inr (.inl h)
      · rcases Wr.back hh₃ h with q | q
        · exact (hK b (.inr q)).imp id .inr
        · exact .inr (.inr (Nat.le_trans hn₀ q))
    refine wp_mono (I.next i W₁ s₃ x _ hst₁ F₃.bare F₃.keepT F₃.tsz hx kof hsz₃) fun r s₄ q => ?_
    obtain ⟨v, rfl, q⟩ := q
    refine wp_mono q fun u0 s₅ q => ?_
    obtain ⟨W₂, hst₂, hW₂, rv, L₅⟩ := q
    have F₅ : Fm C Φ env (fun b => Kc b ∨ W₂ b) H₁ ρ₁ s₅ := F₃.step L₅ (fun b h => ⟨.inr h, (hW₁ b h).elim (fun q => (hWf b q).1) fun q => Nat.le_trans F.tsz q, fun x e => (hW₁ b h).elim (fun q => (hWf b q).2 x e) fun q => Nat.lt_irrefl _ (Nat.lt_of_lt_of_le (F.celLt e) q)⟩) fun b h => h.elim (fun q => .inl (.inl q)) fun q => (hW₂ b q).imp .inr id
    have hW₂' : ∀ b, W₂ b → W b ∨ s.heap.objs.size ≤ b := fun b h => (hW₂ b h).elim (hW₁ b) fun q => .inr (Nat.le_trans L₃.size q.1)
    have L₃₅ : Late (fun b => Wr Φ env H b ∨ b = D ∨ W b) G s s₅ := L₃.trans L₅ (fun b h => (hW₁ b h).imp (fun q => .inr (.inr q)) id) fun g h => .inl h
    have hl₅ : Ls s₅.heap D vs₁.toArray := hl₃.at fun o e => L₅.keep D o (fun q => hW₁D D q rfl) e
    have ra₅ : RepAll s₅.heap (Kof (fun b => Kc b ∨ W₂ b) Φ env H₁) vs₁ acc₁ := ra₃.mono (fun b o hb e => L₅.keep b o (fun q => hb (.inl (.inr q))) e) fun b h => by
      rcases h with (h | h) | h
      · exact .inl (.inl (.inl h))
      · exact (hW₂ b h).imp (fun q => .inl (.inr q)) And.left
      · exact .inl (.inr h)
    have rv' : Rep s₅.heap (Kof (fun b => Kc b ∨ W₂ b) Φ env H₁) v x := rv.mono (fun b o u0 e => e) fun b h => .inl (by
      rcases h with (h | h) | h
      · exact .inl (.inl (.inl h))
      · exact .inr h
      · exact .inl (.inr h))
    split at hf₃
    · cases hf₃
    · next ρ₂ h2 =>
      refine wp_mono (ht.go A rm env _ H₁ ρ₁ s₅ v x ρ₂ F₅ rv' h2) fun u0 s₆ o => ?_
      obtain ⟨H₆, F₆, L₆, hh₆⟩ := o
      have hDw : ¬ Wr Φ env H₁ D := fun h => F₅.wrK0 h (.inl hD.k)
      have hl₆ : Ls s₆.heap D vs₁.toArray := hl₅.at fun o e => L₆.keep D o hDw e
      have ra₆ := F₅.repAll_late L₆ hh₆ ra₅
      have big : s.heap.objs.size ≤ s₅.heap.objs.size := L₃₅.size
      -- after the tests
      have fin : ∀ {H₇ ρ₃ vs₃ acc₃ s₇}, Fm C Φ env (fun b => Kc b ∨ W₂ b) H₇ ρ₃ s₇ → (∀ j a, H₇ j = some a → H₁ j = some a ∨ s₅.heap.objs.size ≤ a) → Late (fun b => Wr Φ env H₁ b ∨ b = D ∨ No b) No s₅ s₇ → Ls s₇.heap D (List.toArray vs₃) →
          RepAll s₇.heap (Kof (fun b => Kc b ∨ W₂ b) Φ env H₇) vs₃ acc₃ → compL t u B (xs.drop (i + 1)) ρ₃ acc₃ = some (ρ', acc') →
          ∃ m, m < n ∧ CompI C Φ env Kc H D W G s St t u B xs ρ' acc' m s₇ := by
        intro H₇ ρ₃ vs₃ acc₃ s₇ F₇ hh₇ L₇ hl₇ ra₇ hf₇
        refine ⟨n - 1, by omega, i + 1, W₂, H₇, ρ₃, vs₃, acc₃, by omega, I.frame (i + 1) W₂ s₅ s₇ hst₂ (fun b o hb e => L₇.keep b o (fun hw => ?_) e) (fun g x hg e => L₇.gens g x (fun h => h) e) L₇.size, F₇,
          L₃₅.trans L₇ (fun b h => ?_) (fun u0 h => h.elim), fun j a h => ?_, hl₇, ra₇, hf₇, hW₂'⟩
        · rcases hw with hw | hw | hw
          · rcases hb with ⟨h1, h2⟩ | hb
            · rcases Wr.back hh₃ hw with q | q
              · exact (hK b (.inr q)).elim h2 fun q => Nat.lt_irrefl _ (Nat.lt_of_lt_of_le h1 q)
              · exact Nat.lt_irrefl _ (Nat.lt_of_lt_of_le h1 (Nat.le_trans hn₀ q))
            · exact F₅.wrK0 hw (.inr hb)
          · subst hw
            rcases hb with ⟨h1, h2⟩ | hb
            · exact hDn.elim (fun q => Nat.lt_irrefl _ (Nat.lt_of_lt_of_le h1 q)) h2
            · rcases hW₂ b hb with q | q
              · exact hW₁D b q rfl
              · exact Nat.lt_irrefl _ (Nat.lt_of_lt_of_le hl₃.lt q.1)
          · exact hw
        · rcases h with h | h | h
          · exact (Wr.back hh₃ h).imp .inl id
          · exact .inl (.inr (.inl h))
          · exact h.elim
        · rcases hh₇ j a h with q | q
          · exact hh₃ j a q
          · exact .inr (Nat.le_trans big q)
      split at hf₃
      · cases hf₃
      · next hub =>
        refine wp_mono (hu.go A rm env _ H₆ ρ₂ s₆ false F₆ hub) fun b s₇ q => ?_
        obtain ⟨rfl, g₇⟩ := q
        simp only [Bool.false_eq_true, if_false]
        exact fin (F₆.grow g₇) hh₆ ((L₆.then g₇).mono (fun b h => .inl (.inl h)) fun u0 h => h.elim) (hl₆.at fun o e => g₇.get e) (g₇.repAll ra₆) hf₃
      · next hub =>
        refine wp_mono (hu.go A rm env _ H₆ ρ₂ s₆ true F₆ hub) fun b s₇ q => ?_
        obtain ⟨rfl, g₇⟩ := q
        simp only [if_true]
        split at hf₃
        · cases hf₃
        · next ρ₃ acc₃ hB =>
          refine wp_mono (hact.go A rm env _ H₆ ρ₂ s₇ D vs₁ acc₁ ρ₃ acc₃ (F₆.grow g₇) ⟨.inl hD.k, hD.t, hD.c⟩ (hl₆.at fun o e => g₇.get e) (g₇.repAll ra₆) hB) fun u0 s₈ q => ?_
          obtain ⟨H₈, vs₈, F₈, hh₈, L₈, hl₈, ra₈⟩ := q
          refine fin F₈ (fun j a h => ?_) (((L₆.then g₇).mono (fun b h => .inl (.inl h)) fun u0 h => h.elim : Late (fun b => Wr Φ env H₁ b ∨ b = D ∨ No b) No s₅ s₇).trans L₈ (fun b h => ?_) fun u0 h => h.elim) hl₈ ra₈ hf₃
          · rcases hh₈ j a h with q | q
            · exact hh₆ j a q
            · exact .inr (Nat.le_trans (Nat.le_trans L₆.size g₇.size) q)
          · rcases h with h | h | h
            · exact (Wr.back hh₆ h).imp .inl id
            · exact .inl (.inr (.inl h))
            · exact h.elim
end
end Mine
end

section
open PySem PyProof.Rows
set_option linter.unusedVariables false
namespace Mine

theorem codeAny_compStart_1 {C : Cfg} {A : Around} {s : Shared} {R : Result → Shared → Prop} {elt target iter target' iter' : Expr} {ifs ifs' : List Expr} {scope : Scope} {pos : Pos} {it acc : Value} {env : Env}
    (h0 : codeAny (model C.prog C.w) A (.compLoop (.ListComp elt [⟨target, iter, ifs, 0⟩, ⟨target', iter', ifs', 0⟩] scope pos) 1 it acc env) R s)
    (h : wp C A (pyIter it) (fun it' s' => codeAny (model C.prog C.w) A (.compLoop (.ListComp elt [⟨target, iter, ifs, 0⟩, ⟨target', iter', ifs', 0⟩] scope pos) 1 it' acc env) R s') s) :
    codeAny (model C.prog C.w) A (.compStart (.ListComp elt [⟨target, iter, ifs, 0⟩, ⟨target', iter', ifs', 0⟩] scope pos) 1 it acc env) R s := by
  refine codeAny_of_tree ?_
  show wpAny _ _ ((compStart (.ListComp elt [⟨target, iter, ifs, 0⟩, ⟨target', iter', ifs', 0⟩] scope pos) 1 it acc env).onRaise (fun x => do noteFrame x env; standAt theWindowsPlace)) _ _ s
  refine wpAny_notedAt ?_
  unfold compStart
  show wpAny _ _ (ask >>= _) _ _ s
  refine wpAny_bind (wpAny_askSetting (wpAny_ite ?_))
  split
  · first
      | exact wpAny_bind (wpAny_pure (wpAny_pure (And.intro rfl h0)))
      | exact wpAny_pure (And.intro rfl h0)
  · first
      | exact wpAny_bind (wpAny_rule (wpAny_bind (wpAny_standAt (wpAny_bind (wpAny_mono h (fun it' s' h' => wpAny_pure (And.intro rfl h')) fun u0 u1 x => x.elim)))))
      | (refine wpAny_bind (wpAny_rule ?_); show wpAny _ _ (standAt iter'.pos >>= _) _ _ s; exact wpAny_bind (wpAny_standAt (wpAny_bind (wpAny_mono h (fun it' s' h' => wpAny_pure (And.intro rfl h')) fun u0 u1 x => x.elim))))

section
variable {C : Cfg} {Φ Φc : Fs} {ℓ : Nat}

noncomputable def innerB (f : List Sl → Option (List MV)) (t : MV → List Sl → Option (List Sl)) (u : List Sl → Option Bool) (B : List Sl → List MV → Option (List Sl × List MV)) (ρ : List Sl) (acc : List MV) : Option (List Sl × List MV) :=
  (f ρ).bind fun xs => compL t u B xs ρ acc
theorem ActS.inner {elt target iter target' iter' : Expr} {ifs ifs' : List Expr} {scope : Scope} {pos : Pos} {f : List Sl → Option (List MV)} {t : MV → List Sl → Option (List Sl)} {u : List Sl → Option Bool} {B : List Sl → List MV → Option (List Sl × List MV)}
    (hi : ItS C Φ ℓ target' iter' f) (hact : ActS C Φ ℓ (fun acc env => emitOf elt acc env) B) (ht : AsT C Φ ℓ target' t) (hu : TsS C Φ ℓ ifs' u) (hs : ∀ env x, foldedSetIterable iter' env x = pure x) :
    ActS C Φ ℓ (fun acc env => innerOf (.ListComp elt [⟨target, iter, ifs, 0⟩, ⟨target', iter', ifs', 0⟩] scope pos) iter' acc env) (innerB f t u B) := .mk fun A rm env Kc H ρ s D vs acc ρ' acc' F hD hl ra hf => by
  unfold innerB at hf
  rw [Option.bind_eq_some_iff] at hf
  obtain ⟨xs, h1, hf⟩ := hf
  show wp C A (innerOf _ iter' (.ref D) env) _ s
  unfold innerOf
  refine wpAny_bind (wp_mono (hi.go A rm env Kc H ρ s xs F h1) fun x s₁ q => wpAny_bind (wpAny_standAt (wpAny_bind (wpAny_of_eq (hs env x) (wpAny_bind (wpAny_holding (wp_mono q fun it s₂ q => ?_)))))))
  obtain ⟨gr, G, W, St, hG, hW, I, hst⟩ := q
  have F₂ : Fm C Φ env (fun b => Kc b ∨ W b) H ρ s₂ := F.step gr (fun u0 h => h.elim) fun b h => h.imp id fun q => ⟨hW b q, I.lt _ _ _ _ hst q⟩
  have hl₂ : Ls s₂.heap D vs.toArray := hl.at fun o e => gr.get e
  have ra₂ : RepAll s₂.heap (Kof (fun b => Kc b ∨ W b) Φ env H) vs acc := ra.mono (fun b o u0 e => gr.get e) fun b h => by
    rcases h with (h | h) | h
    · exact .inl (.inl h)
    · exact .inr (hW b h)
    · exact .inl (.inr h)
  have loop := comp_loop (K := Kof Kc Φ env H) (Kc := Kc) (elt := elt) (gens := [⟨target, iter, ifs, 0⟩, ⟨target', iter', ifs', 0⟩]) (scope := scope) (pos := pos) (d := 1) hact ht hu (fun it acc env => compTurn_3 ..) rm F₂ hD hl₂ ra₂ I hst
    (fun b h e => Nat.lt_irrefl _ (Nat.lt_of_lt_of_le (e ▸ hl.lt) (hW b h))) (.inr (.inl hD.k)) (fun b h => .inl h) (fun b h => ⟨Nat.le_trans F.tsz (hW b h), fun x e => Nat.lt_irrefl _ (Nat.lt_of_lt_of_le (F.celLt e) (hW b h))⟩) (Nat.le_refl _) hf
  refine wpAny_bind (wpAny_runOwn (h := none) (codeAny_compStart_1 (codeAny_mono loop ?_) (I.self 0 W s₂ _ hst (codeAny_mono loop ?_))))
  all_goals
    intro r s' q
    obtain ⟨rfl, H', vs', F', hh, L, hl', ra'⟩ := q
    refine wpAny_pure ⟨H', vs', F', fun i a h => (hh i a h).imp id fun q => Nat.le_trans gr.size q, ?_, hl', ra'⟩
    exact (gr.mono (W' := fun b => Wr Φ env H b ∨ b = D ∨ No b) (G' := No) (fun u0 h => h.elim) fun u0 h => h.elim).trans L (fun b h => by
      rcases h with h | h | h
      · exact .inl (.inl h)
      · exact .inl (.inr (.inl h))
      · exact .inr (hW b h)) fun g h => .inr (hG g h)

noncomputable def closL (cells : List (Str × Addr)) : List (Str × NameKind) → List (Str × Addr) → List (Str × Addr)
  | [], acc => acc
  | (n, k) :: r, acc => closL cells r (if k == .free then (n, (cells.lookup n).getD 0) :: acc else acc)

theorem closL_mem (cells : List (Str × Addr)) : ∀ (names : List (Str × NameKind)) (acc : List (Str × Addr)), (∀ n c, (n, c) ∈ acc → cells.lookup n = some c) → (∀ x ∈ names, x.2 = .free → ∃ c, cells.lookup x.1 = some c) →
    (∀ n c, (n, c) ∈ closL cells names acc → cells.lookup n = some c) ∧ (∀ n c, (n, c) ∈ acc → (n, c) ∈ closL cells names acc) ∧ (∀ x ∈ names, x.2 = .free → ∃ c, (x.1, c) ∈ closL cells names acc)
  | [], acc, h1, _ => ⟨h1, fun u0 u1 h => h, fun x h => by cases h⟩
  | (n, k) :: r, acc, h1, h2 => by
    rw [closL]
    by_cases hk : k = .free
    · subst hk
      simp only [beq_self_eq_true, if_true]
      obtain ⟨c, hc⟩ := h2 (n, .free) (List.mem_cons_self ..) rfl
      obtain ⟨a1, a2, a3⟩ := closL_mem cells r ((n, (cells.lookup n).getD 0) :: acc) (fun m c' h => by
        rcases List.mem_cons.mp h with h | h
        · cases h; rw [hc]; rfl
        · exact h1 m c' h) fun x hx => h2 x (List.mem_cons_of_mem _ hx)
      refine ⟨a1, fun m c' h => a2 m c' (List.mem_cons_of_mem _ h), fun x hx hf => ?_⟩
      rcases List.mem_cons.mp hx with rfl | hx
      · exact ⟨_, a2 _ _ (List.mem_cons_self ..)⟩
      · exact a3 x hx hf
    · have hb : (k == NameKind.free) = false := by simpa using hk
      rw [hb]
      simp only [Bool.false_eq_true, if_false]
      obtain ⟨a1, a2, a3⟩ := closL_mem cells r acc h1 fun x hx => h2 x (List.mem_cons_of_mem _ hx)
      refine ⟨a1, a2, fun x hx hf => ?_⟩
      rcases List.mem_cons.mp hx with rfl | hx
      · exact absurd hf hk
      · exact a3 x hx hf

theorem closureFor_eq {scope : Scope} {env : Env} (h : ∀ x ∈ scope.names, x.2 = .free → ∃ c, env.cells.lookup x.1 = some c) : closureFor scope env = pure (closL env.cells scope.names []) := by
  have key : ∀ (names : List (Str × NameKind)) (acc : List (Str × Addr)), (∀ x ∈ names, x.2 = .free → ∃ c, env.cells.lookup x.1 = some c) →
      (forIn names acc fun (x : Str × NameKind) (cs : List (Str × Addr)) => (if x.2 == .free then do let c ← cellOf env x.1; pure (ForInStep.yield ((x.1, c) :: cs)) else pure (ForInStep.yield cs) : Sem (ForInStep (List (Str × Addr))))) = pure (closL env.cells names acc) := by
    intro names
    induction names with
    | nil => intro acc _; rfl
    | cons x r ih =>
      intro acc hx
      obtain ⟨n, k⟩ := x
      rw [List.forIn_cons, closL]
      by_cases hk : k = .free
      · subst hk
        obtain ⟨c, hc⟩ := hx (n, .free) (List.mem_cons_self ..) rfl
        simp only [beq_self_eq_true, if_true]
        have e : cellOf env n = pure c := by unfold cellOf; rw [hc]
        rw [e]
        simp only [pure_bind, hc, Option.getD_some]
        exact ih _ fun y hy => hx y (List.mem_cons_of_mem _ hy)
      · have hb : (k == NameKind.free) = false := by simpa using hk
        simp only [hb, Bool.false_eq_true, if_false, pure_bind]
        exact ih _ fun y hy => hx y (List.mem_cons_of_mem _ hy)
  have := key scope.names [] h
  unfold closureFor
  refine Eq.trans ?_ this
  simp only [bind_pure]

theorem lookup_mem' {α : Type} : ∀ {l : List (Str × α)} {n : Str} {c : α}, (n, c) ∈ l → ∃ c', l.lookup n = some c' ∧ (n, c') ∈ l
  | (k, v) :: r, n, c, h => by
    rw [List.lookup_cons]
    cases hb : n == k with
    | true => exact ⟨v, rfl, by rw [beq_iff_eq.mp hb]; exact List.mem_cons_self ..⟩
    | false =>
      rcases List.mem_cons.mp h with h | h
      · cases h; simp at hb
      · obtain ⟨c', h1, h2⟩ := lookup_mem' h
        exact ⟨c', h1, List.mem_cons_of_mem _ h2⟩

structure CompOk (Φ Φc : Fs) (scope : Scope) (vars : List Str) (caps : List (Nat × Str)) : Prop where
  fs : FsOk Φc
  wc : Φc.wc = false
  kind : scope.kind = .function
  nocell : ∀ x ∈ scope.names, x.2 ≠ .cell
  locals : ∀ x ∈ scope.names, x.2 = .local → scope.names.lookup x.1 = some .local
  rel : ∀ env, EnvOk Φ env → relabel scope env = Φc.sc
  names : Φc.names = vars ++ caps.map (·.2)
  vars : ∀ x ∈ vars, Φc.kind x = some .local
  caps : ∀ p ∈ caps, Φ.names[p.1]? = some p.2 ∧ Φ.kind p.2 = some .cell ∧ Φc.kind p.2 = some .cell ∧ (p.2, .free) ∈ scope.names
  free : ∀ x ∈ scope.names, x.2 = .free → x.1 ∈ Φ.names ∧ Φ.kind x.1 = some .cell

noncomputable def capS : Sl → Sl
  | .v x => .v x
  | _ => .un
noncomputable def capR (vars : List Str) (caps : List (Nat × Str)) (ρ : List Sl) : List Sl := vars.map (fun u0 => .un) ++ caps.map fun p => capS (ρ.getD p.1 .un)

theorem Fm.cells {env : Env} {K₀ : Addr → Prop} {H : Nat → Option Addr} {ρ : List Sl} {s : Shared} (F : Fm C Φ env K₀ H ρ s) {x : Str} (hx : x ∈ Φ.names) (hk : Φ.kind x = some .cell) : ∃ c, env.cells.lookup x = some c := by
  obtain ⟨i, hi⟩ := List.mem_iff_getElem?.mp hx
  have hl := (List.getElem?_eq_some_iff.mp hi).1
  rw [← F.len] at hl
  obtain ⟨c, _, hc, _⟩ := F.cel i x ρ[i] hi hk (List.getElem?_eq_getElem hl)
  exact ⟨c, hc⟩

theorem Fm.comp {scope : Scope} {vars : List Str} {caps : List (Nat × Str)} {env : Env} {K₀ Kc : Addr → Prop} {H : Nat → Option Addr} {ρ : List Sl} {s s' : Shared} {L : Addr} (F : Fm C Φ env K₀ H ρ s) (O : CompOk Φ Φc scope vars caps) (g : Grow s s')
    (hns : s'.heap.Ns L (fun u0 => none)) (hL : s.heap.objs.size ≤ L) (hKc : ∀ b, Kc b → (Kof K₀ Φ env H b ∨ s.heap.objs.size ≤ b) ∧ b < s'.heap.objs.size) (hKL : ¬ Kc L) :
    Fm C Φc (compEnvC scope (closL env.cells scope.names []) L env) Kc (fun u0 => none) (capR vars caps ρ) s' := by
  have hfree : ∀ x ∈ scope.names, x.2 = .free → ∃ c, env.cells.lookup x.1 = some c := fun x hx hf => F.cells (O.free x hx hf).1 (O.free x hx hf).2
  obtain ⟨m1, m2, m3⟩ := closL_mem env.cells scope.names [] (fun u0 u1 h => by cases h) hfree
  have lk : ∀ n c, (closL env.cells scope.names []).lookup n = some c → env.cells.lookup n = some c := fun n c h => m1 n c (mem_of_lookup h)
  have lk' : ∀ n c, (n, .free) ∈ scope.names → env.cells.lookup n = some c → (closL env.cells scope.names []).lookup n = some c := fun n c hn hc => by
    obtain ⟨c', h⟩ := m3 (n, .free) hn rfl
    obtain ⟨c'', h1, h2⟩ := lookup_mem' h
    rw [h1]
    exact (m1 n c'' h2).symm.trans hc
  have hvl : (capR vars caps ρ).length = Φc.names.length := by unfold capR; rw [O.names]; simp
  have wr : ∀ b, Wr Φc (compEnvC scope (closL env.cells scope.names []) L env) (fun u0 => none) b → b = L := fun b h => by
    rcases h with h | ⟨h, _⟩ | ⟨_, h⟩
    · exact h
    · rw [O.wc] at h; cases h
    · cases h
  refine ⟨⟨O.rel env F.envOk, F.envOk.glob, F.envOk.bi⟩, O.fs, fun b o e => g.get (F.keepT b o e), Nat.le_trans F.tsz g.size, ⟨_, hns, fun i x sl h1 h2 h3 => ?_⟩, fun i x sl h1 h2 h3 => ?_, fun x c hc => ?_, fun x y c h1 h2 => F.cinj x y c (lk x c h1) (lk y c h2),
    fun i a h => (by cases h), fun i j a h => (by cases h), fun b h => (hKc b h).2, hKL, Nat.le_trans F.tsz hL, g.bare F.bare, hvl⟩
  · by_cases hi : i < vars.length
    · unfold capR at h3
      rw [List.getElem?_append_left (by simpa using hi), List.getElem?_map, Option.map_eq_some_iff] at h3
      obtain ⟨_, _, rfl⟩ := h3
      trivial
    · rw [O.names, List.getElem?_append_right (by omega), List.getElem?_map, Option.map_eq_some_iff] at h1
      obtain ⟨p, hp, rfl⟩ := h1
      rw [(O.caps p (List.mem_of_getElem? hp)).2.2.1] at h2; cases h2
  · by_cases hi : i < vars.length
    · rw [O.names, List.getElem?_append_left hi] at h1
      rw [O.vars x (List.mem_of_getElem? h1)] at h2; cases h2
    · rw [O.names, List.getElem?_append_right (by omega), List.getElem?_map, Option.map_eq_some_iff] at h1
      obtain ⟨p, hp, rfl⟩ := h1
      unfold capR at h3
      rw [List.getElem?_append_right (by simpa using hi), List.length_map, List.getElem?_map, hp] at h3
      cases h3
      obtain ⟨h4, h5, h6, h7⟩ := O.caps p (List.mem_of_getElem? hp)
      have hl := (List.getElem?_eq_some_iff.mp h4).1
      rw [← F.len] at hl
      have hr : ρ[p.1]? = some ρ[p.1] := List.getElem?_eq_getElem hl
      obtain ⟨c, ov, hc, ⟨o, ho, hd⟩, hv⟩ := F.cel p.1 p.2 _ h4 h5 hr
      refine ⟨c, ov, lk' _ _ h7 hc, ⟨o, g.get ho, hd⟩, ?_⟩
      have e : ρ.getD p.1 .un = ρ[p.1] := by simp [List.getD, hr]
      show VarRep _ _ _ _ _ (capS (ρ.getD p.1 .un))
      rw [e]
      cases hs : ρ[p.1] with
      | v mv =>
        rw [hs] at hv
        obtain ⟨v, e, r⟩ := hv
        refine ⟨v, e, r.mono (fun b o u0 e => g.get e) fun b h => ?_⟩
        rcases h with h | h
        · exact (hKc b h).1
        · rw [wr b h]; exact .inr hL
      | un => trivial
      | m xs => trivial
      | mm xs l => trivial
  · have hc' := lk x c hc
    obtain ⟨⟨ov, o, ho, hd⟩, h2, h3, h4⟩ := F.ctop x c hc'
    exact ⟨⟨ov, o, g.get ho, hd⟩, fun e => Nat.lt_irrefl _ (Nat.lt_of_lt_of_le (F.celLt hc') (e ▸ hL)), h3, fun h => by rw [O.wc] at h; cases h⟩
end
end Mine
end

section
open PySem PyProof.Rows
set_option linter.unusedVariables false
namespace Mine

section
variable {C : Cfg} {Φ Φc : Fs} {ℓ : Nat}

theorem wp_comp {elt target iter : Expr} {ifs : List Expr} {rest : List Comprehension} {scope : Scope} {pos pos' : Pos} {vars : List Str} {caps : List (Nat × Str)} {act : Value → Env → Sem Unit} {f : List Sl → Option (List MV)}
    {t : MV → List Sl → Option (List Sl)} {u : List Sl → Option Bool} {B : List Sl → List MV → Option (List Sl × List MV)} {use : Option (Value → Sem Unit)} (O : CompOk Φ Φc scope vars caps)
    (hi : ItS C Φ ℓ target iter f) (hact : ActS C Φc ℓ act B) (ht : AsT C Φc ℓ target t) (hu : TsS C Φc ℓ ifs u) (hs : ∀ env x, foldedSetIterable iter env x = pure x)
    (he : ∀ it acc env, compTurn (.ListComp elt (⟨target, iter, ifs, 0⟩ :: rest) scope pos) 0 it acc env = turnOf (.ListComp elt (⟨target, iter, ifs, 0⟩ :: rest) scope pos) 0 target iter ifs (act acc env) it acc env)
    {A : Around} (rm : Rm A ℓ) {env : Env} {K₀ : Addr → Prop} {H : Nat → Option Addr} {ρ ρ' : List Sl} {s : Shared} {xs acc' : List MV} {Q : Value → Shared → Prop} (F : Fm C Φ env K₀ H ρ s) (h1 : f ρ = some xs)
    (h2 : compL t u B xs (capR vars caps ρ) [] = some (ρ', acc'))
    (hQ : ∀ D L vs m s', s.heap.objs.size ≤ D → s.heap.objs.size ≤ L → D ≠ L → Ls s'.heap D (List.toArray vs) → s'.heap.Ns L m → RepAll s'.heap (fun b => (Kof K₀ Φ env H b ∨ b = D) ∨ b = L) vs acc' → Grow s s' →
      compPost (model C.prog C.w) A (fun u0 u1 => False) use Q (.ref D) L (.ok .next) s') :
    wp C A (comprehension (.ListComp elt (⟨target, iter, ifs, 0⟩ :: rest) scope pos) scope env pos' (newList []) false (eval iter env) use) Q s := by
  have hfree : ∀ x ∈ scope.names, x.2 = .free → ∃ c, env.cells.lookup x.1 = some c := fun x hx hf => F.cells (O.free x hx hf).1 (O.free x hx hf).2
  refine wpAny_comprehension_free (g := ⟨target, iter, ifs, 0⟩) (gs := rest) rfl (hs env) (closureFor_eq hfree) O.kind O.locals (wp_mono (hi.go A rm env K₀ H ρ s xs F h1) fun x s₁ q => wp_mono q fun it s₂ q => ?_)
  obtain ⟨gr, G, W, St, hG, hW, I, hst⟩ := q
  refine wpAny_newObj_type (wpAny_newFunctionEnv O.nocell (by intro y hy; cases hy) (fun h₁ hns₁ hsb₁ => ?_) O.kind)
  dsimp only at hns₁ hsb₁ ⊢
  generalize hH2 : s₂.heap.push { cls := .type "list", dict := none, data := .seq ([] : List Value).toArray } = H2 at hns₁ hsb₁ ⊢
  have hC : H2.objs.size = s₂.heap.objs.size + 1 := by rw [← hH2, Heap.size_push]
  have hsz₁ : h₁.objs.size = s₂.heap.objs.size + 2 := by rw [hsb₁.1, Heap.size_push, hC]
  have hDC : s₂.heap.objs.size ≠ H2.objs.size := by rw [hC]; exact Nat.ne_of_lt (Nat.lt_succ_self _)
  have g₁ : ∀ tk, Grow s₂ { s₂ with heap := h₁, toks := tk } := fun tk => .heap (fun b o u0 e => hsb₁.extBut b o (fun q => by
      have h3 := Heap.lt_size e
      rw [q, hC] at h3; exact Nat.lt_irrefl _ (Nat.lt_of_succ_lt h3)) (Heap.get?_push_of_some _ (hH2 ▸ Heap.get?_push_of_some _ e))) (by rw [hsz₁]; exact Nat.le_add_right _ _)
  have hacc : Ls h₁ s₂.heap.objs.size #[] := ⟨0, hsb₁.extBut _ _ hDC (Heap.get?_push_of_some _ (hH2 ▸ Heap.get?_push_size _ rfl))⟩
  generalize htk : s₂.toks + ([] : List (Str × Value)).length = tk
  have gg : Grow s { s₂ with heap := h₁, toks := tk } := gr.then (g₁ tk)
  have hDs : s.heap.objs.size ≤ s₂.heap.objs.size := gr.size
  have hLs : s.heap.objs.size ≤ H2.objs.size := by rw [hC]; exact Nat.le_succ_of_le hDs
  have hLlt : H2.objs.size < h₁.objs.size := by rw [hsz₁, hC]; exact Nat.lt_succ_self _
  have hDlt : s₂.heap.objs.size < h₁.objs.size := by rw [hsz₁]; exact Nat.lt_succ_of_lt (Nat.lt_succ_self _)
  have hWlt : ∀ b, W b → b < s₂.heap.objs.size := fun b h => I.lt _ _ _ _ hst h
  have hst₁ : St 0 W { s₂ with heap := h₁, toks := tk } := I.frame 0 W s₂ _ hst (fun b o u0 e => (g₁ tk).get e) (fun g x u0 e => e) (by show _ ≤ h₁.objs.size; rw [hsz₁]; exact Nat.le_add_right _ _)
  have Fc : Fm C Φc (compEnvC scope (closL env.cells scope.names []) H2.objs.size env) (fun b => (Kof K₀ Φ env H b ∨ b = s₂.heap.objs.size) ∨ W b) (fun u0 => none) (capR vars caps ρ) { s₂ with heap := h₁, toks := tk } := by
    refine F.comp O gg (by simpa using hns₁) hLs (fun b h => ?_) fun h => ?_
    · rcases h with (h | h) | h
      · exact ⟨.inl h, Nat.lt_of_lt_of_le (F.kLt h) gg.size⟩
      · subst h; exact ⟨.inr hDs, hDlt⟩
      · exact ⟨.inr (hW b h), Nat.lt_trans (hWlt b h) hDlt⟩
    · rcases h with (h | h) | h
      · exact Nat.lt_irrefl _ (Nat.lt_of_lt_of_le (F.kLt h) hLs)
      · exact hDC h.symm
      · have := hWlt _ h
        rw [hC] at this; exact Nat.lt_irrefl _ (Nat.lt_of_succ_lt this)
  have hcell : ∀ x c, (compEnvC scope (closL env.cells scope.names []) H2.objs.size env).cells.lookup x = some c → c < s.heap.objs.size := fun x c h => by
    obtain ⟨m1, _, _⟩ := closL_mem env.cells scope.names [] (fun u0 u1 h => by cases h) hfree
    exact F.celLt (m1 x c (mem_of_lookup h))
  have wr : ∀ b, Wr Φc (compEnvC scope (closL env.cells scope.names []) H2.objs.size env) (fun u0 => none) b → b = H2.objs.size := fun b h => by
    rcases h with h | ⟨h, _⟩ | ⟨_, h⟩
    · exact h
    · rw [O.wc] at h; cases h
    · cases h
  have loop := comp_loop (K := Kof K₀ Φ env H) (Kc := fun b => Kof K₀ Φ env H b ∨ b = s₂.heap.objs.size) (elt := elt) (gens := ⟨target, iter, ifs, 0⟩ :: rest) (scope := scope) (pos := pos) (d := 0) hact ht hu he rm Fc
    ⟨.inr rfl, Nat.le_trans F.tsz hDs, fun x e => Nat.lt_irrefl _ (Nat.lt_of_lt_of_le (hcell x _ e) hDs)⟩ hacc .nil I hst₁ (fun b h e => Nat.lt_irrefl _ (e ▸ hWlt b h)) (.inl (Nat.le_refl _))
    (fun b h => by
      rcases h with (h | h) | h
      · exact .inl h
      · subst h; exact .inr (Nat.le_refl _)
      · rw [wr b h, hC]; exact .inr (Nat.le_succ _))
    (fun b h => ⟨Nat.le_trans F.tsz (hW b h), fun x e => Nat.lt_irrefl _ (Nat.lt_of_lt_of_le (hcell x b e) (hW b h))⟩) (g₁ tk).size h2
  have fin : ∀ r s', r = .ok .next ∧ CPost C Φc (compEnvC scope (closL env.cells scope.names []) H2.objs.size env) (fun b => Kof K₀ Φ env H b ∨ b = s₂.heap.objs.size) (fun u0 => none) s₂.heap.objs.size W G { s₂ with heap := h₁, toks := tk } ρ' acc' s' →
      compPost (model C.prog C.w) A (fun u0 u1 => False) use Q (.ref s₂.heap.objs.size) H2.objs.size r s' := by
    intro r s' q
    obtain ⟨rfl, H', vs', F', hh, L, hl', ra'⟩ := q
    obtain ⟨m, hm, _⟩ := F'.loc
    refine hQ _ _ vs' m s' hDs hLs hDC hl' hm (ra'.mono (fun b o u0 e => e) fun b h => .inl ?_) ?_
    · rcases h with (h | h) | h
      · exact .inl (.inl h)
      · exact .inl (.inr h)
      · exact .inr (.inl h)
    · refine (gg.mono (W' := No) (G' := No) (fun u0 h => h.elim) fun u0 h => h.elim).trans L (fun b h => .inr ?_) fun g h => .inr (hG g h)
      rcases h with h | h | h
      · rw [wr b h]; exact hLs
      · subst h; exact hDs
      · exact hW b h
  exact codeAny_compStart_list (codeAny_mono loop fin) (wp_any (I.self 0 W _ _ hst₁ (codeAny_mono loop fin)))

noncomputable def compN (vars : List Str) (caps : List (Nat × Str)) (f : List Sl → Option (List MV)) (t : MV → List Sl → Option (List Sl)) (u : List Sl → Option Bool) (B : List Sl → List MV → Option (List Sl × List MV)) (ρ : List Sl) : Option (List MV) :=
  (f ρ).bind fun xs => (compL t u B xs (capR vars caps ρ) []).map (·.2)
theorem compN_some {vars : List Str} {caps : List (Nat × Str)} {f : List Sl → Option (List MV)} {t : MV → List Sl → Option (List Sl)} {u : List Sl → Option Bool} {B : List Sl → List MV → Option (List Sl × List MV)} {ρ : List Sl} {ys : List MV}
    (h : compN vars caps f t u B ρ = some ys) : ∃ xs ρ', f ρ = some xs ∧ compL t u B xs (capR vars caps ρ) [] = some (ρ', ys) := by
  unfold compN at h
  rw [Option.bind_eq_some_iff] at h
  obtain ⟨xs, h1, h⟩ := h
  rw [Option.map_eq_some_iff] at h
  obtain ⟨⟨ρ', ys'⟩, h2, h3⟩ := h
  cases h3
  exact ⟨xs, ρ', h1, h2⟩

structure CompS (C : Cfg) (Φ Φc : Fs) (ℓ : Nat) (elt target iter : Expr) (ifs : List Expr) (rest : List Comprehension) (scope : Scope) (pos : Pos) (vars : List Str) (caps : List (Nat × Str)) (f : List Sl → Option (List MV))
    (t : MV → List Sl → Option (List Sl)) (u : List Sl → Option Bool) (B : List Sl → List MV → Option (List Sl × List MV)) : Prop where
  O : CompOk Φ Φc scope vars caps
  it : ItS C Φ ℓ target iter f
  as : AsT C Φc ℓ target t
  ts : TsS C Φc ℓ ifs u
  set : ∀ env x, foldedSetIterable iter env x = pure x
  act : ∃ act : Value → Env → Sem Unit, ActS C Φc ℓ act B ∧ ∀ it acc env, compTurn (.ListComp elt (⟨target, iter, ifs, 0⟩ :: rest) scope pos) 0 it acc env = turnOf (.ListComp elt (⟨target, iter, ifs, 0⟩ :: rest) scope pos) 0 target iter ifs (act acc env) it acc env

theorem EvN.comp {elt target iter : Expr} {ifs : List Expr} {rest : List Comprehension} {scope : Scope} {pos : Pos} {vars : List Str} {caps : List (Nat × Str)} {f : List Sl → Option (List MV)} {t : MV → List Sl → Option (List Sl)} {u : List Sl → Option Bool}
    {B : List Sl → List MV → Option (List Sl × List MV)} (h : CompS C Φ Φc ℓ elt target iter ifs rest scope pos vars caps f t u B) : EvN C Φ ℓ (.ListComp elt (⟨target, iter, ifs, 0⟩ :: rest) scope pos) (compN vars caps f t u B) := .mk fun A rm env K₀ H ρ s ys F hf => by
  obtain ⟨xs, ρ', h1, h2⟩ := compN_some hf
  obtain ⟨act, ha, he⟩ := h.act
  rw [eval_ListComp]
  refine wp_comp h.O h.it ha h.as h.ts h.set he rm F h1 h2 fun D L vs m s' hD hL hDL hl hm ra g => ⟨m, hm, fun h' hs' => ?_⟩
  refine ⟨D, vs, rfl, hD, hl.at fun o e => hs'.extBut D o hDL e, ra.mono (fun b o hb e => hs'.extBut b o (fun q => hb (.inr q)) e) fun b h => .inl (.inl h), ?_⟩
  refine ⟨fun b o u0 e => hs'.extBut b o (fun q => Nat.lt_irrefl _ (Nat.lt_of_lt_of_le (q ▸ Heap.lt_size e) hL)) (g.get e), by show _ ≤ h'.objs.size; rw [hs'.1]; exact g.size, g.gens, g.gsize, g.bare, g.os⟩

theorem Rep.avoid {h : Heap} {K : Addr → Prop} {L : Addr} (h1 : ∀ its, ¬ Ls h L its) (h2 : ∀ its, ¬ h.IsTuple L its) {v : Value} {mv : MV} (r : Rep h K v mv) : Rep h (fun b => K b ∨ b = L) v mv := by
  refine Rep.rec (motive_1 := fun v mv u0 => Rep h (fun b => K b ∨ b = L) v mv) (motive_2 := fun vs xs u0 => RepAll h (fun b => K b ∨ b = L) vs xs) .none .bool .int .str .bytes ?_ ?_ .nil ?_ r
  · intro a vs xs hl hk _ ih
    exact .list hl (fun q => q.elim hk fun e => h1 _ (e ▸ hl)) ih
  · intro a vs xs hl hk _ ih
    exact .tuple hl (fun q => q.elim hk fun e => h2 _ (e ▸ hl)) ih
  · intro v mv vs xs _ _ ih1 ih2
    exact .cons ih1 ih2
theorem RepAll.avoid {h : Heap} {K : Addr → Prop} {L : Addr} (h1 : ∀ its, ¬ Ls h L its) (h2 : ∀ its, ¬ h.IsTuple L its) : ∀ {vs : List Value} {xs : List MV}, RepAll h K vs xs → RepAll h (fun b => K b ∨ b = L) vs xs
  | _, _, .nil => .nil
  | _, _, .cons r ra => .cons (r.avoid h1 h2) (ra.avoid h1 h2)

theorem Fm.add {env : Env} {K₀ : Addr → Prop} {H : Nat → Option Addr} {ρ : List Sl} {s : Shared} {L : Addr} (F : Fm C Φ env K₀ H ρ s) (h1 : ∀ its, ¬ Ls s.heap L its) (h2 : ∀ its, ¬ s.heap.IsTuple L its) (hlt : L < s.heap.objs.size)
    (hl : env.locals ≠ L) (hc : ∀ x, env.cells.lookup x ≠ some L) (hh : ∀ i, H i ≠ some L) : Fm C Φ env (fun b => K₀ b ∨ b = L) H ρ s := by
  have hK : ∀ b, Kof (fun b => K₀ b ∨ b = L) Φ env H b → Kof K₀ Φ env H b ∨ b = L := fun b h => by
    rcases h with (h | h) | h
    · exact .inl (.inl h)
    · exact .inr h
    · exact .inl (.inr h)
  have vr : ∀ {i ov sl}, VarRep s.heap (Kof K₀ Φ env H) H i ov sl → VarRep s.heap (Kof (fun b => K₀ b ∨ b = L) Φ env H) H i ov sl := by
    intro i ov sl h
    have one : ∀ {v mv}, Rep s.heap (Kof K₀ Φ env H) v mv → Rep s.heap (Kof (fun b => K₀ b ∨ b = L) Φ env H) v mv := fun r => (r.avoid h1 h2).mono (fun b o u0 e => e) fun b h => .inl (hK b h)
    have all : ∀ {v mv}, RepAll s.heap (Kof K₀ Φ env H) v mv → RepAll s.heap (Kof (fun b => K₀ b ∨ b = L) Φ env H) v mv := fun r => (r.avoid h1 h2).mono (fun b o u0 e => e) fun b h => .inl (hK b h)
    cases sl with
    | un => trivial
    | v mv => obtain ⟨v, e, r⟩ := h; exact ⟨v, e, one r⟩
    | m xs => obtain ⟨a, vs, e, e2, e3, r⟩ := h; exact ⟨a, vs, e, e2, e3, all r⟩
    | mm xs last => obtain ⟨a, vs, b, ws, e, e2, e3, r, e4, e5, r'⟩ := h; exact ⟨a, vs, b, ws, e, e2, e3, all r, e4, e5, all r'⟩
  refine { F with loc := ?_, cel := ?_, ctop := ?_, hd := ?_, k0 := ?_, k0l := ?_ }
  · obtain ⟨m, hn, hm⟩ := F.loc
    exact ⟨m, hn, fun i x sl a b c => vr (hm i x sl a b c)⟩
  · intro i x sl a b c
    obtain ⟨c', ov, e1, e2, e3⟩ := F.cel i x sl a b c
    exact ⟨c', ov, e1, e2, vr e3⟩
  · intro x c h
    obtain ⟨e1, e2, e3, e4⟩ := F.ctop x c h
    exact ⟨e1, e2, e3, fun hw h' => h'.elim (e4 hw) fun e => hc x (e ▸ h)⟩
  · intro i a h
    obtain ⟨e1, e2, e3, e4, e5⟩ := F.hd i a h
    exact ⟨e1, e2, e3, fun h' => h'.elim e4 fun e => hh i (e ▸ h), e5⟩
  · intro b h; exact h.elim (F.k0 b) fun e => e ▸ hlt
  · intro h; exact h.elim F.k0l fun e => hl e

theorem wp_assignComp {elt target iter : Expr} {ifs : List Expr} {rest : List Comprehension} {scope : Scope} {pos p1 spos : Pos} {vars : List Str} {caps : List (Nat × Str)} {f : List Sl → Option (List MV)} {t : MV → List Sl → Option (List Sl)} {u : List Sl → Option Bool}
    {B : List Sl → List MV → Option (List Sl × List MV)} (h : CompS C Φ Φc ℓ elt target iter ifs rest scope pos vars caps f t u B) {x : Str} {i : Nat} (hx : Φ.names[i]? = some x) (hw : Φ.kind x = some .cell → Φ.wc = true)
    (hsw : ∀ env, EnvOk Φ env → swapsWith (.ListComp elt (⟨target, iter, ifs, 0⟩ :: rest) scope pos) (some (.Name x p1)) spos.line env = pure true)
    {A : Around} (rm : Rm A ℓ) {env : Env} {K₀ : Addr → Prop} {H : Nat → Option Addr} {ρ ρ' : List Sl} {s : Shared} {xs ys : List MV} (F : Fm C Φ env K₀ H ρ s) (h1 : f ρ = some xs) (h2 : compL t u B xs (capR vars caps ρ) [] = some (ρ', ys)) (own : Bool) :
    wp C A (exec (.Assign [.Name x p1] (.ListComp elt (⟨target, iter, ifs, 0⟩ :: rest) scope pos) spos) env) (fun fl' s' => FlRep s'.heap K₀ fl' .next ∧ Out C Φ env K₀ H s (ρ.set i (if own then .m ys else .v (.list ys))) s') s := by
  obtain ⟨act, ha, he⟩ := h.act
  rw [exec_Assign_Name_used _ _ _ _ (hsw env F.envOk)]
  refine wpAny_bind (wpAny_standAt (wpAny_bind ?_))
  show wp C A (do let _ ← comprehension (.ListComp elt (⟨target, iter, ifs, 0⟩ :: rest) scope pos) scope env (firstIterPos (⟨target, iter, ifs, 0⟩ :: rest) pos) (newList []) false (eval iter env) (some (assign (.Name x p1) env))) _ s
  refine wpAny_bind (wp_comp (Q := fun u0 s' => wp C A (pure ()) (fun u0 s' => wp C A (pure Flow.next) (fun fl' s' => FlRep s'.heap K₀ fl' .next ∧ Out C Φ env K₀ H s (ρ.set i (if own then .m ys else .v (.list ys))) s') s') s') h.O h.it ha h.as h.ts h.set he rm F h1 h2 fun D L vs m s' hD hL hDL hl hm ra g => ?_)
  show wp C A (assign (.Name x p1) env (.ref D)) _ s'
  have hLne : ∀ b, b < s.heap.objs.size → b ≠ L := fun b h e => Nat.lt_irrefl _ (Nat.lt_of_lt_of_le (e ▸ h) hL)
  -- the store
  have store : ∀ (hA : Option Addr) (sl : Sl), (hA = none ∨ hA = some D) → VarRep s'.heap (Kof K₀ Φ env (hput H i hA none)) (hput H i hA none) i (some (.ref D)) sl →
      wp C A (storeName env x (.ref D)) (fun u0 s'' => ∃ m, s''.heap.Ns L m ∧ ∀ h', Heap.SameBut L s''.heap h' → Out C Φ env K₀ H s (ρ.set i sl) { s'' with heap := h' }) s' := by
    intro hA sl hAD hv
    refine wp_storeL F g hx hw (ha := hA) (hb := none) (fun b e => ?_) (fun u0 e => by cases e) (fun u0 u1 e => by cases e) hv fun s'' F'' L'' L₁ => ?_
    · rcases hAD with rfl | rfl
      · cases e
      · cases e; exact .inr ⟨hD, hl.lt⟩
    · have hLw : ¬ Wr Φ env H L := fun q => hLne L (F.wrLt q) rfl
      have hm'' : s''.heap.Ns L m := hm.at' fun o e => L₁.keep L o hLw e
      have hLlt : L < s''.heap.objs.size := hm''.lt
      have n1 : ∀ its, ¬ Ls s''.heap L its := fun its q => by
        obtain ⟨o, es, ep, e1, e2, _⟩ := hm''
        obtain ⟨n, q⟩ := q
        have q' := q.symm.trans e1
        cases q'; cases e2
      have n2 : ∀ its, ¬ s''.heap.IsTuple L its := fun its q => by
        obtain ⟨o, es, ep, e1, e2, _⟩ := hm''
        obtain ⟨o', q, _, n, hd⟩ := q
        rw [q] at e1; cases e1
        rw [hd] at e2; cases e2
      have hh : ∀ j a, hput H i hA none j = some a → H j = some a ∨ a = D := fun j a q => by
        rcases hput_some q with ⟨_, e⟩ | ⟨_, e⟩ | ⟨_, _, e⟩
        · rcases hAD with rfl | rfl
          · cases e
          · cases e; exact .inr rfl
        · cases e
        · exact .inl e
      have F₂ := F''.add n1 n2 hLlt (hLne _ F.locLt) (fun x e => hLne L (F.celLt e) rfl) fun j q => (hh j L q).elim (fun q => hLne L (F.wrLt (.inr (.inr ⟨j, q⟩))) rfl) fun q => hDL q.symm
      refine ⟨m, hm'', fun h' hs' => ⟨_, (F₂.step (K₁ := K₀) (s' := { s'' with heap := h' }) ((sameBut_late (tk := s''.toks) hs' : Late (fun b => b = L) No s'' { s'' with heap := h', toks := s''.toks })) (fun b e => ?_) fun b h => .inl (.inl h)), ?_, fun j a q => (hh j a q).imp id fun (e : a = D) => (by rw [e]; exact hD)⟩⟩
      · subst e
        exact ⟨.inr rfl, Nat.le_trans F.tsz hL, fun x e => hLne b (F.celLt e) rfl⟩
      · exact L''.trans (sameBut_late (tk := s''.toks) hs' : Late (fun b => b = L) No s'' { s'' with heap := h', toks := s''.toks }) (fun b e => .inr (e ▸ hL)) fun u0 h => h.elim
  have raD : RepAll s'.heap (fun b => Kof K₀ Φ env H b ∨ b = D) vs ys := ra.mono (fun b o u0 e => e) fun b h => .inl (.inl h)
  refine wpAny_assign_Name ?_
  cases own with
  | true =>
    refine wp_mono (store (some D) (.m ys) (.inr rfl) ⟨D, vs, rfl, hput_0 _ _ _ _, hl, raD.mono (fun b o u0 e => e) fun b h => .inl ?_⟩) fun u0 s'' q => ?_
    · rcases h with h | h | h | ⟨j, h⟩
      · exact .inl (.inl h)
      · exact .inl (.inr (.inl h))
      · exact .inl (.inr (.inr (.inl h)))
      · rcases hput_some h with ⟨_, e⟩ | ⟨_, e⟩ | ⟨_, _, e⟩
        · cases e; exact .inr rfl
        · cases e
        · exact .inl (.inr (.inr (.inr ⟨j, e⟩)))
    · obtain ⟨m, h1, h2⟩ := q
      exact ⟨m, h1, fun h' hs' => wpAny_pure (wpAny_pure ⟨trivial, h2 h' hs'⟩)⟩
  | false =>
    have hKb : ∀ b, Kof K₀ Φ env (hput H i none none) b → Kof K₀ Φ env H b := fun b h => by
      rcases h with h | h | h | ⟨j, h⟩
      · exact .inl h
      · exact .inr (.inl h)
      · exact .inr (.inr (.inl h))
      · rcases hput_some h with ⟨_, e⟩ | ⟨_, e⟩ | ⟨_, _, e⟩
        · cases e
        · cases e
        · exact .inr (.inr (.inr ⟨j, e⟩))
    refine wp_mono (store none (.v (.list ys)) (.inl rfl) ⟨_, rfl, .list hl (fun h => Nat.lt_irrefl _ (Nat.lt_of_lt_of_le (F.kLt (hKb _ h)) hD)) (raD.mono (fun b o u0 e => e) fun b h => .inl (.inl (hKb b h)))⟩) fun u0 s'' q => ?_
    obtain ⟨m, h1, h2⟩ := q
    exact ⟨m, h1, fun h' hs' => wpAny_pure (wpAny_pure ⟨trivial, h2 h' hs'⟩)⟩

noncomputable def setCF (own : Bool) (i : Nat) (f : List Sl → Option (List MV)) (ρ : List Sl) : Option (Fl × List Sl) := (f ρ).map fun ys => (.next, ρ.set i (if own then .m ys else .v (.list ys)))
theorem ExS.assignC {elt target iter : Expr} {ifs : List Expr} {rest : List Comprehension} {scope : Scope} {pos p1 spos : Pos} {vars : List Str} {caps : List (Nat × Str)} {f : List Sl → Option (List MV)} {t : MV → List Sl → Option (List Sl)} {u : List Sl → Option Bool}
    {B : List Sl → List MV → Option (List Sl × List MV)} (own : Bool) (h : CompS C Φ Φc ℓ elt target iter ifs rest scope pos vars caps f t u B) {x : Str} {i : Nat} (hx : Φ.names[i]? = some x) (hw : Φ.kind x = some .cell → Φ.wc = true)
    (hsw : ∀ env, EnvOk Φ env → swapsWith (.ListComp elt (⟨target, iter, ifs, 0⟩ :: rest) scope pos) (some (.Name x p1)) spos.line env = pure true) :
    ExS C Φ ℓ (.Assign [.Name x p1] (.ListComp elt (⟨target, iter, ifs, 0⟩ :: rest) scope pos) spos) (setCF own i (compN vars caps f t u B)) := .mk fun A rm env K₀ H ρ s fl ρ' F hf => by
  unfold setCF at hf
  rw [Option.map_eq_some_iff] at hf
  obtain ⟨ys, h1, h2⟩ := hf
  cases h2
  obtain ⟨xs, ρ₁, h3, h4⟩ := compN_some h1
  exact wp_assignComp h hx hw hsw rm F h3 h4 own
end
end Mine
end

section
open PySem PyProof.Rows
set_option linter.unusedVariables false
namespace Mine

noncomputable def FnRec (C : Cfg) (x : Str) (Φ : Fs) (params : List Str) (body : List Stmt) (gen : Bool) : Prop :=
  ∃ a o fd, C.mg x = some (.ref a) ∧ C.hT.get? a = some o ∧ o.data = .func fd ∧ fd.scope = Φ.sc ∧ fd.globals = mainGlobals ∧ fd.builtins = builtinsNs ∧ fd.closure = [] ∧ fd.body = .stmts body ∧ C.hT.CodeRec fd.code fd.qualname ∧
    fd.scope.isCoroutine = false ∧ fd.scope.isGenerator = gen ∧ ∀ vals : List Value, vals.length = params.length → bindArgs fd ⟨vals, []⟩ = pure (params.zip vals)

structure FnOk (Φ : Fs) (params others : List Str) : Prop where
  fs : FsOk Φ
  wc : Φ.wc = true
  names : Φ.names = params ++ others

noncomputable def init (others : List Str) (xs : List MV) : List Sl := xs.map .v ++ others.map fun u0 => .un

theorem bindL_ne (kd : Str → Option NameKind) : ∀ (binds : List (Str × Value)) (m : Str → Option Value) (x : Str), (∀ p ∈ binds, p.1 ≠ x) → bindL kd binds m x = m x
  | [], m, x, _ => rfl
  | (n, v) :: r, m, x, h => by
    rw [bindL, bindL_ne kd r _ x fun p hp => h p (List.mem_cons_of_mem _ hp)]
    split
    · exact if_neg fun (e : x = n) => h (n, v) (List.mem_cons_self ..) e.symm
    · rfl
theorem bindC_ne (kd : Str → Option NameKind) : ∀ (binds : List (Str × Value)) (m : Str → Option Value) (x : Str), (∀ p ∈ binds, p.1 ≠ x) → bindC kd binds m x = m x
  | [], m, x, _ => rfl
  | (n, v) :: r, m, x, h => by
    rw [bindC, bindC_ne kd r _ x fun p hp => h p (List.mem_cons_of_mem _ hp)]
    split
    · rfl
    · exact if_neg fun (e : x = n) => h (n, v) (List.mem_cons_self ..) e.symm
theorem bindL_get (kd : Str → Option NameKind) : ∀ (ps : List Str) (vs : List Value) (m : Str → Option Value) (i : Nat) (x : Str) (v : Value), ps.Nodup → ps[i]? = some x → vs[i]? = some v → kd x = some .local → bindL kd (ps.zip vs) m x = some v
  | [], _, _, _, _, _, _, h, _, _ => by cases h
  | p :: ps, [], _, i, _, _, _, _, h, _ => by cases h
  | p :: ps, w :: vs, m, 0, x, v, hn, h1, h2, hk => by
    simp only [List.getElem?_cons_zero, Option.some.injEq] at h1 h2
    subst h1; subst h2
    rw [List.zip_cons_cons, bindL, if_pos hk, bindL_ne]
    · simp
    · intro q hq e
      exact (List.nodup_cons.mp hn).1 (e ▸ (List.of_mem_zip hq).1)
  | p :: ps, w :: vs, m, i + 1, x, v, hn, h1, h2, hk => by
    rw [List.zip_cons_cons, bindL]
    exact bindL_get kd ps vs _ i x v (List.nodup_cons.mp hn).2 (by simpa using h1) (by simpa using h2) hk
theorem bindC_get (kd : Str → Option NameKind) : ∀ (ps : List Str) (vs : List Value) (m : Str → Option Value) (i : Nat) (x : Str) (v : Value), ps.Nodup → ps[i]? = some x → vs[i]? = some v → kd x = some .cell → bindC kd (ps.zip vs) m x = some v
  | [], _, _, _, _, _, _, h, _, _ => by cases h
  | p :: ps, [], _, i, _, _, _, _, h, _ => by cases h
  | p :: ps, w :: vs, m, 0, x, v, hn, h1, h2, hk => by
    simp only [List.getElem?_cons_zero, Option.some.injEq] at h1 h2
    subst h1; subst h2
    rw [List.zip_cons_cons, bindC, if_neg (by rw [hk]; decide), bindC_ne]
    · simp
    · intro q hq e
      exact (List.nodup_cons.mp hn).1 (e ▸ (List.of_mem_zip hq).1)
  | p :: ps, w :: vs, m, i + 1, x, v, hn, h1, h2, hk => by
    rw [List.zip_cons_cons, bindC]
    exact bindC_get kd ps vs _ i x v (List.nodup_cons.mp hn).2 (by simpa using h1) (by simpa using h2) hk

theorem cellsFrom_acc : ∀ (names : List (Str × NameKind)) (n : Nat) (acc : List (Str × Addr)) (p : Str × Addr), p ∈ acc → p ∈ cellsFrom n names acc
  | [], _, _, _, h => h
  | (x, k) :: r, n, acc, p, h => by
    rw [cellsFrom]
    split
    · exact cellsFrom_acc r _ _ p (List.mem_cons_of_mem _ h)
    · exact cellsFrom_acc r _ _ p h
theorem cellsFrom_mem : ∀ (names : List (Str × NameKind)) (n : Nat) (acc : List (Str × Addr)) (x : Str), (x, .cell) ∈ names → ∃ c, (x, c) ∈ cellsFrom n names acc
  | (y, k) :: r, n, acc, x, h => by
    rw [cellsFrom]
    rcases List.mem_cons.mp h with h | h
    · cases h
      simp only [beq_self_eq_true, if_true]
      exact ⟨n, cellsFrom_acc r _ _ _ (List.mem_cons_self ..)⟩
    · split
      · exact cellsFrom_mem r _ _ x h
      · exact cellsFrom_mem r _ _ x h

section
variable {C : Cfg} {Φ : Fs} {ℓ : Nat}

theorem Fm.call {params others : List Str} {fd : FuncData} {a : Addr} {s s₁ : Shared} {K : Addr → Prop} {vs : List Value} {xs : List MV} (O : FnOk Φ params others) (hsc : fd.scope = Φ.sc) (hg : fd.globals = mainGlobals) (hb : fd.builtins = builtinsNs)
    (hT : ∀ b o, C.hT.get? b = some o → s.heap.get? b = some o) (hTs : C.hT.objs.size ≤ s.heap.objs.size) (bare : AllBare s.gens) (hK : ∀ a, K a → a < s.heap.objs.size) (ra : RepAll s.heap K vs xs) (hlen : xs.length = params.length)
    (x : InCallC s (callEnvC fd s.heap.objs.size a).locals (bindL (callEnvC fd s.heap.objs.size a).kindOf (params.zip vs) fun u0 => none) (callEnvC fd s.heap.objs.size a).cells (bindC (callEnvC fd s.heap.objs.size a).kindOf (params.zip vs) fun u0 => none) s₁) :
    Fm C Φ (callEnvC fd s.heap.objs.size a) K (fun u0 => none) (init others xs) s₁ ∧ Grow s s₁ := by
  have hloc : (callEnvC fd s.heap.objs.size a).locals = s.heap.objs.size := rfl
  have hcel : (callEnvC fd s.heap.objs.size a).cells = cellsFrom (s.heap.objs.size + 1) fd.scope.names [] := rfl
  have hkind : ∀ y, (callEnvC fd s.heap.objs.size a).kindOf y = Φ.kind y := fun y => by show fd.scope.names.lookup y = Φ.sc.names.lookup y; rw [hsc]
  have hlt : s.heap.objs.size < s₁.heap.objs.size := x.toInCall.ns.lt
  have habove : ∀ y c, (callEnvC fd s.heap.objs.size a).cells.lookup y = some c → s.heap.objs.size < c := fun y c h => x.above y c (mem_of_lookup h)
  have gr : Grow s s₁ := by
    obtain ⟨h', tk, e⟩ := x.toInCall.same
    have k := x.toInCall.keep
    rw [e] at k hlt ⊢
    exact .heap (fun b o u0 e => k b o e) (Nat.le_of_lt hlt)
  have pn : params.Nodup := by have := O.fs.nodup; rw [O.names] at this; exact (List.nodup_append.mp this).1
  have wr : ∀ b, Wr Φ (callEnvC fd s.heap.objs.size a) (fun u0 => none) b → s.heap.objs.size ≤ b := fun b h => by
    rcases h with h | ⟨_, y, h⟩ | ⟨_, h⟩
    · exact Nat.le_of_eq h.symm
    · exact Nat.le_of_lt (habove y b h)
    · cases h
  have one : ∀ {v mv}, Rep s.heap K v mv → Rep s₁.heap (Kof K Φ (callEnvC fd s.heap.objs.size a) (fun u0 => none)) v mv := fun r => r.mono (fun b o u0 e => gr.get e) fun b h => h.imp id (wr b)
  have getx : ∀ (i : Nat) (y : Str) (sl : Sl), Φ.names[i]? = some y → (init others xs)[i]? = some sl → sl = .un ∨ ∃ v mv, sl = .v mv ∧ params[i]? = some y ∧ vs[i]? = some v ∧ Rep s.heap K v mv := by
    intro i y sl h1 h2
    unfold init at h2
    by_cases hi : i < params.length
    · rw [List.getElem?_append_left (by rw [List.length_map]; omega), List.getElem?_map, Option.map_eq_some_iff] at h2
      obtain ⟨mv, h3, rfl⟩ := h2
      obtain ⟨v, h4, h5⟩ := ra.get h3
      rw [O.names, List.getElem?_append_left hi] at h1
      exact .inr ⟨v, mv, rfl, h1, h4, h5⟩
    · rw [List.getElem?_append_right (by rw [List.length_map]; omega), List.getElem?_map, Option.map_eq_some_iff] at h2
      obtain ⟨_, _, rfl⟩ := h2
      exact .inl rfl
  refine ⟨⟨⟨hsc, hg, hb⟩, O.fs, fun b o e => gr.get (hT b o e), Nat.le_trans hTs gr.size, ⟨_, x.toInCall.ns, fun i y sl h1 h2 h3 => ?_⟩, fun i y sl h1 h2 h3 => ?_, fun y c hc => ?_, fun y z c h1 h2 => name_of_addr x.apart (mem_of_lookup h1) (mem_of_lookup h2),
    fun i a h => (by cases h), fun i j a h => (by cases h), fun b h => Nat.lt_of_lt_of_le (hK b h) gr.size, fun h => Nat.lt_irrefl _ (hK _ h), hTs, gr.bare bare, ?_⟩, gr⟩
  · rcases getx i y sl h1 h3 with rfl | ⟨v, mv, rfl, h4, h5, r⟩
    · trivial
    · exact ⟨v, bindL_get _ params vs _ i y v pn h4 h5 ((hkind y).trans h2), one r⟩
  · have hm : (y, NameKind.cell) ∈ fd.scope.names := by
      have : fd.scope.names.lookup y = some .cell := (hkind y).trans h2
      exact mem_of_lookup this
    obtain ⟨c₀, hc₀⟩ := cellsFrom_mem fd.scope.names (s.heap.objs.size + 1) [] y hm
    obtain ⟨c, hc, _⟩ := lookup_mem' hc₀
    refine ⟨c, _, hc, x.cell y c hc, ?_⟩
    rcases getx i y sl h1 h3 with rfl | ⟨v, mv, rfl, h4, h5, r⟩
    · trivial
    · exact ⟨v, bindC_get _ params vs _ i y v pn h4 h5 ((hkind y).trans h2), one r⟩
  · exact ⟨⟨_, x.cell y c hc⟩, Nat.ne_of_gt (habove y c hc), Nat.le_trans hTs (Nat.le_of_lt (habove y c hc)), fun u0 h => Nat.lt_irrefl _ (Nat.lt_trans (hK c h) (habove y c hc))⟩
  · unfold init; rw [O.names]; simp [hlen]

noncomputable def runF (params others : List Str) (g : List Sl → Option (Fl × List Sl)) (xs : List MV) : Option MV :=
  if xs.length = params.length then match g (init others xs) with
    | some (.ret v, _) => some v
    | some (.next, _) => some .none
    | _ => none
  else none

set_option tactic.hygienic true in
theorem FnS.of {x : Str} {params others : List Str} {body : List Stmt} {g : List Sl → Option (Fl × List Sl)} (hC : C.Ok) (R : FnRec C x Φ params body false) (O : FnOk Φ params others) (hg : ExsS C Φ ℓ body g) : FnS C (ℓ + 1) x (runF params others g) := by
  obtain ⟨a, o, fd, hmg, ho, hd, hsc, hgl, hbi, hcl, hbody, hcd, hco, hgen, hbind⟩ := R
  refine ⟨a, o, fd, hmg, ho, hd, fun A rm s K vs xs c hT hTs bare hK ra hf => ?_⟩
  unfold runF at hf
  split at hf
  · next hlen =>
    have hvl : vs.length = params.length := ra.length.trans hlen
    refine wpAny_call (codeAny_call_cells rm.lt (hT a o ho) hd ?_ (hcd.keeps hT) hbody (hbind vs hvl) hcl (fun p hp => ?_) (fun s₁ x => ?_) hco hgen (by rw [hsc]; exact O.fs.kind))
    · obtain ⟨mc, h1, h2⟩ := hC.lim
      exact ⟨mc, h1.keeps hT, h2⟩
    · have hmem : p.1 ∈ Φ.names := by rw [O.names]; exact List.mem_append_left _ (List.of_mem_zip hp).1
      rcases O.fs.kinds p.1 hmem with h | h
      · exact .inl (by rw [hsc]; exact h)
      · refine .inr ⟨by rw [hsc]; exact h, ?_⟩
        obtain ⟨c₀, hc₀⟩ := cellsFrom_mem fd.scope.names (s.heap.objs.size + 1) [] p.1 (by rw [hsc]; exact mem_of_lookup h)
        obtain ⟨c, hc, _⟩ := lookup_mem' hc₀
        rw [hc]; rfl
    · obtain ⟨F, gr⟩ := Fm.call O hsc hgl hbi hT hTs bare hK ra hlen x
      have key : ∀ {fl ρ'}, g (init others xs) = some (fl, ρ') → wp C (A.deeper (callEnvC fd s.heap.objs.size a)) (execs body (callEnvC fd s.heap.objs.size a)) (fun fl' s' => FlRep s'.heap K fl' fl ∧ Grow s s') s₁ := by
        intro fl ρ' h
        refine wp_mono (hg.go _ (rm.deeper _) _ K _ _ s₁ fl ρ' F h) fun fl' s' q => ⟨q.1, ?_⟩
        obtain ⟨q1, H', F', L, hh⟩ := q
        refine gr.trans L (fun b h => .inr ?_) fun u0 h => h.elim
        rcases h with h | ⟨_, y, h⟩ | ⟨_, h⟩
        · exact Nat.le_of_eq h.symm
        · exact Nat.le_of_lt (x.above y b (mem_of_lookup h))
        · cases h
      split at hf
      · next v ρ' h =>
        cases hf
        refine wp_any (wp_mono (key h) fun fl' s' q => ?_)
        cases fl' with
        | ret v' => exact q
        | next => exact q.1.elim
        | brk => exact q.1.elim
        | cont => exact q.1.elim
      · next ρ' h =>
        cases hf
        refine wp_any (wp_mono (key h) fun fl' s' q => ?_)
        cases fl' with
        | ret v' => exact q.1.elim
        | next => exact ⟨.none, q.2⟩
        | brk => exact q.1.elim
        | cont => exact q.1.elim
      · cases hf
  · cases hf
end
end Mine
end

section
open PySem PyProof.Rows
set_option linter.unusedVariables false
namespace Mine

noncomputable def compFs (Φ : Fs) (scope : Scope) (vars : List Str) (caps : List (Nat × Str)) : Fs where
  names := vars ++ caps.map (·.2)
  sc := { scope with names := scope.names.map fun (n, k) => if (k == .free && Φ.kind n == some .cell) then (n, .cell) else (n, k) }
  wc := false

noncomputable def nodupB : List Str → Bool
  | [] => true
  | x :: r => !r.contains x && nodupB r
theorem nodupB_ok : ∀ {l : List Str}, nodupB l = true → l.Nodup
  | [], _ => List.nodup_nil
  | x :: r, h => by
    rw [nodupB, Bool.and_eq_true, Bool.not_eq_true'] at h
    refine List.nodup_cons.mpr ⟨fun hm => ?_, nodupB_ok h.2⟩
    rw [List.contains_iff_mem.mpr hm] at h
    exact absurd h.1 (by decide)
noncomputable def fsChk (Φ : Fs) : Bool := (Φ.sc.kind == .function) && nodupB Φ.names && Φ.names.all fun x => (Φ.kind x == some .local || Φ.kind x == some .cell) && !(x == ("__debug__" : Str))
theorem FsOk.of {Φ : Fs} (h : fsChk Φ = true) : FsOk Φ := by
  unfold fsChk at h
  rw [Bool.and_eq_true, Bool.and_eq_true, beq_iff_eq] at h
  obtain ⟨⟨h1, h2⟩, h3⟩ := h
  rw [List.all_eq_true] at h3
  refine ⟨h1, nodupB_ok h2, fun x hx => ?_, fun x hx => ?_⟩
  · have := h3 x hx
    rw [Bool.and_eq_true, Bool.or_eq_true, beq_iff_eq, beq_iff_eq] at this
    exact this.1
  · have := h3 x hx
    rw [Bool.and_eq_true, Bool.not_eq_true'] at this
    exact this.2
noncomputable def fnChk (Φ : Fs) (params others : List Str) : Bool := fsChk Φ && Φ.wc && (Φ.names == params ++ others)
theorem FnOk.of {Φ : Fs} {params others : List Str} (h : fnChk Φ params others = true) : FnOk Φ params others := by
  unfold fnChk at h
  rw [Bool.and_eq_true, Bool.and_eq_true, beq_iff_eq] at h
  exact ⟨FsOk.of h.1.1, h.1.2, h.2⟩

noncomputable def compChk (Φ : Fs) (scope : Scope) (vars : List Str) (caps : List (Nat × Str)) : Bool :=
  fsChk (compFs Φ scope vars caps) && (scope.kind == .function) && (scope.names.all fun x => x.2 != .cell && (x.2 != .local || scope.names.lookup x.1 == some .local) && (x.2 != .free || (Φ.names.contains x.1 && Φ.kind x.1 == some .cell)))
    && (vars.all fun x => (compFs Φ scope vars caps).kind x == some .local)
    && (caps.all fun p => (Φ.names[p.1]? == some p.2) && (Φ.kind p.2 == some .cell) && ((compFs Φ scope vars caps).kind p.2 == some .cell) && scope.names.contains (p.2, .free))
theorem CompOk.of {Φ : Fs} {scope : Scope} {vars : List Str} {caps : List (Nat × Str)} (O : FsOk Φ) (h : compChk Φ scope vars caps = true) : CompOk Φ (compFs Φ scope vars caps) scope vars caps := by
  unfold compChk at h
  rw [Bool.and_eq_true, Bool.and_eq_true, Bool.and_eq_true, Bool.and_eq_true, beq_iff_eq] at h
  obtain ⟨⟨⟨⟨h1, h2⟩, h3⟩, h4⟩, h5⟩ := h
  rw [List.all_eq_true] at h3 h4 h5
  have h3' : ∀ x ∈ scope.names, x.2 ≠ .cell ∧ (x.2 = .local → scope.names.lookup x.1 = some .local) ∧ (x.2 = .free → x.1 ∈ Φ.names ∧ Φ.kind x.1 = some .cell) := fun x hx => by
    have := h3 x hx
    rw [Bool.and_eq_true, Bool.and_eq_true, bne_iff_ne] at this
    obtain ⟨⟨a, b⟩, c⟩ := this
    refine ⟨a, fun e => ?_, fun e => ?_⟩
    · rw [e] at b; simpa using b
    · rw [e] at c; simpa using c
  refine ⟨FsOk.of h1, rfl, h2, fun x hx => (h3' x hx).1, fun x hx => (h3' x hx).2.1, fun env E => ?_, rfl, fun x hx => ?_, fun p hp => ?_, fun x hx => (h3' x hx).2.2⟩
  · unfold relabel compFs
    have e1 : (env.scope.kind == ScopeKind.function) = true := by rw [E.scope, O.kind]; rfl
    have e2 : ∀ n, env.kindOf n = Φ.kind n := fun n => by unfold Env.kindOf; rw [E.scope]; rfl
    simp only [e1, e2, Bool.and_true]
  · have := h4 x hx; rwa [beq_iff_eq] at this
  · have := h5 p hp
    rw [Bool.and_eq_true, Bool.and_eq_true, Bool.and_eq_true, beq_iff_eq, beq_iff_eq, beq_iff_eq, List.contains_iff_mem] at this
    exact ⟨this.1.1.1, this.1.1.2, this.1.2, this.2⟩

theorem notInter {Φ : Fs} (O : FsOk Φ) (env : Env) (E : EnvOk Φ env) : interactive env = false := by
  unfold interactive
  rw [E.scope, O.kind]; rfl

noncomputable def swapB (Φ : Fs) (scope : Scope) (t : Str) (a b : Nat) : Bool := Φ.kind t == some .local && a == b && !(scope.names.any fun (n, k) => n == t && (k == .local || k == .cell))
theorem swaps_is {Φ : Fs} (O : FsOk Φ) {elt : Expr} {gens : List Comprehension} {scope : Scope} {pos p1 : Pos} {x : Str} {line : Nat} (env : Env) (E : EnvOk Φ env) :
    swapsWith (.ListComp elt gens scope pos) (some (.Name x p1)) line env = pure (swapB Φ scope x p1.line pos.line) := by
  unfold swapsWith swapB Env.blockKind Env.kindOf
  rw [E.scope, O.kind]
  rfl
theorem swaps_yes {Φ : Fs} (O : FsOk Φ) {elt : Expr} {gens : List Comprehension} {scope : Scope} {pos p1 : Pos} {x : Str} {line : Nat} (h : swapB Φ scope x p1.line pos.line = true) :
    ∀ env, EnvOk Φ env → swapsWith (.ListComp elt gens scope pos) (some (.Name x p1)) line env = pure true := fun env E => by rw [swaps_is O env E, h]
theorem swaps_no {Φ : Fs} (O : FsOk Φ) {elt : Expr} {gens : List Comprehension} {scope : Scope} {pos p1 : Pos} {x : Str} {line : Nat} (h : swapB Φ scope x p1.line pos.line = false) :
    ∀ env, EnvOk Φ env → swapsWith (.ListComp elt gens scope pos) (some (.Name x p1)) line env = pure false := fun env E => by rw [swaps_is O env E, h]

section
variable {C : Cfg} {Φ : Fs} {ℓ : Nat}
theorem EvS.neg1 {k : Nat} {p pos : Pos} : EvS C Φ ℓ (.UnaryOp .USub (.Constant (.int 1) k p) pos) (fun u0 => some (.int (-1))) := .mk fun A rm env K₀ H ρ s c F hf => by
  cases hf
  exact (EvS.neg (f := fun u0 => some (.int 1)) EvS.int).go A rm env K₀ H ρ s _ F rfl
end

structure Bi (C : Cfg) : Prop where
  abs : Glo C "abs" (.builtin "abs")
  int : Glo C "int" (.type "int")
  divmod : Glo C "divmod" (.builtin "divmod")
  len : Glo C "len" (.builtin "len")
  ord : Glo C "ord" (.builtin "ord")
  chr : Glo C "chr" (.builtin "chr")
  sum : Glo C "sum" (.builtin "sum")
  bytes : Glo C "bytes" (.type "bytes")
  max : Glo C "max" (.builtin "max")
  range : Glo C "range" (.type "range")
  enumerate : Glo C "enumerate" (.type "enumerate")
  sorted : Glo C "sorted" (.builtin "sorted")

noncomputable def bodyIn (p : Program) (n : Nat) : List Stmt := match p.main.body[n]? with
  | some (.FunctionDef _ _ b _ _ _ _ _ _ _) => b
  | _ => []
noncomputable def scopeIn (p : Program) (n : Nat) : Scope := match p.main.body[n]? with
  | some (.FunctionDef _ _ _ _ _ _ s _ _ _) => s
  | _ => { kind := .module, names := [], isGenerator := false, isCoroutine := false }
end Mine
end

section
open PySem PyProof.Rows
set_option linter.unusedVariables false
namespace Mine

noncomputable def FnG (C : Cfg) (k : Nat) (x : Str) (γ : List MV → Option (List MV)) : Prop :=
  ∃ a o fd, C.mg x = some (.ref a) ∧ C.hT.get? a = some o ∧ o.data = .func fd ∧
    ∀ A, Rm A k → ∀ s (K : Addr → Prop) vs xs ys, (∀ b o, C.hT.get? b = some o → s.heap.get? b = some o) → C.hT.objs.size ≤ s.heap.objs.size → AllBare s.gens → (∀ a, K a → a < s.heap.objs.size) → RepAll s.heap K vs xs → γ xs = some ys →
      ∀ elts n tp, wp C A (call (.ref a) vs) (fun v s₁ => wp C A (pyIter v) (fun it s₂ => Its C A (.Tuple elts n tp) s K ys it s₂) s₁) s

theorem Its.after {C : Cfg} {A : Around} {tgt : Expr} {s s₀ : Shared} {K : Addr → Prop} {xs : List MV} {it : Value} {s₂ : Shared} (g : Grow s₀ s) (h : Its C A tgt s K xs it s₂) : Its C A tgt s₀ K xs it s₂ := by
  obtain ⟨gr, G, W, St, hG, hW, I, hst⟩ := h
  exact ⟨g.then gr, G, W, St, fun x h => Nat.le_trans g.gsize (hG x h), fun b h => Nat.le_trans g.size (hW b h), I, hst⟩

section
variable {C : Cfg} {Φ : Fs} {ℓ : Nat}
noncomputable def genI (γ : List MV → Option (List MV)) (f : List Sl → Option MV) (ρ : List Sl) : Option (List MV) := (f ρ).bind fun v => γ [v]
theorem ItS.gen {elts : List Expr} {n : Nat} {tp : Pos} {x : Str} {np pos : Pos} {e : Expr} {f : List Sl → Option MV} {γ : List MV → Option (List MV)} {k : Nat} (hC : C.Ok) (hk : Φ.kind x = some .globalImplicit) (hd : (x == ("__debug__" : Str)) = false)
    (hf : FnG C k x γ) (he : EvS C Φ ℓ e f) (hs : ∀ env, starEach [e] env = [(false, eval e env)]) (h1 : k ≤ ℓ) : ItS C Φ ℓ (.Tuple elts n tp) (.Call (.Name x np) [e] [] pos) (genI γ f) := .mk fun A rm env K₀ H ρ s ys F hf' => by
  unfold genI at hf'
  rw [Option.bind_eq_some_iff] at hf'
  obtain ⟨v, h2, h3⟩ := hf'
  obtain ⟨a, o, fd, hmg, ho, hdt, hcall⟩ := hf
  refine wpAny_Call_NameR (wp_global hC F hk (.inl hmg) hd ?_)
  rw [hs]
  refine Calls.callWith_function (o := o) (fd := fd) (Calls.evalArgs_plain (Calls.spliced_cons (he.run rm F h2 fun va s₁ ra g₁ F₁ => Calls.spliced_nil ⟨⟨F₁.keepT _ _ ho, hdt⟩, ?_⟩)))
  refine wp_mono (hcall A (rm.mono h1) s₁ _ [va] [v] ys F₁.keepT F₁.tsz F₁.bare (fun z h => F₁.kLt h) (.cons ra .nil) h3 elts n tp) fun v' s₂ q => wp_mono q fun it s₃ q => q.after g₁
end

theorem wp_nextGen {C : Cfg} {A : Around} {s : Shared} {a : Addr} {g n : Nat} {gs : GenState} {P : Nat → Shared → Shared → Prop} {Y : Protocol} {Q : Option Value → Shared → Prop} (hh : A.handled = none)
    (hl : s.heap.NoLimit) (hroom : A.depth < recursionLimit) (hg : s.heap.IsGen a g) (hgs : s.gens[g]? = some gs)
    (hgo : gs.Goes (model C.prog C.w) A.in1 (fun n s₀ r s₁ => r = .ok (.ret .none) ∧ P n s₀ s₁) Y n (.send .none) (s.setGen g .running))
    (hY : ∀ v s₁ gs', gs'.bare = true → Y (n - 1) (s.setGen g .running) v s₁ (fun r' s'' => match n with
        | 0 => False
        | m + 1 => gs'.Goes (model C.prog C.w) A.in1 (fun n s₀ r s₁ => r = .ok (.ret .none) ∧ P n s₀ s₁) Y m r' s'') → Q (some v) (s₁.setGen g gs'))
    (hP : ∀ s₁, P n (s.setGen g .running) s₁ → ∀ h', (∀ b o, s₁.heap.get? b = some o → h'.get? b = some o) → Q none { s₁.setGen g .finished with heap := h' }) :
    wp C A (pyNext (.ref a)) Q s := by
  unfold pyNext
  refine wpAny_bind (wpAny_attempt (wpAny_callSpecial?_slot (name := Str.ofString "__next__") hg.typeIs slot_gen_next
    (wpAny_call_entry slot_gen_next hg.typeIs entry_gen_next ?_ (args_gen_next _))))
  show wpAny _ _ (Builtin.Generator.genWake (.ref a) (.send .none)) _ _ s
  unfold Builtin.Generator.genWake
  refine wpAny_bind (wpAny_holding (wpAny_genNumber hg (wpAny_bind (wpAny_genState hgs ?_))))
  cases gs with
  | running => exact hgo.elim
  | finished => exact hgo.elim
  | _ =>
    refine wpAny_bind (wpAny_roomToWake hl hroom ?_)
    show wpAny _ _ (.resume g (.send .none) [] _) _ _ s
    refine wpAny_resumeQ hgs hgo (fun x s₁ hx => ?_) (fun v s₁ gs' hb hv => ?_)
    · obtain ⟨rfl, hp⟩ := hx
      show wpAny _ _ (newExc (.type "StopIteration") [] >>= _) _ _ _
      refine wpAny_bind ?_
      simp only [newExc, newTuple]
      refine wpAny_bind (wpAny_newObj_type ?_ (by size_fits))
      refine wpAny_bind (m := firstArgMember _ _) (wpAny_of_eq (a := Value.none) (by first | rfl | (simp only [firstArgMember]; rfl)) ?_)
      refine wpAny_newObj_type ?_ (by size_fits)
      simp only [raiseNew]
      refine wpAny_bind (wpAny_bind (wpAny_handled ?_))
      rw [show A.in1.handled = none from hh]
      refine wpAny_throw ?_
      refine wpAny_bind (wpAny_isInstance (T := "StopIteration") (b := true) ⟨_, Heap.get?_push_size _ rfl, rfl⟩ isSubtype_stop ?_)
      exact wpAny_pure (hP s₁ hp _ fun b o hb => Heap.get?_push_of_some _ (Heap.get?_push_of_some _ hb))
    · exact wpAny_pure ⟨v, rfl, wpAny_pure (hY v s₁ gs' hb hv)⟩

noncomputable def Rel (C : Cfg) (W : Addr → Prop) (s s' : Shared) : Prop :=
  (∀ b o, W b → s.heap.get? b = some o → s'.heap.get? b = some o) ∧ s.heap.objs.size ≤ s'.heap.objs.size ∧ (∀ b o, C.hT.get? b = some o → s'.heap.get? b = some o) ∧ AllBare s'.gens

noncomputable def Own (L e i : Addr) (b : Addr) : Prop := b = L ∨ b = e ∨ b = i

abbrev Since (L e i : Addr) (s₀ s : Shared) : Prop := Late (Own L e i) No s₀ s

noncomputable def ItemIs (L e i : Addr) (s₀ s : Shared) (v : Value) (x : MV) : Prop :=
  ∃ t vs ys, v = .ref t ∧ x = .tuple ys ∧ s₀.heap.objs.size ≤ t ∧ ¬ Own L e i t ∧ s.heap.IsTuple t (List.toArray vs) ∧ (∀ h K, RepAll h K vs ys)

noncomputable def YG (C : Cfg) (L e i : Addr) (ys : List MV) : Protocol := fun m s₀ v s kap =>
  (∃ x, ys[ys.length - 1 - m]? = some x ∧ ItemIs L e i s₀ s v x) ∧ Since L e i s₀ s ∧ (∀ b, Own L e i b → b < s.heap.objs.size) ∧ ∀ s'' : Shared, Rel C (Own L e i) s s'' → kap (.send .none) s''
noncomputable def PG (L e i : Addr) (n : Nat) (s₀ s : Shared) : Prop := n = 0 ∧ Since L e i s₀ s
noncomputable def GoesG (C : Cfg) (A : Around) (L e i : Addr) (ys : List MV) (n : Nat) (gs : GenState) (s : Shared) : Prop :=
  gs.Goes (model C.prog C.w) A.in1 (fun n s₀ r s₁ => r = .ok (.ret .none) ∧ PG L e i n s₀ s₁) (YG C L e i ys) n (.send .none) s

structure GSt (C : Cfg) (A : Around) (a L : Addr) (g : Nat) (ys : List MV) (j : Nat) (W : Addr → Prop) (s : Shared) : Prop where
  isGen : s.heap.IsGen a g
  lt : ∀ b, W b → b < s.heap.objs.size
  na : ¬ W a
  l : W L
  wt : ∀ b, W b → C.hT.objs.size ≤ b
  go : ∃ gs, s.gens[g]? = some gs ∧ ∀ s'', Rel C W s s'' → ∃ e i, (∀ b, Own L e i b → W b ∨ s''.heap.objs.size ≤ b) ∧ GoesG C A L e i ys (ys.length - j) gs s''

theorem setGen_get {s : Shared} {g j : Nat} {x : GenState} : (s.setGen g x).gens[j]? = if g = j then (if g < s.gens.size then some x else none) else s.gens[j]? := by
  show (s.gens.setIfInBounds g x)[j]? = _
  rw [Array.getElem?_setIfInBounds]

theorem bare_setGen {s : Shared} {g : Nat} {x : GenState} (h : AllBare s.gens) (hx : x.bare = true) : AllBare (s.setGen g x).gens := fun y hy => by
  have hy' : y ∈ s.gens.setIfInBounds g x := hy
  obtain ⟨j, hj⟩ := Array.mem_iff_getElem?.mp hy'
  rw [Array.getElem?_setIfInBounds] at hj
  split at hj
  · split at hj
    · cases hj; exact hx
    · cases hj
  · exact h _ (Array.mem_of_getElem? hj)

theorem gen_late {L e i : Addr} {W : Addr → Prop} {g : Nat} {s s₁ : Shared} {gs' : GenState} {h' : Heap} (hb : gs'.bare = true) (hW : ∀ b, Own L e i b → W b ∨ s.heap.objs.size ≤ b) (S : Since L e i (s.setGen g .running) s₁) (hk : ∀ b o, s₁.heap.get? b = some o → h'.get? b = some o) (hsz : s.heap.objs.size ≤ h'.objs.size) :
    Late W (fun x => x = g) s { s₁.setGen g gs' with heap := h' } := by
  refine ⟨fun b o hw eb => hk b o (S.keep b o (fun q => (hW b q).elim hw fun q => Nat.lt_irrefl _ (Nat.lt_of_lt_of_le (Heap.lt_size eb) q)) eb), hsz, fun j x hj ej => ?_, ?_, fun hB => bare_setGen (S.bare (bare_setGen hB rfl)) hb, S.os⟩
  · show (s₁.setGen g gs').gens[j]? = some x
    rw [setGen_get, if_neg (fun q => hj q.symm)]
    refine S.gens j x (fun h => h) ?_
    rw [setGen_get, if_neg (fun q => hj q.symm)]
    exact ej
  · show s.gens.size ≤ (s₁.gens.setIfInBounds g gs').size
    have := S.gsize
    have e : (s.setGen g .running).gens.size = s.gens.size := by show (s.gens.setIfInBounds g .running).size = _; simp
    rw [e] at this
    simpa using this

theorem sub_succ {n j : Nat} (h : j < n) : ∃ m, n - j = m + 1 := ⟨n - j - 1, by omega⟩
theorem sub_idx {n j m : Nat} (h : n - j = m + 1) : n - 1 - (m + 1 - 1) = j := by omega
theorem sub_next {n j m : Nat} (h : n - j = m + 1) : n - (j + 1) = m := by omega
theorem IterS.ofGen {C : Cfg} {A : Around} (hC : C.Ok) (hA : A.handled = none) (hroom : A.depth < recursionLimit) {tgt : Expr} {a L : Addr} {g n₀ : Nat} {K : Addr → Prop} {ys : List MV} (han : a < n₀) (haK : ¬ K a) :
    IterS C A tgt (.ref a) n₀ K (fun x => x = g) ys (GSt C A a L g ys) where
  next := fun j W s x K' st hb hT hTs hx hK hn₀ => by
    obtain ⟨gs, hgs, hgo⟩ := st.go
    have hlim : s.heap.NoLimit := by obtain ⟨mc, h1, h2⟩ := hC.lim; exact ⟨mc, h1.keeps hT, h2⟩
    obtain ⟨e, i, hW, hG⟩ := hgo (s.setGen g .running) ⟨fun b o u0 q => q, Nat.le_refl _, hT, bare_setGen hb rfl⟩
    have hj : j < ys.length := (List.getElem?_eq_some_iff.mp hx).1
    obtain ⟨m, hm⟩ := sub_succ hj
    rw [hm] at hG
    have hglt : g < s.gens.size := (Array.getElem?_eq_some_iff.mp hgs).1
    refine wp_nextGen hA hlim hroom st.isGen hgs hG (fun v s₁ gs' hbare hY => ⟨v, rfl, ?_⟩) (fun s₁ hP h' hk => ?_)
    · obtain ⟨⟨x', hx', hit⟩, S, hlt, hkap⟩ := hY
      have hidx : ys.length - 1 - (m + 1 - 1) = j := sub_idx hm
      rw [hidx, hx] at hx'
      cases hx'
      have hao : ¬ Own L e i a := fun q => (hW a q).elim st.na fun q => by
        obtain ⟨o, _, _, ho, _⟩ := st.isGen
        exact Nat.lt_irrefl _ (Nat.lt_of_lt_of_le (Heap.lt_size ho) q)
      have hgen₁ : s₁.heap.IsGen a g := by
        obtain ⟨o, nm, qn, ho, r⟩ := st.isGen
        exact ⟨o, nm, qn, S.keep a o hao ho, r⟩
      have hgen₁' := hgen₁
      obtain ⟨o, nm, qn, ho, hc, _⟩ := hgen₁
      refine wp_letGo ho hc (by decide) ⟨Own L e i, ⟨hgen₁', hlt, hao, .inl rfl, fun b q => (hW b q).elim (st.wt b) fun q => Nat.le_trans hTs q, gs', ?_, fun s'' R => ⟨e, i, fun b q => .inl q, ?_⟩⟩, fun b q => ?_, ?_, gen_late hbare hW S (fun b o q => q) S.size⟩
      · rw [setGen_get, if_pos rfl, if_pos]
        have := S.gsize
        have e : (s.setGen g .running).gens.size = s.gens.size := by show (s.gens.setIfInBounds g .running).size = _; simp
        omega
      · have e1 : ys.length - (j + 1) = m := sub_next hm
        rw [e1]
        exact hkap s'' R
      · exact (hW b q).imp id fun q' => ⟨q', hlt b q⟩
      · obtain ⟨t, vs, zs, rfl, rfl, ht1, ht2, ht3, ht4⟩ := hit
        exact .tuple ht3 (fun q => q.elim (fun q => Nat.lt_irrefl _ (Nat.lt_of_lt_of_le (hK t q).2 ht1)) ht2) (ht4 _ _)
    · exact absurd hP.1 (Nat.succ_ne_zero m)
  done := fun W s st hb hT hTs hn₀ => by
    obtain ⟨gs, hgs, hgo⟩ := st.go
    have hlim : s.heap.NoLimit := by obtain ⟨mc, h1, h2⟩ := hC.lim; exact ⟨mc, h1.keeps hT, h2⟩
    obtain ⟨e, i, hW, hG⟩ := hgo (s.setGen g .running) ⟨fun b o u0 q => q, Nat.le_refl _, hT, bare_setGen hb rfl⟩
    rw [Nat.sub_self] at hG
    refine wp_sized (wp_nextGen hA hlim hroom st.isGen hgs hG (fun v s₁ gs' hbare hY hsz => ?_) (fun s₁ hP h' hk hsz => ⟨rfl, ?_⟩))
    · obtain ⟨⟨x', hx', hit⟩, S, hlt, hkap⟩ := hY
      refine (hkap s₁ ⟨fun b o u0 q => q, Nat.le_refl _, fun b o q => ?_, S.bare (bare_setGen hb rfl)⟩).elim
      exact S.keep b o (fun w => (hW b w).elim (fun w => Nat.lt_irrefl _ (Nat.lt_of_lt_of_le (Heap.lt_size q) (st.wt b w))) fun w => Nat.lt_irrefl _ (Nat.lt_of_lt_of_le (Heap.lt_size q) (Nat.le_trans hTs w))) (hT b o q)
    · exact gen_late rfl hW hP.2 hk hsz
  self := fun j W s Q st hQ => wpAny_pyIter_gen st.isGen hQ
  frame := fun j W s s' st hk hg hs => by
    obtain ⟨gs, hgs, hgo⟩ := st.go
    refine ⟨?_, fun b h => Nat.lt_of_lt_of_le (st.lt b h) hs, st.na, st.l, st.wt, gs, hg g gs rfl hgs, fun s'' R => hgo s'' ⟨fun b o hb q => R.1 b o hb (hk b o (.inr hb) q), Nat.le_trans hs R.2.1, R.2.2.1, R.2.2.2⟩⟩
    obtain ⟨o, nm, qn, ho, r⟩ := st.isGen
    exact ⟨o, nm, qn, hk a o (.inl ⟨han, haK⟩) ho, r⟩
  lt := fun j W s b st h => st.lt b h

noncomputable def atomS : Sl → Bool
  | .un => true
  | .v mv => atomic mv
  | _ => false

theorem Fm.mk0 {C : Cfg} {Φ : Fs} {env : Env} {K₀ : Addr → Prop} {ρ : List Sl} {s : Shared} {m : Str → Option Value} (E : EnvOk Φ env) (O : FsOk Φ) (hc : env.cells = []) (hk : ∀ x ∈ Φ.names, Φ.kind x = some .local)
    (hT : ∀ b o, C.hT.get? b = some o → s.heap.get? b = some o) (hb : AllBare s.gens) (hn : s.heap.Ns env.locals m) (h1 : ∀ b, K₀ b → b < s.heap.objs.size) (h2 : ¬ K₀ env.locals) (h3 : C.hT.objs.size ≤ env.locals) (hlen : ρ.length = Φ.names.length)
    (hv : ∀ (i : Nat) (x : Str) (sl : Sl), Φ.names[i]? = some x → ρ[i]? = some sl → sl = Sl.un ∨ ∃ v mv, sl = Sl.v mv ∧ m x = some v ∧ ∀ h K, Rep h K v mv) : Fm C Φ env K₀ (fun u0 => none) ρ s := by
  refine ⟨E, O, hT, Nat.le_trans h3 (Nat.le_of_lt hn.lt), ⟨m, hn, fun i x sl a b c => ?_⟩, fun i x sl a b c => ?_, fun x c h => ?_, fun x y c h => ?_, fun i a h => (by cases h), fun i j a h => (by cases h), h1, h2, h3, hb, hlen⟩
  · rcases hv i x sl a c with rfl | ⟨v, mv, rfl, e, r⟩
    · trivial
    · exact ⟨v, e, r _ _⟩
  · rw [hk x (List.mem_of_getElem? a)] at b; cases b
  · rw [hc] at h; cases h
  · rw [hc] at h; cases h

theorem Fm.again {C : Cfg} {Φ : Fs} {env : Env} {K₀ W : Addr → Prop} {H : Nat → Option Addr} {ρ : List Sl} {s s' : Shared} (F : Fm C Φ env K₀ H ρ s) (hc : env.cells = []) (hk : ∀ x ∈ Φ.names, Φ.kind x = some .local) (hρ : ρ.all atomS = true) (R : Rel C W s s') (hL : W env.locals) :
    Fm C Φ env K₀ (fun u0 => none) ρ s' := by
  obtain ⟨m, hn, hm⟩ := F.loc
  refine Fm.mk0 F.envOk F.fsOk hc hk R.2.2.1 R.2.2.2 (hn.at' fun o e => R.1 _ o hL e) (fun b h => Nat.lt_of_lt_of_le (F.k0 b h) R.2.1) F.k0l F.ltop F.len fun i x sl a b => ?_
  have hv := hm i x sl a (hk x (List.mem_of_getElem? a)) b
  have ha := List.all_eq_true.mp hρ sl (List.mem_of_getElem? b)
  cases sl with
  | un => exact .inl rfl
  | v mv =>
    obtain ⟨v, e, r⟩ := hv
    exact .inr ⟨v, mv, rfl, e, fun h K => r.atom ha⟩
  | m xs => cases ha
  | mm xs l => cases ha
end Mine
end

section
open PySem PyProof.Rows
set_option linter.unusedVariables false
namespace Mine

section
variable {C : Cfg} {Φ : Fs} {ℓ : Nat} {A : Around} {R : GenEnd} {Y : Protocol} {n : Nat} {s₀ : Shared} {c : Code} {fs : List Frame} {s : Shared} {env : Env} {K : Flow → Sem Fin} {Hd : Value → Sem Fin} {gd : Bool → Bool} {lv : List Value → List Value}
  {K₀ : Addr → Prop} {H : Nat → Option Addr} {ρ ρ' : List Sl}

theorem seg_ex {st : Stmt} {g : List Sl → Option (Fl × List Sl)} (hst : ExS C Φ ℓ st g) (rm : Rm (A.over c fs) ℓ) (F : Fm C Φ env K₀ H ρ s) (hf : g ρ = some (.next, ρ'))
    (k : ∀ H' s', Fm C Φ env K₀ H' ρ' s' → Late (Wr Φ env H) No s s' → (∀ i a, H' i = some a → H i = some a ∨ s.heap.objs.size ≤ a) → Seg (model C.prog C.w) A R Y n s₀ c (K .next) fs s') :
    Seg (model C.prog C.w) A R Y n s₀ c ((exec st env).wrap K Hd gd lv) fs s := by
  refine seg_wrap (wpAny_mono (hst.go _ rm env K₀ H ρ s .next ρ' F hf) (fun fl' s' q => ?_) fun u0 u1 h => h.elim)
  obtain ⟨q1, H', F', L, hh⟩ := q
  cases fl' with
  | next => exact k H' s' F' L hh
  | brk => exact q1.elim
  | cont => exact q1.elim
  | ret v => exact q1.elim

theorem seg_if {test : Expr} {body orelse : List Stmt} {pos : Pos} {u : List Sl → Option Bool} {b : Bool} (ht : TrS C Φ ℓ test u) (rm : Rm (A.over c fs) ℓ) (F : Fm C Φ env K₀ H ρ s) (hf : u ρ = some b)
    (k : ∀ s', Grow s s' → Fm C Φ env K₀ H ρ s' → Seg (model C.prog C.w) A R Y n s₀ c ((if b = true then execs body env else execs orelse env).wrap K Hd gd lv) fs s') :
    Seg (model C.prog C.w) A R Y n s₀ c ((exec (.If test body orelse pos) env).wrap K Hd gd lv) fs s := by
  have e : exec (.If test body orelse pos) env = (standAt pos >>= fun u0 => isTrue test env (eval test env) >>= fun b => if b = true then execs body env else execs orelse env) := rfl
  rw [e]
  refine seg_bind_wrap (wpAny_standAt ?_)
  refine seg_bind_wrap (wpAny_mono (ht.go _ rm env K₀ H ρ s b F hf) (fun b' s' q => ?_) fun u0 u1 h => h.elim)
  obtain ⟨rfl, g⟩ := q
  exact k s' g (F.grow g)

theorem wp_tupNew {A : Around} {es : List Expr} {kk : Nat} {pos : Pos} {f : List Sl → Option (List MV)} {xs : List MV} (h : EvL C Φ ℓ es f) (rm : Rm A ℓ) (F : Fm C Φ env K₀ H ρ s) (hf : f ρ = some xs) (hl : xs.length ≤ lim) :
    wp C A (eval (.Tuple es kk pos) env) (fun v s' => ∃ t vs, v = .ref t ∧ s.heap.objs.size ≤ t ∧ s'.heap.IsTuple t (List.toArray vs) ∧ RepAll s'.heap (Kof K₀ Φ env H) vs xs ∧ Grow s s') s := by
  refine wpAny_Tuple (wp_mono (h.go A rm env K₀ H ρ s xs F hf pos) fun vs s₁ q => ⟨?_, ?_⟩)
  · show _ ≤ 2 ^ 24; rw [q.1.length]; exact hl
  · exact ⟨_, vs, rfl, q.2.size, ⟨_, Heap.get?_push_size _ rfl, rfl, _, rfl⟩, q.1.mono (fun b o u0 e => Heap.get?_push_of_some _ e) fun b h => .inl h, q.2.then Late.push⟩

theorem atoms {h : Heap} {K : Addr → Prop} : ∀ {vs : List Value} {xs : List MV}, RepAll h K vs xs → xs.all atomic = true → ∀ h' K', RepAll h' K' vs xs
  | _, _, .nil, _, _, _ => .nil
  | _, _, .cons r ra, ha, h', K' => by
    rw [List.all_cons, Bool.and_eq_true] at ha
    exact .cons (r.atom ha.1) (atoms ra ha.2 h' K')

theorem seg_yield' {L e i : Addr} {ys : List MV} {es : List Expr} {kk : Nat} {tp ypos pos : Pos} {f : List Sl → Option (List MV)} {xs : List MV} (h : EvL C Φ ℓ es f) (rm : Rm (A.over c fs) ℓ) (F : Fm C Φ env K₀ H ρ s) (hf : f ρ = some xs) (hl : xs.length ≤ lim)
    (ha : xs.all atomic = true) (hfs : splitAtGen fs = none) (hgd : gd false = false) (hfg : fs.any Frame.guarded = false) (hL : ∀ b, Own L e i b → b < s.heap.objs.size) (S : Since L e i s₀ s) (hy : ys[ys.length - 1 - n]? = some (.tuple xs))
    (hco : env.scope.isCoroutine = false) (hi : interactive env = false)
    (k : ∀ s' s'', Grow s s' → Rel C (Own L e i) s' s'' → Seg (model C.prog C.w) A R (YG C L e i ys) n s'' c (K .next) fs s'') :
    Seg (model C.prog C.w) A R (YG C L e i ys) (n + 1) s₀ c ((exec (.Expr (.Yield (some (.Tuple es kk tp)) ypos) pos) env).wrap K Hd gd lv) fs s := by
  refine seg_Expr_Yield hfs hgd hfg (wpAny_mono (wp_tupNew h rm F hf hl) (fun v s' q kap hkap => ?_) fun u0 u1 h => h.elim) hco hi
  obtain ⟨t, vs, rfl, ht, htup, ra, g⟩ := q
  refine ⟨⟨_, hy, t, vs, xs, rfl, rfl, Nat.le_trans S.size ht, fun q => Nat.lt_irrefl _ (Nat.lt_of_lt_of_le (hL t q) ht), htup, atoms ra ha⟩, S.then g, fun b q => Nat.lt_of_lt_of_le (hL b q) g.size, fun s'' R => ?_⟩
  exact hkap .none s'' (k s' s'' g R)
end

noncomputable def escG : Bool → Nat → List Nat → List MV
  | esc, j, [] => if esc then [.tuple [.int ((j : Int) - 1), .str [92]]] else []
  | true, j, c :: cs => .tuple [.int j, .str [92, c]] :: escG false (j + 1) cs
  | false, j, c :: cs => if c = 92 then escG true (j + 1) cs else .tuple [.int j, .str [c]] :: escG false (j + 1) cs
noncomputable def escF : List MV → Option (List MV)
  | [.str cs] => some (escG false 0 cs)
  | _ => none
end Mine
end

section
open PySem PyProof.Rows
set_option linter.unusedVariables false
set_option maxRecDepth 100000
namespace Mine

section
variable {C : Cfg} {Φ : Fs} {ℓ : Nat} {env : Env} {K₀ : Addr → Prop} {H : Nat → Option Addr} {ρ : List Sl} {s s' : Shared}

noncomputable def addN (f g : List Sl → Option MV) (ρ : List Sl) : Option (List MV) := (f ρ).bind fun a => (g ρ).bind fun b => match a with
  | .list xs => (match b with
    | .list ys => if xs.length + ys.length ≤ lim then some (xs ++ ys) else none
    | _ => none)
  | _ => none
theorem EvN.add {l r : Expr} {pos : Pos} {f g : List Sl → Option MV} (hl : EvH C Φ ℓ l f) (hr : EvH C Φ ℓ r g) : EvN C Φ ℓ (.BinOp l .Add r pos) (addN f g) :=
  .mk fun A rm env K₀ H ρ s zs F hf => by
    unfold addN at hf
    rw [Option.bind_eq_some_iff] at hf
    obtain ⟨a, h1, hf⟩ := hf
    rw [Option.bind_eq_some_iff] at hf
    obtain ⟨b, h2, hf⟩ := hf
    cases a with
    | list xs =>
      cases b with
      | list ys =>
        have hf : (if xs.length + ys.length ≤ lim then some (xs ++ ys) else none) = some zs := hf
        by_cases hlen : xs.length + ys.length ≤ lim
        · rw [if_pos hlen] at hf
          cases hf
          refine wpAny_BinOp (hl.run rm F h1 fun va s₁ ra g₁ F₁ => hr.run rm F₁ h2 fun vb s₂ rb g₂ F₂ => ?_)
          obtain ⟨a1, vs, rfl, ⟨n1, q1⟩, r1⟩ := (g₂.repH ra).isList
          obtain ⟨a2, ws, rfl, ⟨n2, q2⟩, r2⟩ := rb.isList
          refine P.add_list q1 q2 ⟨s₂.heap.objs.size, vs ++ ws, rfl, Nat.le_trans g₁.size g₂.size, ?_, (r1.append r2).mono (fun b o u0 e => Heap.get?_push_of_some _ e) fun b h => h.elim .inl fun q => .inr (q ▸ Nat.le_refl _), (g₁.then g₂).then Late.push⟩
            (by show _ ≤ 2 ^ 24; simp only [List.size_toArray, r1.length, r2.length]; exact hlen)
          rw [List.append_toArray]
          exact Ls.push _ _
        · rw [if_neg hlen] at hf; cases hf
      | _ => cases hf
    | _ => cases hf

theorem hput_sub {H : Nat → Option Addr} {i : Nat} {a b : Option Addr} (h0 : ∀ x, a = some x → H (2 * i) = some x) (h1 : ∀ x, b = some x → H (2 * i + 1) = some x) : ∀ j x, hput H i a b j = some x → H j = some x := fun j x h => by
  rcases hput_some h with ⟨q, e⟩ | ⟨q, e⟩ | ⟨_, _, e⟩
  · subst q; exact h0 x e
  · subst q; exact h1 x e
  · exact e
theorem Kof.sub {H H' : Nat → Option Addr} (hh : ∀ j x, H' j = some x → H j = some x) : ∀ b, Kof K₀ Φ env H' b → Kof K₀ Φ env H b := fun b h => by
  rcases h with h | h | h | ⟨j, h⟩
  · exact .inl h
  · exact .inr (.inl h)
  · exact .inr (.inr (.inl h))
  · exact .inr (.inr (.inr ⟨j, hh j b h⟩))
theorem Wr.sub {H H' : Nat → Option Addr} (hh : ∀ j x, H' j = some x → H j = some x) : ∀ b, Wr Φ env H' b → Wr Φ env H b := fun b h => by
  rcases h with h | h | ⟨j, h⟩
  · exact .inl h
  · exact .inr (.inl h)
  · exact .inr (.inr ⟨j, hh j b h⟩)

inductive Head2 (h : Heap) (K : Addr → Prop) (H : Nat → Option Addr) (i : Nat) (xs last : List MV) : Prop
  | mk (a : Addr) (vs : List Value) (b : Addr) (ws : List Value) : H (2 * i) = some a → Ls h a (List.toArray (vs ++ [.ref b])) → RepAll h K vs xs → H (2 * i + 1) = some b → Ls h b (List.toArray ws) → RepAll h K ws last → Head2 h K H i xs last
theorem Fm.head2 {i : Nat} {x : Str} {xs last : List MV} (F : Fm C Φ env K₀ H ρ s) (hx : Φ.names[i]? = some x) (hs : ρ[i]? = some (.mm xs last)) : Head2 s.heap (Kof K₀ Φ env H) H i xs last := by
  rcases F.fsOk.kinds x (List.mem_of_getElem? hx) with hl | hl
  · obtain ⟨m, hn, hm⟩ := F.loc
    obtain ⟨a, vs, b, ws, _, e2, e3, e4, e5, e6, e7⟩ := hm i x _ hx hl hs
    exact ⟨a, vs, b, ws, e2, e3, e4, e5, e6, e7⟩
  · obtain ⟨c, ov, hc, hi, a, vs, b, ws, _, e2, e3, e4, e5, e6, e7⟩ := F.cel i x _ hx hl hs
    exact ⟨a, vs, b, ws, e2, e3, e4, e5, e6, e7⟩

theorem Fm.mutG {i : Nat} {x : Str} {sl sl' : Sl} {a d : Addr} {hb : Option Addr} (F : Fm C Φ env K₀ H ρ s) (hx : Φ.names[i]? = some x) (hs : ρ[i]? = some sl) (ha : H (2 * i) = some a)
    (hv : ∀ ov, VarRep s.heap (Kof K₀ Φ env H) H i ov sl → ov = some (.ref a))
    (hd : H (2 * i) = some d ∨ H (2 * i + 1) = some d) (g : Late (fun b => b = d) No s s') (h1 : ∀ b, hb = some b → H (2 * i + 1) = some b ∨ (s.heap.objs.size ≤ b ∧ b < s'.heap.objs.size))
    (hr : VarRep s'.heap (Kof K₀ Φ env (hput H i (some a) hb)) (hput H i (some a) hb) i (some (.ref a)) sl') :
    Fm C Φ env K₀ (hput H i (some a) hb) (ρ.set i sl') s' ∧ Late (Wr Φ env H) No s s' := by
  obtain ⟨j, hj, hji⟩ : ∃ j, H j = some d ∧ j / 2 = i := hd.elim (fun h => ⟨_, h, by omega⟩) fun h => ⟨_, h, by omega⟩
  have hdd := F.hd _ d hj
  have hda := F.hd _ a ha
  refine ⟨F.turn (W := fun b => b = d) (v := some (.ref a)) hx g (fun k b hk h e => ?_) (fun b e => ?_) (fun y c hy hc e => ?_) (fun b e => e ▸ hdd.2.2.2.2)
    (fun hk m hm => ?_) (fun u0 e => hdd.2.1 e.symm) (fun hk c hc => ?_) (fun u0 c hc e => hdd.2.2.1 x c hc e.symm) (fun b e => .inl (by cases e; exact ha)) h1 (fun y e1 e2 => ?_) hr, g.mono (fun b e => .inl (.inr (.inr ⟨_, e ▸ hj⟩))) (fun u0 h => h.elim)⟩
  · subst e
    rcases h with h | h
    · have := F.hinj _ _ _ h hj; omega
    · have := F.hinj _ _ _ h hj; omega
  · subst e; exact ⟨.inr (.inr (.inr ⟨_, hj⟩)), hdd.2.2.2.1⟩
  · subst e; exact hdd.2.2.1 y _ hc rfl
  · obtain ⟨m₀, hn, hm₀⟩ := F.loc
    have hv' := hv _ (hm₀ i x _ hx hk hs)
    have := Ns.fun hm hn
    subst this
    exact ⟨m, hm.at' fun o e => g.keep _ o (fun q => hdd.2.1 q.symm) e, hv', fun u0 u1 => rfl⟩
  · obtain ⟨c', ov, hc', ⟨o, ho, hdt⟩, hv'⟩ := F.cel i x _ hx hk hs
    rw [hc] at hc'; cases hc'
    have := hv _ hv'
    subst this
    exact ⟨o, g.keep c o (fun q => hdd.2.2.1 x c hc q.symm) ho, hdt⟩
  · cases e1
    rcases h1 _ e2 with q | q
    · have := F.hinj _ _ _ q ha; omega
    · exact Nat.lt_irrefl _ (Nat.lt_of_lt_of_le hda.1 q.1)

theorem Fm.half {i : Nat} {x : Str} {xs last : List MV} (F : Fm C Φ env K₀ H ρ s) (hx : Φ.names[i]? = some x) (hs : ρ[i]? = some (.mm xs last)) :
    ∃ H', Fm C Φ env K₀ H' (ρ.set i (.m (xs ++ [.list last]))) s ∧ ∀ j a, H' j = some a → H j = some a := by
  obtain ⟨a, vs, b, ws, ha, hl, ra, hb, hlb, rb⟩ := F.head2 hx hs
  have hh : ∀ j y, hput H i (some a) none j = some y → H j = some y := hput_sub (fun y e => by cases e; exact ha) (fun y e => by cases e)
  have hK : ∀ y, Kof K₀ Φ env (hput H i (some a) none) y → Kof K₀ Φ env H y ∨ s.heap.objs.size ≤ y := fun y h => .inl (Kof.sub hh y h)
  have nb : ¬ Kof K₀ Φ env (hput H i (some a) none) b := fun h => by
    obtain ⟨_, h2, h3, h4, _⟩ := F.hd _ b hb
    rcases h with h | h | ⟨_, y, h⟩ | ⟨j, h⟩
    · exact h4 h
    · exact h2 h
    · exact h3 y b h rfl
    · have := F.hinj _ _ _ (hh j b h) hb
      subst this
      rw [hput_1] at h; cases h
  refine ⟨_, (F.mutG (s' := s) (d := a) (hb := none) hx hs ha (fun ov h => ?_) (.inl ha) (Late.refl s) (fun u0 e => by cases e) ?_).1, hh⟩
  · obtain ⟨a', _, _, _, e, e2, _⟩ := h
    rw [ha] at e2; cases e2; exact e
  · exact ⟨a, vs ++ [.ref b], rfl, hput_0 _ _ _ _, hl, (ra.mono (fun u0 u1 u2 e => e) hK).append (.cons (.list hlb nb (rb.mono (fun u0 u1 u2 e => e) hK)) .nil)⟩

noncomputable def newLF (i : Nat) (f : List Sl → Option (List MV)) (ρ : List Sl) : Option (Fl × List Sl) := (f ρ).bind fun ys => match ρ[i]? with
  | some (.m xs) => if xs.length < lim then some (.next, ρ.set i (.mm xs ys)) else none
  | some (.mm xs last) => if xs.length + 1 < lim then some (.next, ρ.set i (.mm (xs ++ [.list last]) ys)) else none
  | _ => none
theorem appNew_m {A : Around} {x : Str} {p1 ap pos p2 : Pos} {e : Expr} {f : List Sl → Option (List MV)} {i : Nat} {xs ys : List MV} (he : EvN C Φ ℓ e f) (hx : Φ.names[i]? = some x)
    (hb : ∀ env, attributeBase (.Name x p1) "append" env (eval (.Name x p1) env) = eval (.Name x p1) env) (hs : ∀ env, starEach [e] env = [(false, eval e env)]) (hl : (ap.endLine == pos.line) = true) (hint : ∀ env, EnvOk Φ env → interactive env = false)
    (rm : Rm A ℓ) (F : Fm C Φ env K₀ H ρ s) (hm : ρ[i]? = some (.m xs)) (h1 : f ρ = some ys) (hlen : xs.length < lim) :
    wp C A (exec (.Expr (.Call (.Attribute (.Name x p1) "append" ap) [e] [] pos) p2) env) (fun fl' s' => FlRep s'.heap K₀ fl' .next ∧ Out C Φ env K₀ H s (ρ.set i (.mm xs ys)) s') s := by
  refine wpAny_Expr_any (Call_method1 (hb env) (hs env) hl (wp_Mut F hx hm fun a vs ha hla ra => ?_)) (hint env F.envOk) rfl
  refine ⟨"list", _, PySem.F.plainAttrs_list, PySem.F.slot_list_append, PySem.type_list_append, ⟨_, hla.choose_spec, rfl⟩, dict_none hla, ?_⟩
  refine Calls.callWith_builtin rfl (Calls.evalArgs_plain (Calls.spliced_cons (wp_mono (he.go A rm env K₀ H ρ s ys F h1) fun va s₁ q => Calls.spliced_nil ?_)))
  obtain ⟨b, ws, rfl, hb0, hlb, rb, g₁⟩ := q
  have hl₁ : Ls s₁.heap a vs.toArray := hla.at fun o e => g₁.get e
  have hlen' : xs.length < 16777216 := hlen
  have hda := F.hd _ a ha
  have hba : b ≠ a := fun e => Nat.lt_irrefl _ (Nat.lt_of_lt_of_le (e ▸ hda.1) hb0)
  refine wp_appendL hl₁ (by rw [ra.length]; omega) fun s₂ hl₂ L₂ => ?_
  have Lg : Late (fun c => c = a) No s s₂ := Late.after g₁ L₂
  have hKa : Kof K₀ Φ env H a := .inr (.inr (.inr ⟨_, ha⟩))
  have hK' : ∀ c, Kof K₀ Φ env (hput H i (some a) (some b)) c → Kof K₀ Φ env H c ∨ c = b := fun c h => by
    rcases h with h | h | h | ⟨j, h⟩
    · exact .inl (.inl h)
    · exact .inl (.inr (.inl h))
    · exact .inl (.inr (.inr (.inl h)))
    · rcases hput_some h with ⟨_, e⟩ | ⟨_, e⟩ | ⟨_, _, e⟩
      · cases e; exact .inl hKa
      · cases e; exact .inr rfl
      · exact .inl (.inr (.inr (.inr ⟨j, e⟩)))
  have r := F.mutG (sl' := .mm xs ys) (hb := some b) hx hm ha (fun ov h => by obtain ⟨a', _, e, e2, _⟩ := h; rw [ha] at e2; cases e2; exact e) (.inl ha) Lg
    (fun c e => by cases e; exact .inr ⟨hb0, Nat.lt_of_lt_of_le hlb.lt L₂.size⟩)
    ⟨a, vs, b, ws, rfl, hput_0 _ _ _ _, hl₂, ra.mono (fun c o hc e => Lg.keep c o (fun q => hc (q ▸ hKa)) e) (fun c h => (hK' c h).imp id fun q => by rw [q]; exact hb0), hput_1 _ _ _ _, hlb.at fun o e => L₂.keep b o hba e,
      rb.mono (fun c o hc e => L₂.keep c o (fun q => hc (.inl (q ▸ hKa))) e) fun c h => .inl (hK' c h)⟩
  refine ⟨trivial, _, r.1, r.2, fun j c h => ?_⟩
  rcases hput_some h with ⟨q, e⟩ | ⟨q, e⟩ | ⟨_, _, e⟩
  · cases e; subst q; exact .inl ha
  · cases e; exact .inr hb0
  · exact .inl e
set_option tactic.hygienic true in
theorem ExS.appNew {x : Str} {p1 ap pos p2 : Pos} {e : Expr} {f : List Sl → Option (List MV)} {i : Nat} (he : EvN C Φ ℓ e f) (hx : Φ.names[i]? = some x)
    (hb : ∀ env, attributeBase (.Name x p1) "append" env (eval (.Name x p1) env) = eval (.Name x p1) env) (hs : ∀ env, starEach [e] env = [(false, eval e env)]) (hl : (ap.endLine == pos.line) = true) (hint : ∀ env, EnvOk Φ env → interactive env = false)
    (hind : ∀ ρ sl, f (ρ.set i sl) = f ρ) : ExS C Φ ℓ (.Expr (.Call (.Attribute (.Name x p1) "append" ap) [e] [] pos) p2) (newLF i f) := .mk fun A rm env K₀ H ρ s fl ρ' F hf => by
  unfold newLF at hf
  rw [Option.bind_eq_some_iff] at hf
  obtain ⟨ys, h1, hf⟩ := hf
  split at hf
  · next xs hm =>
    by_cases hlen : xs.length < lim
    · rw [if_pos hlen] at hf
      cases hf
      exact appNew_m he hx hb hs hl hint rm F hm h1 hlen
    · rw [if_neg hlen] at hf; cases hf
  · next xs last hm =>
    by_cases hlen : xs.length + 1 < lim
    · rw [if_pos hlen] at hf
      cases hf
      obtain ⟨H', F', hh⟩ := F.half hx hm
      have hlt : i < ρ.length := (List.getElem?_eq_some_iff.1 hm).1
      have := appNew_m (p2 := p2) he hx hb hs hl hint rm F' (by rw [List.getElem?_set, if_pos rfl, if_pos hlt]) ((hind ρ _).trans h1) (by rw [List.length_append]; exact hlen)
      rw [List.set_set] at this
      refine wp_mono this fun fl' s' q => ⟨q.1, ?_⟩
      obtain ⟨H₂, F₂, L₂, h₂⟩ := q.2
      exact ⟨H₂, F₂, L₂.mono (fun b h => .inl (Wr.sub hh b h)) (fun u0 h => .inl h), fun j c h => (h₂ j c h).imp (hh j c) id⟩
    · rw [if_neg hlen] at hf; cases hf
  · cases hf

noncomputable def inLF (i : Nat) (g f : List Sl → Option MV) (ρ : List Sl) : Option (Fl × List Sl) := match ρ[i]? with
  | some (.mm xs last) => (g ρ).bind fun k => (f ρ).bind fun v => match k with
    | .int k => if k = (xs.length : Int) ∧ xs.length < 1000 ∧ last.length < lim then some (.next, ρ.set i (.mm xs (last ++ [v]))) else none
    | _ => none
  | _ => none
set_option tactic.hygienic true in
theorem ExS.appIn {x : Str} {p0 p1 ap pos p2 : Pos} {ie e : Expr} {g f : List Sl → Option MV} {i : Nat} (hi : EvS C Φ ℓ ie g) (he : EvS C Φ ℓ e f) (hx : Φ.names[i]? = some x)
    (hb : ∀ env, attributeBase (.Subscript (.Name x p0) ie p1) "append" env (eval (.Subscript (.Name x p0) ie p1) env) = eval (.Subscript (.Name x p0) ie p1) env) (hs : ∀ env, starEach [e] env = [(false, eval e env)]) (hl : (ap.endLine == pos.line) = true)
    (hint : ∀ env, EnvOk Φ env → interactive env = false) (hsub : ∀ o' i', subscripted ie false o' i' = operate [o', i'] (getItem o' i')) :
    ExS C Φ ℓ (.Expr (.Call (.Attribute (.Subscript (.Name x p0) ie p1) "append" ap) [e] [] pos) p2) (inLF i g f) := .mk fun A rm env K₀ H ρ s fl ρ' F hf => by
  unfold inLF at hf
  split at hf
  · next xs last hm =>
    rw [Option.bind_eq_some_iff] at hf
    obtain ⟨k, h1, hf⟩ := hf
    rw [Option.bind_eq_some_iff] at hf
    obtain ⟨v, h2, hf⟩ := hf
    cases k with
    | int k =>
      by_cases hc : k = (xs.length : Int) ∧ xs.length < 1000 ∧ last.length < lim
      · replace hf : (if k = (xs.length : Int) ∧ xs.length < 1000 ∧ last.length < lim then some (Fl.next, ρ.set i (.mm xs (last ++ [v]))) else none) = some (fl, ρ') := hf
        rw [if_pos hc] at hf
        cases hf
        obtain ⟨hk, hx1, hll⟩ := hc
        obtain ⟨id, hlk⟩ := seq_getitem (mv := .list xs) (T := "list") rfl
        refine wpAny_Expr_any (Call_method1 (hb env) (hs env) hl ?_) (hint env F.envOk) rfl
        rw [arm_eval_Subscript]
        refine wpAny_bind (wp_Name F hx hm (by nofun) fun va hv => wpAny_bind (wpAny_holding (hi.run rm F h1 fun vb s₁ rb g₁ F₁ => wpAny_bind (wpAny_standAt ?_))))
        obtain ⟨a, vs, b, ws, e1, ha, hla, ra, hb1, hlb, rb1⟩ := hv
        cases e1
        have hla₁ : Ls s₁.heap a (List.toArray (vs ++ [.ref b])) := hla.at fun o e => g₁.get e
        have hty : s₁.TypeIs (.ref a) "list" := ⟨_, hla₁.choose_spec, rfl⟩
        refine wpAny_bind (wp_inPython hty hlk ?_)
        rw [hsub]
        obtain ⟨t, rfl⟩ := (RepH.of rb).isInt
        refine wpAny_bind (wpAny_operating ?_)
        refine wpAny_getItem_list hla₁.isList (by omega) (by omega) (x := .ref b) ?_ ?_
        · rw [hk, Int.toNat_natCast, ← ra.length]
          simp
        refine wpAny_bind (wpAny_letTemporaryGo (wpAny_pure ?_))
        have hlb₁ : Ls s₁.heap b ws.toArray := hlb.at fun o e => g₁.get e
        refine ⟨"list", _, PySem.F.plainAttrs_list, PySem.F.slot_list_append, PySem.type_list_append, ⟨_, hlb₁.choose_spec, rfl⟩, dict_none hlb₁, ?_⟩
        refine Calls.callWith_builtin rfl (Calls.evalArgs_plain (Calls.spliced_cons (he.run rm F₁ h2 fun vc s₂ rc g₂ F₂ => Calls.spliced_nil ?_)))
        have hlb₂ : Ls s₂.heap b ws.toArray := hlb₁.at fun o e => g₂.get e
        have hll' : last.length < 16777216 := hll
        refine wp_appendL hlb₂ (by rw [rb1.length]; omega) fun s₃ hl₃ L₃ => ?_
        have hKa : Kof K₀ Φ env H a := .inr (.inr (.inr ⟨_, ha⟩))
        have hKb : Kof K₀ Φ env H b := .inr (.inr (.inr ⟨_, hb1⟩))
        have hab : a ≠ b := fun e => by
          have := F.hinj _ _ _ ha (e ▸ hb1)
          omega
        have hh : ∀ j y, hput H i (some a) (some b) j = some y → H j = some y := hput_sub (fun y e => by cases e; exact ha) (fun y e => by cases e; exact hb1)
        have keep : ∀ c o, ¬ Kof K₀ Φ env H c → s₂.heap.get? c = some o → s₃.heap.get? c = some o := fun c o hc e => L₃.keep c o (fun q => hc (q ▸ hKb)) e
        have hla₂ : Ls s₂.heap a (List.toArray (vs ++ [.ref b])) := hla₁.at fun o e => g₂.get e
        have r := F₂.mutG (sl' := .mm xs (last ++ [v])) (hb := some b) hx hm ha (fun ov h => by obtain ⟨a', _, _, _, e, e2, _⟩ := h; rw [ha] at e2; cases e2; exact e) (.inr hb1) L₃
          (fun c e => by cases e; exact .inl hb1)
          ⟨a, vs, b, ws ++ [vc], rfl, hput_0 _ _ _ _, hla₂.at fun o e => L₃.keep a o hab e, (g₂.repAll (g₁.repAll ra)).mono keep fun c h => .inl (Kof.sub hh c h), hput_1 _ _ _ _, hl₃,
            ((g₂.repAll (g₁.repAll rb1)).append (.cons rc .nil)).mono keep fun c h => .inl (Kof.sub hh c h)⟩
        exact ⟨trivial, Out.after (g₁.then g₂) ⟨_, r.1, r.2, fun j c h => .inl (hh j c h)⟩⟩
      · replace hf : (if k = (xs.length : Int) ∧ xs.length < 1000 ∧ last.length < lim then some (Fl.next, ρ.set i (.mm xs (last ++ [v]))) else none) = some (fl, ρ') := hf
        rw [if_neg hc] at hf; cases hf
    | _ => cases hf
  · cases hf
end
end Mine
end

section
open PySem PyProof.Rows
open PySem.SeqAt MeetsSeq MeetsSeq2 MeetsSeq3 SeqRoads2
open AutoSeq1 (wpAny_loadPart')
open Builtin Builtin.List
set_option linter.unusedVariables false
set_option maxRecDepth 100000
namespace Mine

noncomputable def LtAt (A : Around) (s : Shared) (x y : Value) (b : Bool) : Prop := ∀ (prog : Program) (w : World) (E : Value → Shared → Prop) {Q : Value → Shared → Prop}, Q (.bool b) s → wpAny (model prog w) A (richCompare .Lt x y) Q E s
noncomputable def ltFrom (e lt : Nat → Bool) : Nat → Nat → Bool
  | 0, _ => false
  | k + 1, i => if e i then ltFrom e lt k (i + 1) else lt i
theorem lt_loopAt (l b : Addr) (items items2 : Array Value) (n n2 : Nat) (dd dd2 : Option Addr) (sl sl2 : Array (Option Value)) (hsz : items.size = items2.size) (e lt : Nat → Bool) (k : Nat) :
    ∀ i : Nat, items.size - i = k → Meets (Builtin.«list.__eq__.loop» ⟨[.ref l, .ref b, rawInt i, rawInt 0], []⟩)
      (fun A R s => s.heap.get? l = some { cls := .type "list", dict := dd, data := .seq items n, slots := sl } ∧ s.heap.get? b = some { cls := .type "list", dict := dd2, data := .seq items2 n2, slots := sl2 } ∧
        (∀ j (h1 : j < items.size) (h2 : j < items2.size), EqAt A.in1 s items[j] items2[j] (e j) ∧ LtAt A.in1 s items[j] items2[j] (lt j)) ∧
        R (.ok (.ret (.bool (ltFrom e lt k i)))) s) := by
  induction k with
  | zero =>
    intro i hk prog w A R s h
    obtain ⟨hp, g, d, tk, os⟩ := s; obtain ⟨hl, hb, he, h⟩ := h
    wp_walk using wpAny_loadPart' hl, wpAny_loadPart' hb
    have hi1 : items[((i : Nat) : Int).toNat]? = none := by simp; omega
    have hi2 : items2[((i : Nat) : Int).toNat]? = none := by simp; omega
    rw [hi1, hi2]
    wp_walk using wpAny_loadPart' hl, wpAny_loadPart' hb
    show R (.ok (.ret (.bool (decide (items.size < items2.size))))) _
    rw [hsz, decide_eq_false (Nat.lt_irrefl _)]
    exact h
  | succ k ih =>
    intro i hk prog w A R s h
    obtain ⟨hp, g, d, tk, os⟩ := s; obtain ⟨hl, hb, he, h⟩ := h
    wp_walk using wpAny_loadPart' hl, wpAny_loadPart' hb
    have hlt : i < items.size := by omega
    have hlt2 : i < items2.size := by omega
    have hi1 : items[((i : Nat) : Int).toNat]? = some items[i] := by simp [hlt]
    have hi2 : items2[((i : Nat) : Int).toNat]? = some items2[i] := by simp [hlt2]
    have hc : ((i : Int) + 1) = ((i + 1 : Nat) : Int) := by push_cast; rfl
    rw [hi1, hi2]
    refine wpAny_bind ((he i hlt hlt2).1 prog w _ _ ?_)
    rw [ltFrom] at h
    cases hb' : e i with
    | true =>
      rw [hb', if_pos rfl] at h
      wp_walk
      rw [hc]
      exact ⟨plainId_quiet plain_eq_loop _, codeAny_builtin entry_eq_loop (by
        rw [Around.under_plainId plain_eq_loop _]
        exact ih (i + 1) (by omega) prog w A R _ ⟨hl, hb, he, h⟩)⟩
    | false =>
      rw [hb', if_neg (by decide)] at h
      wp_walk using wpAny_loadPart' hl, wpAny_loadPart' hb
      rw [hi1, hi2]
      refine wpAny_bind ((he i hlt hlt2).2 prog w _ ?_)
      wp_walk
      exact h
end Mine
end

section
open PySem PyProof.Rows
open PySem.SeqAt MeetsSeq MeetsSeq2 MeetsSeq3 SeqRoads2
open AutoSeq1 (wpAny_loadPart')
open Builtin Builtin.List
open PyProof.Rows PySem.W
set_option linter.unusedVariables false
set_option maxRecDepth 100000
namespace Mine
theorem list_ltAt (l b : Addr) (items items2 : Array Value) (n n2 : Nat) (dd dd2 : Option Addr) (sl sl2 : Array (Option Value)) (hsz : items.size = items2.size) (e lt : Nat → Bool) :
    Meets (Builtin.«list.__lt__» ⟨[.ref l, .ref b], []⟩)
      (fun A R s => s.heap.get? l = some { cls := .type "list", dict := dd, data := .seq items n, slots := sl } ∧ s.heap.get? b = some { cls := .type "list", dict := dd2, data := .seq items2 n2, slots := sl2 } ∧
        (∀ j (h1 : j < items.size) (h2 : j < items2.size), EqAt A.in1 s items[j] items2[j] (e j) ∧ LtAt A.in1 s items[j] items2[j] (lt j)) ∧
        R (.ok (.ret (.bool (ltFrom e lt items.size 0)))) s) := by
  intro prog w A R s h
  obtain ⟨hp, g, d, tk, os⟩ := s; obtain ⟨hl, hb, he, h⟩ := h
  have f3 := AutoSeq1.sub_list_list
  wp_walk using wpAny_loadPart' hl, wpAny_loadPart' hb
  exact ⟨plainId_quiet plain_eq_loop _, codeAny_builtin entry_eq_loop (by
    rw [Around.under_plainId plain_eq_loop _]
    exact lt_loopAt l b items items2 n n2 dd dd2 sl sl2 hsz e lt _ 0 rfl prog w A R _ ⟨hl, hb, he, h⟩)⟩
theorem keyLt_list {prog : Program} {w : World} {A : Around} {E : Value → Shared → Prop} {s : Shared} {Q : Bool → Shared → Prop} {l b : Addr} {items items2 : Array Value} {e lt : Nat → Bool} (hl : Ls s.heap l items) (hb : Ls s.heap b items2) (hsz : items.size = items2.size) (hu : A.units < cLine)
    (he : ∀ j (h1 : j < items.size) (h2 : j < items2.size), EqAt A.in1 s items[j] items2[j] (e j) ∧ LtAt A.in1 s items[j] items2[j] (lt j)) (h : Q (ltFrom e lt items.size 0) s) :
    wpAny (model prog w) A (keyLt' oneType' (.ref l) (.ref b)) Q E s := by
  obtain ⟨n, hl⟩ := hl
  obtain ⟨n2, hb⟩ := hb
  rw [keyLt'_oneType, oneLt'_eq]
  simp only [if_true]
  refine wpAny_bind (wpAny_cRoomFor hu ?_)
  refine wpAny_bind (wpAny_callSpecialIfBound?_slot (T := "list") ⟨_, hl, rfl⟩ PySem.F.slot_list_lt (call_meets PySem.F.slot_list_lt ⟨_, hl, rfl⟩ PySem.F.entry_list_lt (PySem.F.args_list_lt_2 _ _) (list_ltAt l b items items2 n n2 none none #[] #[] hsz e lt) ⟨hl, hb, he, ?_⟩))
  exact wpAny_truthy_bool h
end Mine
end

section
open PySem PyProof.Rows PySem.W
open PySem.SeqAt MeetsSeq MeetsSeq2 MeetsSeq3 SeqRoads2
set_option linter.unusedVariables false
set_option maxRecDepth 100000
namespace Mine

noncomputable def kasRun (n : Nat) (lt : Nat → Nat → Bool) {α : Type} : KasT α → Option α
  | .ret a => some a
  | .ask i j k => if i < n ∧ j < n then kasRun n lt (k (lt i j)) else none
theorem kasRun_wp {α : Type} {n : Nat} {lt : Nat → Nat → Bool} {cmp : Nat → Nat → (Bool → Shared → Prop) → Shared → Prop} {Q : α → Shared → Prop} {s : Shared} (hask : ∀ i j, i < n → j < n → ∀ C : Bool → Shared → Prop, C (lt i j) s → cmp i j C s) :
    ∀ (t : KasT α) (a : α), kasRun n lt t = some a → Q a s → t.kasWp cmp Q s
  | .ret b, a, h, q => by cases h; exact q
  | .ask i j k, a, h, q => by
    rw [kasRun] at h
    by_cases hb : i < n ∧ j < n
    · rw [if_pos hb] at h
      exact hask i j hb.1 hb.2 _ (kasRun_wp hask (k (lt i j)) a h q)
    · rw [if_neg hb] at h; cases h
section
variable {prog : Program} {w : World} {A : Around} {E : Value → Shared → Prop} {s : Shared}
theorem sort_by_asks {a : Addr} {vs : List Value} {n : Nat} {P : PySem.Fin → Shared → Prop} {T : Value} {lt : Nat → Nat → Bool} {p : Array Nat} (ho : s.heap.get? a = some (seqObj "list" vs.toArray n)) (h2 : 2 ≤ vs.length) (h64 : vs.length < 64)
    (hT : ∀ h, (∀ b o, b ≠ a → s.heap.get? b = some o → h.get? b = some o) → ∀ v ∈ vs, Looks (model prog w) h (typeOf v) T) (hT1 : (T != Value.type "tuple") = true) (hT2 : (T == T) = true)
    (hask : ∀ h, (∀ b o, b ≠ a → s.heap.get? b = some o → h.get? b = some o) → ∀ i j, i < vs.length → j < vs.length → ∀ C : Bool → Shared → Prop, C (lt i j) { s with heap := h } → kas_ask prog w A oneType' vs i j C { s with heap := h })
    (hrun : kasRun vs.length lt (kas_sort vs.length) = some p)
    (h : P (.done (.ret .none)) { s with heap := sortedHeap s.heap a vs (List.toArray (p.toList.map fun i => vs.getD i Value.none)) }) :
    wpAny (model prog w) A (Builtin.«list.sort» ⟨[.ref a], []⟩) P E s := by
  have ha : a < s.heap.objs.size := Heap.lt_size ho
  have s1 := Heap.SameBut.update s.heap a (Obj.mapSeq fun u0 => (#[] : Array Value))
  obtain ⟨e1, ho1⟩ : ∃ e1, (s.heap.update a (Obj.mapSeq fun u0 => #[])).get? a = some (seqObj "list" #[] e1) := ⟨_, get?_update_seq ho (fun u0 => #[])⟩
  have ho6 : (((s.heap.update a (Obj.mapSeq fun u0 => #[])).push (seqObj "tuple" vs.toArray 0)).push (seqObj "list" #[] 0)).get? a = some (seqObj "list" #[] e1) :=
    Heap.get?_push_of_some _ (Heap.get?_push_of_some _ ho1)
  have kp : ∀ b o, b ≠ a → s.heap.get? b = some o → (((s.heap.update a (Obj.mapSeq fun u0 => #[])).push (seqObj "tuple" vs.toArray 0)).push (seqObj "list" #[] 0)).get? b = some o := fun b o hb e =>
    Heap.get?_push_of_some _ (Heap.get?_push_of_some _ ((s1.2 b hb).trans e))
  rw [list_sort_plain]
  refine wpAny_bind (listItems_at ho rfl ?_)
  refine wpAny_bind (listUpdate_at ho rfl ?_ (by rw [List.size_toArray, sizeLine_eq]; omega) (Nat.zero_le _))
  refine wpAny_bind (seqEpoch_at ho1 rfl ?_)
  refine wpAny_bind (wpAny_newTuple ?_ (by show vs.length ≤ _; rw [sizeLine_eq]; omega))
  refine wpAny_bind (wpAny_newList ?_ (Nat.zero_le _))
  refine wpAny_holding ?_
  show wpAny (model prog w) A _ P E { s with heap := ((s.heap.update a (Obj.mapSeq fun u0 => #[])).push (seqObj "tuple" vs.toArray 0)).push (seqObj "list" #[] 0) }
  dsimp only
  have hn2 : ¬ vs.toArray.size < 2 := by rw [List.size_toArray]; omega
  rw [if_neg hn2, if_neg hn2]
  refine wpAny_bind (kas_kind h2 (hT _ kp) hT1 hT2 ?_)
  have est : SortSt.mk' oneType' (vs.toArray.zip vs.toArray) #[] 7 none = kas_st oneType' (pairsOf vs) (List.toArray (List.range vs.length)) := by
    have e := kas_range (pairsOf vs)
    rw [pairsOf_size] at e
    show SortSt.mk' oneType' (pairsOf vs) #[] 7 none = SortSt.mk' oneType' ((List.toArray (List.range vs.length)).map (kas_item (pairsOf vs))) #[] 7 none
    rw [e]
  generalize hS : ({ s with heap := ((s.heap.update a (Obj.mapSeq fun u0 => #[])).push (seqObj "tuple" vs.toArray 0)).push (seqObj "list" #[] 0) } : Shared) = S
  have ask : (kas_sort vs.length).kasWp (kas_cmp prog w A oneType' (pairsOf vs)) (fun p' s' => p' = p ∧ s' = S) S := by
    rw [← kas_ask_eq]
    refine kasRun_wp (fun i j hi hj C hC => ?_) _ p hrun ⟨rfl, rfl⟩
    subst hS
    exact hask _ kp i j hi hj C hC
  have run := kas_runs (E := E) (Q := fun u0 st' s' => ∃ p' : Array Nat, p'.size = vs.length ∧ arrOf st' = p'.map (kas_item (pairsOf vs)) ∧ failedOf st' = none ∧ p' = p ∧ s' = S)
    h2 h64 (fun p' st' s' a1 a2 a3 a4 => ⟨p', a1, a2, a3, a4⟩) ask
  rw [← est] at run
  refine wpAny_bind (wpAny_mono run ?_ fun u0 u1 e => e)
  rintro ⟨⟨⟩, st'⟩ s' ⟨p', hp, har, hf, rfl, rfl⟩
  subst hS
  dsimp only
  have hout : (arrOf st').map (·.2) = List.toArray (p'.toList.map fun i => vs.getD i Value.none) := by
    apply Array.toList_inj.mp
    rw [har, Array.map_map, Array.toList_map]
    exact List.map_congr_left fun i u0 => by show (kas_item (pairsOf vs) i).2 = _; rw [kas_item_eq]
  have hsz : (List.toArray (p'.toList.map fun i => vs.getD i Value.none)).size = vs.length := by rw [List.size_toArray, List.length_map, Array.length_toList, hp]
  rw [hout]
  refine wpAny_bind (seqEpoch_at ho6 rfl ?_)
  refine wpAny_bind (listUpdate_at ho6 rfl ?_ (Nat.zero_le _) (Nat.le_trans (Nat.le_of_eq hsz) (by rw [sizeLine_eq]; omega)))
  rw [hf]
  simp only [bne_self_eq_false, Bool.false_eq_true, if_false]
  exact wpAny_pure h
end
noncomputable def intsLL : List MV → Option (List (List Int))
  | [] => some []
  | .list xs :: r => (intsOf xs).bind fun a => (intsLL r).map (a :: ·)
  | _ => none
noncomputable def ltLL (a b : List Int) : Bool := ltFrom (fun j => a.getD j 0 == b.getD j 0) (fun j => decide (a.getD j 0 < b.getD j 0)) 2 0
noncomputable def bSortedL : MV → Option MV
  | .list xs => (intsLL xs).bind fun ls => if 2 ≤ ls.length ∧ ls.length < 64 ∧ ls.all (fun l => l.length == 2) = true then
      (kasRun ls.length (fun i j => ltLL (ls.getD i []) (ls.getD j [])) (kas_sort ls.length)).bind fun p => if p.toList.all (fun i => decide (i < ls.length)) = true then some (.list (p.toList.map fun i => xs.getD i .none)) else none else none
  | _ => none
theorem intsLL_inv {xs : List MV} {ls : List (List Int)} (h : intsLL xs = some ls) : xs = ls.map fun l => .list (l.map .int) := by
  induction xs generalizing ls with
  | nil => cases h; rfl
  | cons x xs ih =>
    cases x with
    | list ys =>
      obtain ⟨a, h1, h2⟩ := Option.bind_eq_some_iff.1 (show ((intsOf ys).bind fun a => (intsLL xs).map (a :: ·)) = some ls from h)
      obtain ⟨ms, h3, rfl⟩ := Option.map_eq_some_iff.1 h2
      rw [ih h3, intsOf_inv h1]; rfl
    | _ => cases h
theorem intsLL_rep {h : Heap} {K : Addr → Prop} {vs : List Value} {xs : List MV} {ls : List (List Int)} (ra : RepAll h K vs xs) (e : intsLL xs = some ls) :
    ls.length = vs.length ∧ ∀ i, i < vs.length → ∃ a ws, vs.getD i Value.none = .ref a ∧ Ls h a (List.toArray ws) ∧ IntsAre ws (ls.getD i []) := by
  obtain rfl := intsLL_inv e
  have hl : ls.length = vs.length := (ra.length.trans (List.length_map ..)).symm
  refine ⟨hl, fun i hi => ?_⟩
  have hx := List.getElem?_eq_getElem (Nat.lt_of_lt_of_eq hi hl.symm)
  obtain ⟨v, hv, rv⟩ := ra.get (i := i) (mv := .list (ls[i].map .int)) (by rw [List.getElem?_map, hx]; rfl)
  obtain ⟨a, ws, rfl, hp, rr⟩ := (RepH.of rv).isList
  rw [List.getD_eq_getElem?_getD, List.getD_eq_getElem?_getD, hv, hx]
  exact ⟨a, ws, rfl, hp, intsM_rep rr⟩
theorem ints_len {vs : List Value} {ns : List Int} (h : IntsAre vs ns) : vs.length = ns.length := by
  induction h with
  | nil => rfl
  | cons n t r ih => exact congrArg (· + 1) ih
theorem RepAll.pick {h : Heap} {K : Addr → Prop} {vs : List Value} {xs : List MV} (ra : RepAll h K vs xs) : ∀ is : List Nat, (∀ i ∈ is, i < vs.length) → RepAll h K (is.map fun i => vs.getD i Value.none) (is.map fun i => xs.getD i .none)
  | [], _ => .nil
  | i :: is, hi => by
    have hlt := hi i (List.mem_cons_self ..)
    have hx : xs[i]? = some (xs.getD i .none) := by
      have : i < xs.length := by rw [← ra.length]; exact hlt
      rw [List.getD_eq_getElem?_getD, List.getElem?_eq_getElem this]; rfl
    obtain ⟨v, hv, rv⟩ := ra.get hx
    refine .cons ?_ (ra.pick is fun j hj => hi j (List.mem_cons_of_mem _ hj))
    show Rep h K (vs.getD i Value.none) (xs.getD i .none)
    rw [List.getD_eq_getElem?_getD, hv]
    exact rv
theorem bf_sortedL {C : Cfg} : Bf1 C (.builtin "sorted") bSortedL := fun A rm s K v x c hK r h => by
  cases x with
  | list xs =>
    obtain ⟨l, vs, rfl, hl, ra⟩ := r.isList
    have h : ((intsLL xs).bind fun ls => if 2 ≤ ls.length ∧ ls.length < 64 ∧ ls.all (fun l => l.length == 2) = true then
      (kasRun ls.length (fun i j => ltLL (ls.getD i []) (ls.getD j [])) (kas_sort ls.length)).bind fun p => if p.toList.all (fun i => decide (i < ls.length)) = true then some (MV.list (p.toList.map fun i => xs.getD i .none)) else none else none) = some c := h
    rw [Option.bind_eq_some_iff] at h
    obtain ⟨ls, h1, h⟩ := h
    by_cases hc : 2 ≤ ls.length ∧ ls.length < 64 ∧ ls.all (fun l => l.length == 2) = true
    · rw [if_pos hc, Option.bind_eq_some_iff] at h
      obtain ⟨p, hp, h⟩ := h
      by_cases hpa : p.toList.all (fun i => decide (i < ls.length)) = true
      case neg => rw [if_neg hpa] at h; cases h
      rw [if_pos hpa] at h
      cases h
      obtain ⟨h2, h64, hall⟩ := hc
      obtain ⟨e1, e2⟩ := intsLL_rep ra h1
      rw [e1] at h2 h64 hp
      have hpi : ∀ i ∈ p.toList, i < vs.length := fun i hi => by
        have := List.all_eq_true.1 hpa i hi
        rw [decide_eq_true_iff, e1] at this
        exact this
      have hu := rm.u
      have hul : A.in1.in1.units < cLine := by show A.units + 1 + 1 < 9900; omega
      refine wp_sized (Calls.call_function_entry kind_sorted plain_sorted entry_sorted (args_sorted1 _) ?_)
      unfold Builtin.«sorted»
      refine wpAny_bind (m := checkCount "sorted" 1 1 _) (wpAny_pure ?_)
      refine wpAny_bind (collect_list hl.isList ?_ (by rw [sizeLine_eq]; omega))
      refine wpAny_bind (wpAny_newList ?_ (by rw [sizeLine_eq]; omega))
      have hsz : ((s.heap.push (seqObj "list" #[] 0)).update s.heap.objs.size (Obj.mapSeq (· ++ vs.toArray))).objs.size = s.heap.objs.size + 1 := by
        rw [Heap.size_update, size_push']
      have hoL : (((s.heap.push (seqObj "list" #[] 0)).update s.heap.objs.size (Obj.mapSeq (· ++ vs.toArray))).push (seqObj "list" vs.toArray 0)).get? (s.heap.objs.size + 1) = some (seqObj "list" vs.toArray 0) := by
        rw [← hsz]; exact Heap.get?_push_size _ rfl
      have kp : ∀ b o, s.heap.get? b = some o → (((s.heap.push (seqObj "list" #[] 0)).update s.heap.objs.size (Obj.mapSeq (· ++ vs.toArray))).push (seqObj "list" vs.toArray 0)).get? b = some o := fun b o q => by
        have hlt : b < s.heap.objs.size := Heap.lt_size q
        rw [Heap.get?_push_ne _ _ _ (by rw [hsz]; exact Nat.ne_of_lt (Nat.lt_succ_of_lt hlt)), Heap.get?_update_ne _ _ _ _ (Nat.ne_of_lt hlt), Heap.get?_push_ne _ _ _ (Nat.ne_of_lt hlt)]
        exact q
      have kp2 : ∀ h : Heap, (∀ b o, b ≠ s.heap.objs.size + 1 → (((s.heap.push (seqObj "list" #[] 0)).update s.heap.objs.size (Obj.mapSeq (· ++ vs.toArray))).push (seqObj "list" vs.toArray 0)).get? b = some o → h.get? b = some o) → ∀ b o, s.heap.get? b = some o → h.get? b = some o := fun h k b o q =>
        k b o (Nat.ne_of_lt (Nat.lt_succ_of_lt (Heap.lt_size q))) (kp b o q)
      show wp C A.in1 _ _ { s with heap := ((s.heap.push (seqObj "list" #[] 0)).update s.heap.objs.size (Obj.mapSeq (· ++ vs.toArray))).push (seqObj "list" vs.toArray 0) }
      rw [hsz]
      refine wpAny_bind (wpAny_holding (wpAny_call_entry slot_list_sort ⟨_, hoL, rfl⟩ entry_list_sort (sort_by_asks (s := { s with heap := ((s.heap.push (seqObj "list" #[] 0)).update s.heap.objs.size (Obj.mapSeq (· ++ vs.toArray))).push (seqObj "list" vs.toArray 0) }) (T := .type "list") hoL h2 h64 (fun h k v hv => ?_) rfl rfl (fun h k i j hi hj Q hQ => ?_) hp ⟨_, rfl, wpAny_pure ⟨_, rfl, fun hsz' => ?_⟩⟩) (args_list_sort _)))
      · obtain ⟨i, hi, e⟩ := List.mem_iff_getElem.1 hv
        obtain ⟨b, ws, q1, ⟨n, q2⟩, q3⟩ := e2 i hi
        have : v = .ref b := by
          rw [← q1, List.getD_eq_getElem?_getD, List.getElem?_eq_getElem hi]; exact e.symm
        subst this
        exact (Looks.ld (kp2 h k b _ q2)).andThen .now
      · obtain ⟨b, ws, q1, q2, q3⟩ := e2 i hi
        obtain ⟨b', ws', q1', q2', q3'⟩ := e2 j hj
        have l1 : (ls.getD i []).length = 2 := by
          have hi' : i < ls.length := by rw [e1]; exact hi
          rw [List.getD_eq_getElem?_getD, List.getElem?_eq_getElem hi']
          exact eq_of_beq (List.all_eq_true.1 hall _ (List.getElem_mem hi'))
        have l2 : (ls.getD j []).length = 2 := by
          have hj' : j < ls.length := by rw [e1]; exact hj
          rw [List.getD_eq_getElem?_getD, List.getElem?_eq_getElem hj']
          exact eq_of_beq (List.all_eq_true.1 hall _ (List.getElem_mem hj'))
        have w1 : ws.toArray.size = 2 := by rw [List.size_toArray, ints_len q3, l1]
        have w2 : ws'.toArray.size = 2 := by rw [List.size_toArray, ints_len q3', l2]
        unfold kas_ask
        rw [q1, q1']
        refine keyLt_list (e := fun k => (ls.getD i []).getD k 0 == (ls.getD j []).getD k 0) (lt := fun k => decide ((ls.getD i []).getD k 0 < (ls.getD j []).getD k 0)) (q2.at fun o e => kp2 h k b o e) (q2'.at fun o e => kp2 h k b' o e) (by rw [w1, w2]) hul (fun m h1 h2 => ?_) (by rw [w1]; exact hQ)
        obtain ⟨t, g1⟩ := intsAre_get (i := m) (v := ws.toArray[m]) q3 (by simp)
        obtain ⟨t', g2⟩ := intsAre_get (i := m) (v := ws'.toArray[m]) q3' (by simp)
        rw [g1, g2]
        exact ⟨(EqGives.int _ _ _ _).at _ _, fun prog w E Q hq => PyProof.Rows.lt_int hq⟩
      · obtain ⟨e, he⟩ := sortedHeap_at (vs := vs) (out := List.toArray (p.toList.map fun i => vs.getD i Value.none)) hoL
        have old : ∀ b o, s.heap.get? b = some o → (sortedHeap (((s.heap.push (seqObj "list" #[] 0)).update s.heap.objs.size (Obj.mapSeq (· ++ vs.toArray))).push (seqObj "list" vs.toArray 0)) (s.heap.objs.size + 1) vs (List.toArray (p.toList.map fun i => vs.getD i Value.none))).get? b = some o := fun b o eb => by
          have hlt := Heap.lt_size eb
          rw [sortedHeap_old (Nat.ne_of_lt (Nat.lt_succ_of_lt hlt)) (by rw [size_push', hsz]; exact Nat.lt_succ_of_lt (Nat.lt_succ_of_lt hlt))]
          exact kp b o eb
        exact ⟨.list (vs := p.toList.map fun i => vs.getD i Value.none) ⟨e, he⟩ (fun q => Nat.not_lt_of_ge (Nat.le_succ _) (hK _ q)) ((ra.pick p.toList hpi).mono (fun b o u0 e => old b o e) fun b h => .inl h),
          ⟨fun b o u0 eb => old b o eb, hsz', fun u0 u1 u2 e => e, Nat.le_refl _, fun q => q, rfl⟩⟩
    · rw [if_neg hc] at h; cases h
  | _ => cases h
theorem getH_set {ρ : List Sl} {sl : Sl} {i j : Nat} (h : i ≠ j) : getH (ρ.set i sl) j = getH ρ j := by
  unfold getH
  rw [List.getElem?_set_ne h]
theorem getV_set {ρ : List Sl} {sl : Sl} {i j : Nat} (h : i ≠ j) : getV (ρ.set i sl) j = getV ρ j := by
  unfold getV
  rw [List.getElem?_set_ne h]
end Mine
end

section
open PySem PyProof.Rows
set_option linter.unusedVariables false
set_option maxRecDepth 100000
namespace Mine

theorem seqF_next {g h : List Sl → Option (Fl × List Sl)} {ρ ρ₁ : List Sl} {r : Option (Fl × List Sl)} (h1 : g ρ = some (.next, ρ₁)) (h2 : h ρ₁ = r) : seqF g h ρ = r := by unfold seqF; rw [h1]; exact h2
theorem seqF_ret {g h : List Sl → Option (Fl × List Sl)} {ρ ρ₁ : List Sl} {v : MV} (h1 : g ρ = some (.ret v, ρ₁)) : seqF g h ρ = some (.ret v, ρ₁) := by unfold seqF; rw [h1]
theorem setF_eq {i : Nat} {f : List Sl → Option MV} {ρ : List Sl} {v : MV} (h : f ρ = some v) : setF i f ρ = some (.next, ρ.set i (.v v)) := by unfold setF; rw [h]; rfl
theorem setNF_eq {i : Nat} {f : List Sl → Option (List MV)} {ρ : List Sl} {v : List MV} (h : f ρ = some v) : setNF i f ρ = some (.next, ρ.set i (.m v)) := by unfold setNF; rw [h]; rfl
theorem setCF_eq {own : Bool} {i : Nat} {f : List Sl → Option (List MV)} {ρ : List Sl} {v : List MV} (h : f ρ = some v) : setCF own i f ρ = some (.next, ρ.set i (if own then .m v else .v (.list v))) := by unfold setCF; rw [h]; rfl
theorem bin2_eq {op : MV → MV → Option MV} {f g : List Sl → Option MV} {ρ : List Sl} {a b c : MV} (h1 : f ρ = some a) (h2 : g ρ = some b) (h3 : op a b = some c) : bin2 op f g ρ = some c := by unfold bin2; rw [h1, Option.bind_some, h2, Option.bind_some, h3]
theorem cmp2_eq {op : CmpOp} {f g : List Sl → Option MV} {ρ : List Sl} {a b : MV} {c : Bool} (h1 : f ρ = some a) (h2 : g ρ = some b) (h3 : cmpOp op a b = some c) : cmp2 op f g ρ = some c := by unfold cmp2; rw [h1, Option.bind_some, h2, Option.bind_some, h3]
theorem iteF_eq {α : Type} {u : List Sl → Option Bool} {f g : List Sl → Option α} {ρ : List Sl} {b : Bool} {r : Option α} (h1 : u ρ = some b) (h2 : (if b then f ρ else g ρ) = r) : iteF u f g ρ = r := by unfold iteF; rw [h1]; exact h2
theorem iteF_t {α : Type} {u : List Sl → Option Bool} {f g : List Sl → Option α} {ρ : List Sl} {r : Option α} (h1 : u ρ = some true) (h2 : f ρ = r) : iteF u f g ρ = r := iteF_eq h1 h2
theorem iteF_f {α : Type} {u : List Sl → Option Bool} {f g : List Sl → Option α} {ρ : List Sl} {r : Option α} (h1 : u ρ = some false) (h2 : g ρ = r) : iteF u f g ρ = r := iteF_eq h1 h2
theorem boolF_eq {t : List Sl → Option Bool} {ρ : List Sl} {b : Bool} (h : t ρ = some b) : boolF t ρ = some (.bool b) := by unfold boolF; rw [h]; rfl
theorem truthF_eq {f : List Sl → Option MV} {ρ : List Sl} {v : MV} {b : Bool} (h : f ρ = some v) (h2 : truthV v = some b) : truthF f ρ = some b := by unfold truthF; rw [h]; exact h2
theorem andT_eq {t u : List Sl → Option Bool} {ρ : List Sl} {b c : Bool} (h : t ρ = some b) (h2 : b = true → u ρ = some c) : andT t u ρ = some (b && c) := by
  unfold andT; rw [h, Option.bind_some]; cases b with
  | true => simpa using h2 rfl
  | false => rfl
theorem orT_eq {t u : List Sl → Option Bool} {ρ : List Sl} {b c : Bool} (h : t ρ = some b) (h2 : b = false → u ρ = some c) : orT t u ρ = some (b || c) := by
  unfold orT; rw [h, Option.bind_some]; cases b with
  | false => simpa using h2 rfl
  | true => rfl
theorem app1_eq {op : MV → Option MV} {f : List Sl → Option MV} {ρ : List Sl} {a b : MV} (h1 : f ρ = some a) (h2 : op a = some b) : app1 op f ρ = some b := by unfold app1; rw [h1]; exact h2
theorem appF_eq {φ : List MV → Option MV} {f : List Sl → Option (List MV)} {ρ : List Sl} {xs : List MV} {b : MV} (h1 : f ρ = some xs) (h2 : φ xs = some b) : appF φ f ρ = some b := by unfold appF; rw [h1]; exact h2
theorem consF_eq {f : List Sl → Option MV} {g : List Sl → Option (List MV)} {ρ : List Sl} {a : MV} {xs : List MV} (h1 : f ρ = some a) (h2 : g ρ = some xs) : consF f g ρ = some (a :: xs) := by unfold consF; rw [h1, Option.bind_some, h2]; rfl
theorem listN_eq {f : List Sl → Option (List MV)} {ρ : List Sl} {xs : List MV} (h1 : f ρ = some xs) (h2 : xs.length ≤ lim) : listN f ρ = some xs := by unfold listN; rw [h1, Option.bind_some, if_pos h2]
theorem ofN_eq {f : List Sl → Option (List MV)} {ρ : List Sl} {xs : List MV} (h1 : f ρ = some xs) : ofN f ρ = some (.list xs) := by unfold ofN; rw [h1]; rfl
theorem tupF_eq {f : List Sl → Option (List MV)} {ρ : List Sl} {xs : List MV} (h1 : f ρ = some xs) (h2 : xs.length ≤ lim) : tupF f ρ = some (.tuple xs) := by unfold tupF; rw [h1, Option.bind_some, if_pos h2]
theorem partF_eq {f : List Sl → Option MV} {ρ : List Sl} {i : Int} (h1 : f ρ = some (.int i)) : partF f ρ = some (some i) := by unfold partF; rw [h1]
theorem sliceF_eq {f : List Sl → Option MV} {a b : List Sl → Option (Option Int)} {ρ : List Sl} {x y : MV} {lo hi : Option Int} (h1 : f ρ = some x) (h2 : a ρ = some lo) (h3 : b ρ = some hi) (h4 : sliceOp lo hi x = some y) : sliceF f a b ρ = some y := by
  unfold sliceF; rw [h1, Option.bind_some, h2, Option.bind_some, h3, Option.bind_some, h4]
theorem retF_eq {p : List Bool} {f : List Sl → Option MV} {ρ : List Sl} {v : MV} (h : f (frzP p ρ) = some v) : retF p f ρ = some (.ret v, frzP p ρ) := by unfold retF; rw [h]; rfl
theorem setTF_eq {is : List Nat} {f : List Sl → Option MV} {ρ ρ' : List Sl} {v : MV} {xs : List MV} (h1 : f ρ = some v) (h2 : partsOf v = some xs) (h3 : setAll is xs ρ = some ρ') : setTF is f ρ = some (.next, ρ') := by
  unfold setTF; rw [h1, Option.bind_some, h2, Option.bind_some, h3]; rfl
theorem augF_eq {i : Nat} {op : Operator} {f : List Sl → Option MV} {ρ : List Sl} {a b c : MV} (h1 : getV ρ i = some a) (h2 : f ρ = some b) (h3 : iop op a b = some c) : augF i op f ρ = some (.next, ρ.set i (.v c)) := by
  unfold augF; rw [h1, Option.bind_some, h2, Option.bind_some, h3]; rfl
theorem appendF_eq {i : Nat} {f : List Sl → Option MV} {ρ : List Sl} {xs : List MV} {v : MV} (h1 : getM ρ i = some xs) (h2 : f ρ = some v) (h3 : xs.length < lim) : appendF i f ρ = some (.next, ρ.set i (.m (xs ++ [v]))) := by
  unfold appendF; rw [h1, Option.bind_some, h2, Option.bind_some, if_pos h3]
theorem augIF_eq {i : Nat} {op : Operator} {g f : List Sl → Option MV} {ρ : List Sl} {xs : List MV} {k : Int} {a b c : MV} (h1 : getM ρ i = some xs) (h2 : g ρ = some (.int k)) (h3 : f ρ = some b) (h4 : 0 ≤ k ∧ k < xs.length ∧ xs.length ≤ lim) (h5 : xs[k.toNat]? = some a) (h6 : iop op a b = some c) :
    augIF i op g f ρ = some (.next, ρ.set i (.m (xs.set k.toNat c))) := by
  unfold augIF; rw [h1, Option.bind_some, h2]; show (f ρ).bind _ = _; rw [h3, Option.bind_some, if_pos h4, h5, Option.bind_some, h6]; rfl
theorem forF_eq {f : List Sl → Option (List MV)} {t : MV → List Sl → Option (List Sl)} {g : List Sl → Option (Fl × List Sl)} {ρ : List Sl} {xs : List MV} {r : Option (Fl × List Sl)} (h1 : f ρ = some xs) (h2 : forL t g xs ρ = r) : forF f t g ρ = r := by unfold forF; rw [h1]; exact h2
theorem forL_next {t : MV → List Sl → Option (List Sl)} {g : List Sl → Option (Fl × List Sl)} {ρ ρ₁ ρ₂ : List Sl} {x : MV} {xs : List MV} {r : Option (Fl × List Sl)} (h1 : t x ρ = some ρ₁) (h2 : g ρ₁ = some (.next, ρ₂)) (h3 : forL t g xs ρ₂ = r) : forL t g (x :: xs) ρ = r := by
  rw [forL, h1]; simp only [h2]; exact h3
theorem forL_ret {t : MV → List Sl → Option (List Sl)} {g : List Sl → Option (Fl × List Sl)} {ρ ρ₁ ρ₂ : List Sl} {x v : MV} {xs : List MV} (h1 : t x ρ = some ρ₁) (h2 : g ρ₁ = some (.ret v, ρ₂)) : forL t g (x :: xs) ρ = some (.ret v, ρ₂) := by
  rw [forL, h1]; simp only [h2]
theorem valI_eq {f : List Sl → Option MV} {ρ : List Sl} {a : MV} {xs : List MV} (h1 : f ρ = some a) (h2 : iterOf a = some xs) : valI f ρ = some xs := by unfold valI; rw [h1]; exact h2
theorem enumI_eq {f : List Sl → Option MV} {ρ : List Sl} {a : MV} {xs : List MV} (h1 : f ρ = some a) (h2 : enumOf a = some xs) : enumI f ρ = some xs := by unfold enumI; rw [h1]; exact h2
theorem rangeI_eq {f : List Sl → Option MV} {ρ : List Sl} {n : Nat} (h1 : f ρ = some (.int n)) (h2 : n < 2 ^ 62) : rangeI f ρ = some (intsL 0 n) := by
  unfold rangeI; rw [h1]
  have : r62 (n : Int) = true := by unfold r62; rw [Bool.and_eq_true, decide_eq_true_iff, decide_eq_true_iff]; omega
  show (if r62 (n : Int) = true then some (intsL 0 (n : Int).toNat) else none) = _
  rw [if_pos this, Int.toNat_natCast]
theorem runF_ret {ps os : List Str} {g : List Sl → Option (Fl × List Sl)} {xs : List MV} {v : MV} {ρ : List Sl} (hl : xs.length = ps.length) (h : g (init os xs) = some (.ret v, ρ)) : runF ps os g xs = some v := by unfold runF; rw [if_pos hl, h]
theorem compN_eq {vars : List Str} {caps : List (Nat × Str)} {f : List Sl → Option (List MV)} {t : MV → List Sl → Option (List Sl)} {u : List Sl → Option Bool} {B : List Sl → List MV → Option (List Sl × List MV)} {ρ ρ' : List Sl} {xs ys : List MV} (h1 : f ρ = some xs)
    (h2 : compL t u B xs (capR vars caps ρ) [] = some (ρ', ys)) : compN vars caps f t u B ρ = some ys := by unfold compN; rw [h1, Option.bind_some, h2]; rfl

structure Res (g : List Sl → Option (Fl × List Sl)) (ρ : List Sl) (v : MV) : Prop where
  mk ::
  out : ∃ ρ', g ρ = some (.ret v, ρ')
theorem Res.next {g h : List Sl → Option (Fl × List Sl)} {ρ ρ₁ : List Sl} {v : MV} (h1 : g ρ = some (.next, ρ₁)) (h2 : Res h ρ₁ v) : Res (seqF g h) ρ v := by
  obtain ⟨ρ', h2⟩ := h2
  exact ⟨ρ', seqF_next h1 h2⟩
theorem Res.stop {g h : List Sl → Option (Fl × List Sl)} {ρ : List Sl} {v : MV} (h1 : Res g ρ v) : Res (seqF g h) ρ v := by
  obtain ⟨ρ', h1⟩ := h1
  exact ⟨ρ', seqF_ret h1⟩
theorem Res.ret {p : List Bool} {f : List Sl → Option MV} {ρ : List Sl} {v : MV} (h : f (frzP p ρ) = some v) : Res (retF p f) ρ v := ⟨_, retF_eq h⟩
theorem Res.ite {u : List Sl → Option Bool} {g h : List Sl → Option (Fl × List Sl)} {ρ : List Sl} {b : Bool} {v : MV} (h1 : u ρ = some b) (h2 : if b then Res g ρ v else Res h ρ v) : Res (iteF u g h) ρ v := by
  cases b with
  | true => obtain ⟨ρ', h2⟩ := h2; exact ⟨ρ', iteF_t h1 h2⟩
  | false => obtain ⟨ρ', h2⟩ := h2; exact ⟨ρ', iteF_f h1 h2⟩
theorem Res.run {ps os : List Str} {g : List Sl → Option (Fl × List Sl)} {xs : List MV} {v : MV} (hl : xs.length = ps.length) (h : Res g (init os xs) v) : runF ps os g xs = some v := by
  obtain ⟨ρ, h⟩ := h
  exact runF_ret hl h
end Mine
end

section
open PySem PyProof.Rows
set_option linter.unusedVariables false
set_option maxRecDepth 100000
namespace Mine

noncomputable def tk : Bool → List Nat → List (List Nat)
  | esc, [] => if esc then [[92]] else []
  | true, c :: cs => [92, c] :: tk false cs
  | false, c :: cs => if c = 92 then tk true cs else [c] :: tk false cs
noncomputable def tkP : Bool → Nat → List Nat → List (Nat × List Nat)
  | esc, j, [] => if esc then [(j - 1, [92])] else []
  | true, j, c :: cs => (j, [92, c]) :: tkP false (j + 1) cs
  | false, j, c :: cs => if c = 92 then tkP true (j + 1) cs else (j, [c]) :: tkP false (j + 1) cs
theorem tkP_snd : ∀ (cs : List Nat) (esc : Bool) (j : Nat), (tkP esc j cs).map (·.2) = tk esc cs
  | [], esc, j => by cases esc <;> rfl
  | c :: cs, true, j => by rw [tkP, tk, List.map_cons, tkP_snd cs]
  | c :: cs, false, j => by
    rw [tkP, tk]
    split
    · exact tkP_snd cs true (j + 1)
    · rw [List.map_cons, tkP_snd cs]
theorem escG_is : ∀ (cs : List Nat) (esc : Bool) (j : Nat), (esc = true → 0 < j) → escG esc j cs = (tkP esc j cs).map fun p => .tuple [.int p.1, .str p.2]
  | [], true, j, h => by
    have : ((j : Int) - 1) = ((j - 1 : Nat) : Int) := by have := h rfl; omega
    show [MV.tuple [.int ((j : Int) - 1), .str [92]]] = [MV.tuple [.int ((j - 1 : Nat) : Int), .str [92]]]
    rw [this]
  | [], false, j, h => rfl
  | c :: cs, true, j, h => by rw [escG, tkP, List.map_cons, escG_is cs false (j + 1) (fun h => by cases h)]
  | c :: cs, false, j, h => by
    rw [escG, tkP]
    split
    · exact escG_is cs true (j + 1) (fun u0 => Nat.succ_pos j)
    · rw [List.map_cons, escG_is cs false (j + 1) (fun h => by cases h)]

noncomputable def dcN : Nat → List (List Nat) → Option Nat
  | d, [] => some d
  | d, t :: ts => if t = [40] then dcN (d + 1) ts else if t = [41] then (match d with | 0 => none | d + 1 => dcN d ts) else dcN d ts

noncomputable def fin (A : List Nat) : Nat → Option Nat → List (Nat × List Nat) → List Nat
  | start, _, [] => A.drop start
  | start, none, (p, t) :: ts => if t = [34] then fin A start (some p) ts else fin A start none ts
  | start, some o, (p, t) :: ts => if t = [34] then (A.drop start).take (o - start) ++ fin A (p + 1) none ts else fin A start (some o) ts

noncomputable def K0 : Option (List (List Nat)) → List (List Nat) → List (List Nat)
  | none, [] => []
  | some q, [] => q
  | none, t :: ts => if t = [34] then K0 (some [t]) ts else t :: K0 none ts
  | some q, t :: ts => if t = [34] then K0 none ts else K0 (some (q ++ [t])) ts

noncomputable def sg (A : List Nat) (a b : Nat) : List Nat := (A.drop a).take (b - a)
theorem sg_app (A : List Nat) {a b c : Nat} (h : a ≤ b) (h2 : b ≤ c) : sg A a b ++ sg A b c = sg A a c := by
  unfold sg
  have e : c - a = (b - a) + (c - b) := by omega
  have e2 : A.drop b = (A.drop a).drop (b - a) := by rw [List.drop_drop]; congr 1; omega
  rw [e, List.take_add, e2]
theorem sg_end (A : List Nat) {a b : Nat} (h : A.length ≤ b) : sg A a b = A.drop a := by
  unfold sg
  exact List.take_of_length_le (by rw [List.length_drop]; omega)
theorem sg_self (A : List Nat) (a : Nat) : sg A a a = [] := by simp [sg]
theorem sg_one {A : List Nat} {j c : Nat} {cs : List Nat} (h : A.drop j = c :: cs) : sg A j (j + 1) = [c] := by
  simp [sg, h]
theorem drop_succ {A : List Nat} {j c : Nat} {cs : List Nat} (h : A.drop j = c :: cs) : A.drop (j + 1) = cs := by
  rw [← List.drop_drop, h]; rfl
theorem drop_pred {A : List Nat} {j x : Nat} (h0 : 0 < j) (h : A[j - 1]? = some x) : A.drop (j - 1) = x :: A.drop j := by
  obtain ⟨hl, e⟩ := List.getElem?_eq_some_iff.1 h
  have := List.drop_eq_getElem_cons hl
  rw [this, e]
  congr 2
  omega

theorem fin_is (A : List Nat) : ∀ (B : List Nat) (esc : Bool) (j t start : Nat), A.drop j = B → j ≤ A.length → (if esc then j = t + 1 ∧ A[t]? = some 92 else j = t) → start ≤ t →
    fin A start none (tkP esc j B) = sg A start t ++ (K0 none (tk esc B)).flatten ∧
    ∀ o q, start ≤ o → o ≤ t → List.flatten q = sg A o t →
      fin A start (some o) (tkP esc j B) = sg A start o ++ (K0 (some q) (tk esc B)).flatten := by
  intro B
  induction B with
  | nil =>
    intro esc j t start hB hj ht hs
    have hl : A.length = j := by
      have := congrArg List.length hB
      rw [List.length_drop] at this
      simp at this; omega
    cases esc with
    | false =>
      have ht : j = t := ht
      subst ht
      refine ⟨?_, fun o q ho ho2 hq => ?_⟩
      · show A.drop start = _ ++ []
        rw [List.append_nil, sg_end A (by omega)]
      · show A.drop start = _ ++ q.flatten
        rw [hq, sg_app A ho ho2, sg_end A (by omega)]
    | true =>
      obtain ⟨e, h92⟩ : j = t + 1 ∧ A[t]? = some 92 := ht
      subst e
      have h1 : A.drop t = [92] := by
        have := drop_pred (A := A) (j := t + 1) (Nat.succ_pos t) h92
        rwa [hB] at this
      have h2 : sg A t (t + 1) = [92] := sg_one h1
      refine ⟨?_, fun o q ho ho2 hq => ?_⟩
      · show A.drop start = _ ++ [92]
        rw [← h2, sg_app A hs (Nat.le_succ t), sg_end A (by omega)]
      · show A.drop start = _ ++ (K0 (some q) [[92]]).flatten
        have : K0 (some q) [[92]] = q ++ [[92]] := rfl
        rw [this, List.flatten_append, hq]
        show A.drop start = _ ++ (_ ++ [92])
        rw [← h2, sg_app A ho2 (Nat.le_succ t), sg_app A ho (by omega), sg_end A (by omega)]
  | cons c cs ih =>
    intro esc j t start hB hj ht hs
    have hB2 := drop_succ hB
    have hjl : j < A.length := by
      have := congrArg List.length hB
      rw [List.length_drop] at this
      simp at this; omega
    cases esc with
    | true =>
      obtain ⟨e, h92⟩ : j = t + 1 ∧ A[t]? = some 92 := ht
      subst e
      have h1 : A.drop t = 92 :: c :: cs := by
        have := drop_pred (A := A) (j := t + 1) (Nat.succ_pos t) h92
        rwa [hB] at this
      have h2 : sg A t (t + 1 + 1) = [92, c] := by
        rw [← sg_app A (Nat.le_succ t) (Nat.le_succ (t + 1)), sg_one h1, sg_one hB]; rfl
      have IH := ih false (t + 1 + 1) (t + 1 + 1) start hB2 hjl rfl (by omega)
      have hne : ¬ [92, c] = [34] := by intro h; cases h
      refine ⟨?_, fun o q ho ho2 hq => ?_⟩
      · rw [tkP, tk, fin, K0, if_neg hne, if_neg hne, IH.1, List.flatten_cons, ← List.append_assoc, ← h2, sg_app A hs (by omega)]
      · rw [tkP, tk, fin, K0, if_neg hne, if_neg hne, IH.2 o (q ++ [[92, c]]) ho (by omega)]
        rw [List.flatten_append, hq]
        show _ ++ [92, c] = _
        rw [← h2, sg_app A ho2 (by omega)]
    | false =>
      have ht : j = t := ht
      subst ht
      by_cases hc : c = 92
      · subst hc
        have h92 : A[j]? = some 92 := by
          have := congrArg List.head? hB
          rwa [List.head?_drop] at this
        have IH := ih true (j + 1) j start hB2 hjl ⟨rfl, h92⟩ hs
        rw [tkP, tk, if_pos rfl, if_pos rfl]
        exact IH
      · have h2 : sg A j (j + 1) = [c] := sg_one hB
        rw [tkP, tk, if_neg hc, if_neg hc]
        by_cases hq : c = 34
        · subst hq
          refine ⟨?_, fun o q ho ho2 hq => ?_⟩
          · have IH := ih false (j + 1) (j + 1) start hB2 hjl rfl (by omega)
            rw [fin, K0, if_pos rfl, if_pos rfl, IH.2 j [[34]] hs (by omega) (by rw [h2]; rfl)]
          · have IH := ih false (j + 1) (j + 1) (j + 1) hB2 hjl rfl (Nat.le_refl _)
            rw [fin, K0, if_pos rfl, if_pos rfl, IH.1, sg_self]
            rfl
        · have hne : ¬ [c] = [34] := by intro h; injection h with h; exact hq h
          have IH := ih false (j + 1) (j + 1) start hB2 hjl rfl (by omega)
          refine ⟨?_, fun o q ho ho2 hq => ?_⟩
          · rw [fin, K0, if_neg hne, if_neg hne, IH.1, List.flatten_cons, ← List.append_assoc, ← h2, sg_app A hs (by omega)]
          · rw [fin, K0, if_neg hne, if_neg hne, IH.2 o (q ++ [[c]]) ho (by omega)]
            rw [List.flatten_append, hq]
            show _ ++ [c] = _
            rw [← h2, sg_app A ho2 (by omega)]
end Mine
end

section
open PySem PyProof.Rows
set_option linter.unusedVariables false
set_option maxRecDepth 100000
namespace Mine
noncomputable def val_ELLIPSIS_MARKER : List Nat := [46, 46, 46]

noncomputable def body_iter : List Stmt := bodyIn PySem.Challenge.pw_wb0025_01 6
noncomputable def phi_iter : Fs := { names := [("addr" : Str), ("pos" : Str), ("escape" : Str), ("ch" : Str)], sc := scopeIn PySem.Challenge.pw_wb0025_01 6, wc := true }
theorem fs_iter : FsOk phi_iter := FsOk.of (by decide)
theorem loc_iter : ∀ x ∈ phi_iter.names, phi_iter.kind x = some .local := by decide
noncomputable def loopOf : List Stmt → Expr × List Stmt
  | _ :: _ :: .For t _ b _ _ :: _ => (t, b)
  | _ => (.Constant .none 0 ⟨0, 0, 0, 0⟩, [])

theorem rm_func {A : Around} {k : Nat} {b : List Stmt} {env : Env} (r : Rm A (k + 1)) : Rm (A.in1.over (.func b env) []) k :=
  ⟨r.hh, (by have := r.d; show A.depth + 1 + k ≤ 900; omega), (by have := r.u; show A.units + 1 + 3 + 16 * k ≤ 9000; omega)⟩
theorem rm_loop {A : Around} {k : Nat} {t : Expr} {it : Value} {b b' : List Stmt} {env : Env} {κ : Result → Sem Fin} {p : Pos} (r : Rm A (k + 1)) : Rm (A.in1.over (.forLoop t it b [] env) [.ret κ none false [] (.func b' env) p []]) k :=
  ⟨r.hh, (by have := r.d; show A.depth + 1 + k ≤ 900; omega), (by have := r.u; show A.units + 1 + 3 + 16 * k ≤ 9000; omega)⟩

theorem lt4 {i : Nat} (h : i < 4) : i = 0 ∨ i = 1 ∨ i = 2 ∨ i = 3 := by omega
theorem tail_nat {n k : Nat} (h : k + 1 ≤ n) : n - (k + 1) = n - 1 - k ∧ n - k = n - 1 - k + 1 ∧ k ≤ n := by omega
theorem tail_facts {ys : List MV} {x : MV} {r : List MV} (q1 : ys.drop (ys.length - (x :: r).length) = x :: r) (q2 : (x :: r).length ≤ ys.length) : ys[ys.length - 1 - r.length]? = some x ∧ ys.drop (ys.length - r.length) = r ∧ r.length ≤ ys.length := by
  obtain ⟨e1, e2, e3⟩ := tail_nat (n := ys.length) (k := r.length) q2
  rw [List.length_cons, e1] at q1
  refine ⟨?_, ?_, e3⟩
  · have := congrArg (·[0]?) q1
    simpa using this
  · have := congrArg (List.drop 1) q1
    rw [List.drop_drop] at this
    rw [e2]
    exact this
inductive LI (C : Cfg) (env : Env) (L e i : Addr) (cs : List Nat) (St₀ : Nat → Heap → Prop) (s₀ : Shared) (esc : Bool) (j : Nat) (s : Shared) : Prop
  | mk (H : Nat → Option Addr) (pv cv : Sl) : Fm C phi_iter env (fun b => b = e ∨ b = i) H [.v (.str cs), pv, .v (.bool esc), cv] s → atomS pv = true → atomS cv = true → (0 < j → pv = .v (.int ((j : Int) - 1))) → (∀ k a, H k = some a → s₀.heap.objs.size ≤ a) →
    Since L e i s₀ s → (∃ old, IsEnum s.heap e i j old) → St₀ j s.heap → (esc = true → 0 < j) → LI C env L e i cs St₀ s₀ esc j s

theorem LI.again {C : Cfg} {env : Env} {L e i : Addr} {cs : List Nat} {St₀ : Nat → Heap → Prop} {s' s'' : Shared} {esc : Bool} {j : Nat} {H : Nat → Option Addr} {pv cv : Sl} (hL : env.locals = L) (hc : env.cells = []) (frame : ∀ j h h', St₀ j h → (∀ b ∈ [i], ∀ o, h.get? b = some o → h'.get? b = some o) → St₀ j h')
    (F : Fm C phi_iter env (fun b => b = e ∨ b = i) H [.v (.str cs), pv, .v (.bool esc), cv] s') (h1 : atomS pv = true) (h2 : atomS cv = true) (h3 : 0 < j → pv = .v (.int ((j : Int) - 1))) (h4 : ∃ old, IsEnum s'.heap e i j old) (h5 : St₀ j s'.heap) (h6 : esc = true → 0 < j) (R : Rel C (Own L e i) s' s'') :
    LI C env L e i cs St₀ s'' esc j s'' := by
  refine ⟨_, pv, cv, F.again hc loc_iter (by rw [List.all_cons, List.all_cons, List.all_cons, List.all_cons, h1, h2]; rfl) R (by rw [hL]; exact .inl rfl), h1, h2, h3, fun k a h => (by cases h), Late.refl _, ?_, frame _ _ _ h5 fun b hb o q => R.1 b o (by rw [List.mem_singleton.mp hb]; exact .inr (.inr rfl)) q, h6⟩
  obtain ⟨old, h4⟩ := h4
  exact ⟨old, R.1 e _ (.inr (.inl rfl)) h4⟩

section
variable {C : Cfg} {A : Around} {env : Env} {L e i : Addr} {cs : List Nat} {St₀ : Nat → Heap → Prop} {P : Nat → Value → Prop} {ys : List MV} {κ : Result → Sem Fin} {p : Pos}

theorem esc_loop (rm : Rm A 3) (E : EnvOk phi_iter env) (hc : env.cells = []) (hL : env.locals = L) (hei : e ≠ i) (hLe : L ≠ e) (hLi : L ≠ i) (hTe : C.hT.objs.size ≤ e) (hTi : C.hT.objs.size ≤ i)
    (D : ∀ A' : Around, A'.handled = none → Draws C.prog C.w A' i [i] cs.length P St₀) (hP : ∀ j v, P j v → ∃ c u, cs[j]? = some c ∧ v = .str ⟨#[c]⟩ u)
    (hend : ∀ esc s₀ s H pv cv, Fm C phi_iter env (fun b => b = e ∨ b = i) H [.v (.str cs), pv, .v (.bool esc), cv] s → atomS pv = true → atomS cv = true → (0 < cs.length → pv = .v (.int ((cs.length : Int) - 1))) → (∀ k a, H k = some a → s₀.heap.objs.size ≤ a) →
      Since L e i s₀ s → (esc = true → 0 < cs.length) → ys.drop (ys.length - (escG esc cs.length []).length) = escG esc cs.length [] → (escG esc cs.length []).length ≤ ys.length →
      Seg (model C.prog C.w) A.in1 (fun n s₀ r s₁ => r = .ok (.ret .none) ∧ PG L e i n s₀ s₁) (YG C L e i ys) (escG esc cs.length []).length s₀ (.func body_iter env) (κ (.ok .next)) [] s) :
    ∀ (k j : Nat) (esc : Bool) (s₀ s : Shared), cs.length - j = k → j ≤ cs.length → LI C env L e i cs St₀ s₀ esc j s → ys.drop (ys.length - (escG esc j (cs.drop j)).length) = escG esc j (cs.drop j) → (escG esc j (cs.drop j)).length ≤ ys.length →
      Seg (model C.prog C.w) A.in1 (fun n s₀ r s₁ => r = .ok (.ret .none) ∧ PG L e i n s₀ s₁) (YG C L e i ys) (escG esc j (cs.drop j)).length s₀ (.forLoop (loopOf body_iter).1 (.ref e) (loopOf body_iter).2 [] env)
        ((model C.prog C.w).den (.forLoop (loopOf body_iter).1 (.ref e) (loopOf body_iter).2 [] env)) [.ret κ none false [] (.func body_iter env) p []] s := by
  have W : ∀ A' : Around, A'.handled = none → WalksT C.prog C.w A' e [e, i] [e, i] cs.length (fun j vals => ∃ t x, P j x ∧ vals = #[.int j t, x]) (fun j h => (∃ old, IsEnum h e i j old) ∧ St₀ j h) (fun j T h => (∃ x, IsEnumOut h e i ((j : Int) + 1) x T) ∧ St₀ (j + 1) h ∧ T ≠ e ∧ T ≠ i) := fun A' hA' =>
    WalksT.enumerateD (D A'.in1 (show A'.in1.handled = none from hA')) e hei (by simpa using hei) (by simp)
  have rl : ∀ {t it b b'}, Rm (A.in1.over (.forLoop t it b [] env) [.ret κ none false [] (.func b' env) p []]) 2 := rm_loop rm
  have hco : env.scope.isCoroutine = false := by rw [E.scope]; rfl
  have stepE : ∀ {H ρ s s₁}, Fm C phi_iter env (fun b => b = e ∨ b = i) H ρ s → Late (fun b => b = e ∨ b = i) No s s₁ → Fm C phi_iter env (fun b => b = e ∨ b = i) H ρ s₁ := fun F L => F.step L (fun b h => ⟨h, (by rcases h with rfl | rfl <;> assumption), fun x q => by rw [hc] at q; cases q⟩) fun b h => .inl h
  have lateE : ∀ {s h' tk}, (∀ b o, b ∉ [e, i] → s.heap.get? b = some o → h'.get? b = some o) → s.heap.objs.size ≤ h'.objs.size → Late (fun b => b = e ∨ b = i) No s { s with heap := h', toks := tk } := fun hk hs => .heap (fun b o hb q => hk b o (by simpa using hb) q) hs
  have own : ∀ {H ρ s}, Fm C phi_iter env (fun b => b = e ∨ b = i) H ρ s → ∀ b, Own L e i b → b < s.heap.objs.size := fun F b q => by
    rcases q with rfl | rfl | rfl
    · rw [← hL]; exact F.locLt
    · exact F.k0 b (.inl rfl)
    · exact F.k0 b (.inr rfl)
  have wrOwn : ∀ {H : Nat → Option Addr} {n : Nat}, (∀ k a, H k = some a → n ≤ a) → ∀ b, Wr phi_iter env H b → Own L e i b ∨ n ≤ b := fun hh b h => by
    rcases h with h | ⟨_, x, h⟩ | ⟨k, h⟩
    · exact .inl (.inl (h.trans hL))
    · rw [hc] at h; cases h
    · exact .inr (hh k b h)
  have frD : ∀ j h h', St₀ j h → (∀ b ∈ [i], ∀ o, h.get? b = some o → h'.get? b = some o) → St₀ j h' := fun j h h' a b => (D callerA rfl).frame j h h' a b
  have enumK : ∀ {H ρ s s'} {j : Nat}, Fm C phi_iter env (fun b => b = e ∨ b = i) H ρ s → Late (Wr phi_iter env H) No s s' → ((∃ old, IsEnum s.heap e i j old) ∧ St₀ j s.heap) → ((∃ old, IsEnum s'.heap e i j old) ∧ St₀ j s'.heap) := fun F Lt q => by
    obtain ⟨⟨old, q1⟩, q2⟩ := q
    exact ⟨⟨old, Lt.keep e _ (fun w => F.wrK0 w (.inl rfl)) q1⟩, frD _ _ _ q2 fun b hb o x => Lt.keep b o (fun w => F.wrK0 w (.inr (List.mem_singleton.mp hb))) x⟩
  intro k
  induction k with
  | zero =>
    intro j esc s₀ s hk hj hI hy hle
    have hjl : j = cs.length := by omega
    subst hjl
    rw [List.drop_length] at hy hle ⊢
    obtain ⟨H, pv, cv, F, h1, h2, h3, h4, S, h5, h6, h7⟩ := hI
    show Seg _ A.in1 _ _ _ s₀ _ ((forTurn (loopOf body_iter).1 (.ref e) (loopOf body_iter).2 [] env).onRaise (fun x => do noteFrame x env; theTreesLotGoes x)) _ s
    rw [Sem.onRaise_eq_wrap]
    unfold forTurn
    refine seg_bind_wrap (wpAny_standAt ?_)
    refine seg_bind_wrap (wpAny_onRaise (wpAny_size ((W _ rl.hh).done s _ _ ⟨h5, h6⟩ fun h' tk hk' hsz => ?_)))
    have Le := lateE (tk := tk) hk' hsz
    refine seg_again rfl ?_
    show Seg _ A.in1 _ _ _ s₀ _ (.pure (.done .next)) _ _
    exact seg_leaf (.ok .next) (hend esc s₀ _ H pv cv (stepE F Le) h1 h2 h3 h4 (S.trans Le (fun b h => .inl (.inr h)) fun u0 h => h.elim) h7 hy hle)
  | succ k ih =>
    intro j esc s₀ s hk hj hI hy hle
    obtain ⟨H, pv, cv, F, h1, h2, h3, h4, S, h5, h6, h7⟩ := hI
    have hlt : j < cs.length := by omega
    show Seg _ A.in1 _ _ _ s₀ _ ((forTurn (loopOf body_iter).1 (.ref e) (loopOf body_iter).2 [] env).onRaise (fun x => do noteFrame x env; theTreesLotGoes x)) _ s
    rw [Sem.onRaise_eq_wrap]
    unfold forTurn
    refine seg_bind_wrap (wpAny_standAt ?_)
    refine seg_bind_wrap (wpAny_onRaise (wpAny_size ((W _ rl.hh).item j s _ _ hlt ⟨h5, h6⟩ fun T vals hp₁ tk hv hT htup hmid hk₁ hsz₁ => ?_)))
    refine seg_bind_wrap (wpAny_size ((W _ rl.hh).go _ _ _ j T _ _ _ hmid fun hp₂ hst₂ hk₂ hsz₂ => ?_))
    have hTn := (W _ (rl (t := (loopOf body_iter).1) (it := .ref e) (b := (loopOf body_iter).2) (b' := body_iter)).hh).apart j T _ hmid
    obtain ⟨t, x, hx, rfl⟩ := hv
    obtain ⟨c, u, hcs, rfl⟩ := hP j x hx
    have Le : Late (fun b => b = e ∨ b = i) No s { s with heap := hp₂, toks := tk } := lateE (fun b o hb q => hk₂ b o hb (hk₁ b o hb q)) (Nat.le_trans hsz₁ hsz₂)
    have F₂ := stepE F Le
    have htup₂ : hp₂.IsTuple T [Value.int j t, Value.str ⟨#[c]⟩ u].toArray := IsTuple.at htup fun o q => hk₂ T o hTn q
    have rT : Rep hp₂ (Kof (fun b => b = e ∨ b = i) phi_iter env H) (.ref T) (.tuple [.int j, .str [c]]) := .tuple htup₂ (fun q => Nat.lt_irrefl _ (Nat.lt_of_lt_of_le (F.kLt q) hT)) (.cons (.int _ _) (.cons (.str [c] u) .nil))
    refine seg_bind_wrap (wpAny_mono ((AsT.tup (C := C) (ℓ := 2) (is := [1, 3]) (NamesAt.cons (i := 1) rfl (fun u0 => rfl) (NamesAt.cons (i := 3) rfl (fun u0 => rfl) NamesAt.nil))).go _ rl env _ H _ _ _ _ [.v (.str cs), .v (.int j), .v (.bool esc), .v (.str [c])] F₂ rT rfl) (fun u0 s₃ o => ?_) fun u0 u1 h => h.elim)
    obtain ⟨H₃, F₃, L₃, hh₃⟩ := o
    have S₂ : Since L e i s₀ { s with heap := hp₂, toks := tk } := S.trans Le (fun b h => .inl (.inr h)) fun u0 h => h.elim
    have S₃ : Since L e i s₀ s₃ := S₂.trans L₃ (wrOwn h4) fun u0 h => h.elim
    have h4₃ : ∀ k a, H₃ k = some a → s₀.heap.objs.size ≤ a := fun k a q => (hh₃ k a q).elim (h4 k a) fun q => Nat.le_trans S₂.size q
    have en₃ := enumK (j := j + 1) F₂ L₃ (by have := hst₂; simpa using this)
    rw [Sem.bind_eq_wrap', Sem.wrap_wrap]
    refine seg_execs_cons (seg_if (TrS.val (C := C) (ℓ := 2) (EvH.name (i := 2) rfl) (fun u0 u1 => rfl)) rl F₃ (b := esc) rfl fun s₄ g₄ F₄ => ?_)
    have S₄ := S₃.then g₄
    have en₄ := enumK (j := j + 1) F₃ (g₄.mono (fun u0 h => h.elim) fun u0 h => h.elim) en₃
    have hd : cs.drop j = c :: cs.drop (j + 1) := by
      rw [List.drop_eq_getElem_cons hlt]
      congr 1
      exact (List.getElem?_eq_some_iff.mp hcs).2
    rw [hd] at hy hle ⊢
    have tail : ∀ {x : MV} {r : List MV}, ys.drop (ys.length - (x :: r).length) = x :: r → (x :: r).length ≤ ys.length → ys[ys.length - 1 - r.length]? = some x ∧ ys.drop (ys.length - r.length) = r ∧ r.length ≤ ys.length := fun {x r} q1 q2 => by
      exact tail_facts q1 q2
    cases esc with
    | true =>
      rw [if_pos rfl]
      have hy' : ys.drop (ys.length - (MV.tuple [.int j, .str [92, c]] :: escG false (j + 1) (cs.drop (j + 1))).length) = MV.tuple [.int j, .str [92, c]] :: escG false (j + 1) (cs.drop (j + 1)) := hy
      obtain ⟨t1, t2, t3⟩ := tail hy' hle
      show Seg _ A.in1 _ _ ((escG false (j + 1) (cs.drop (j + 1))).length + 1) s₀ _ _ _ s₄
      refine seg_execs_cons (seg_yield' (C := C) (ℓ := 2) (EvL.cons (EvS.name (i := 1) rfl) (EvL.cons (EvS.bin (EvH.of (EvS.str (cs := [92]) rfl)) (EvH.name (i := 3) rfl)) EvL.nil (fun u0 => rfl)) (fun u0 => rfl)) rl F₄ (xs := [.int j, .str [92, c]]) rfl (by show 2 ≤ lim; decide) rfl rfl rfl rfl (own F₄) S₄ t1 hco (notInter fs_iter env E) fun s₅ s₆ g₅ R => ?_)
      have F₅ := F₄.grow g₅
      have en₅ := enumK (j := j + 1) F₄ (g₅.mono (fun u0 h => h.elim) fun u0 h => h.elim) en₄
      obtain ⟨H₆, pv₆, cv₆, F₆, a1, a2, a3, a4, S₆, a5, a6, a7⟩ := LI.again (esc := true) (j := j + 1) hL hc frD F₅ rfl rfl (fun u0 => by simp) en₅.1 en₅.2 (fun u0 => Nat.succ_pos j) R
      refine seg_execs_cons (seg_ex (ExS.assign (C := C) (ℓ := 2) EvS.bool (i := 2) rfl (fun u0 => rfl) (fun u0 u1 => rfl)) rl F₆ rfl fun H₇ s₇ F₇ L₇ hh₇ => ?_)
      refine seg_again rfl (ih (j + 1) false s₆ s₇ (sub_next hk) hlt ?_ t2 t3)
      have en₇ := enumK (j := j + 1) F₆ L₇ ⟨a5, a6⟩
      exact ⟨H₇, pv₆, cv₆, F₇, a1, a2, a3, fun k a q => (hh₇ k a q).elim (a4 k a) id, S₆.trans L₇ (wrOwn a4) fun u0 h => h.elim, en₇.1, en₇.2, fun h => by cases h⟩
    | false =>
      rw [if_neg Bool.false_ne_true]
      refine seg_execs_cons (seg_if (TrS.cmp (C := C) (ℓ := 2) (EvH.name (i := 3) rfl) (EvH.of (EvS.str (cs := [92]) rfl)) rfl) rl F₄ (b := ([c] == [92])) rfl fun s₅ g₅ F₅ => ?_)
      have S₅ := S₄.then g₅
      have en₅ := enumK (j := j + 1) F₄ (g₅.mono (fun u0 h => h.elim) fun u0 h => h.elim) en₄
      by_cases h92 : c = 92
      · subst h92
        rw [if_pos (by decide)]
        have hy' : ys.drop (ys.length - (escG true (j + 1) (cs.drop (j + 1))).length) = escG true (j + 1) (cs.drop (j + 1)) := by rw [escG, if_pos rfl] at hy; exact hy
        have hle' : (escG true (j + 1) (cs.drop (j + 1))).length ≤ ys.length := by rw [escG, if_pos rfl] at hle; exact hle
        have e0 : (escG false j (92 :: cs.drop (j + 1))).length = (escG true (j + 1) (cs.drop (j + 1))).length := by rw [escG, if_pos rfl]
        rw [e0]
        refine seg_execs_cons (seg_ex (ExS.assign (C := C) (ℓ := 2) EvS.bool (i := 2) rfl (fun u0 => rfl) (fun u0 u1 => rfl)) rl F₅ rfl fun H₇ s₇ F₇ L₇ hh₇ => ?_)
        refine seg_again rfl (ih (j + 1) true s₀ s₇ (sub_next hk) hlt ?_ hy' hle')
        have en₇ := enumK (j := j + 1) F₅ L₇ en₅
        exact ⟨H₇, _, _, F₇, rfl, rfl, fun u0 => by simp, fun k a q => (hh₇ k a q).elim (h4₃ k a) fun q => Nat.le_trans S₅.size q, S₅.trans L₇ (wrOwn h4₃) fun u0 h => h.elim, en₇.1, en₇.2, fun u0 => Nat.succ_pos j⟩
      · rw [if_neg (by simpa using h92)]
        have e0 : escG false j (c :: cs.drop (j + 1)) = MV.tuple [.int j, .str [c]] :: escG false (j + 1) (cs.drop (j + 1)) := by rw [escG, if_neg h92]
        rw [e0] at hy hle ⊢
        obtain ⟨t1, t2, t3⟩ := tail hy hle
        show Seg _ A.in1 _ _ ((escG false (j + 1) (cs.drop (j + 1))).length + 1) s₀ _ _ _ s₅
        refine seg_execs_cons (seg_yield' (C := C) (ℓ := 2) (EvL.cons (EvS.name (i := 1) rfl) (EvL.cons (EvS.name (i := 3) rfl) EvL.nil (fun u0 => rfl)) (fun u0 => rfl)) rl F₅ (xs := [.int j, .str [c]]) rfl (by show 2 ≤ lim; decide) rfl rfl rfl rfl (own F₅) S₅ t1 hco (notInter fs_iter env E) fun s₆ s₇ g₆ R => ?_)
        have F₆ := F₅.grow g₆
        have en₆ := enumK (j := j + 1) F₅ (g₆.mono (fun u0 h => h.elim) fun u0 h => h.elim) en₅
        refine seg_again rfl (ih (j + 1) false s₇ s₇ (sub_next hk) hlt ?_ t2 t3)
        exact LI.again (esc := false) (j := j + 1) hL hc frD F₆ rfl rfl (fun u0 => by simp) en₆.1 en₆.2 (fun h => by cases h) R
end

section
variable {C : Cfg} {A : Around} {env : Env} {L : Addr} {cs : List Nat}

theorem esc_goes (hC : C.Ok) (B : Bi C) (rm : Rm A 3) (E : EnvOk phi_iter env) (hc : env.cells = []) (hL : env.locals = L) (hLT : C.hT.objs.size ≤ L) {s : Shared} {m : Str → Option Value} {t : Tok} (hn : s.heap.Ns L m) (hm : m "addr" = some (.str ⟨cs.toArray⟩ t))
    (s'' : Shared) (R : Rel C (fun b => b = L) s s'') : ∃ e i, (∀ b, Own L e i b → b = L ∨ s''.heap.objs.size ≤ b) ∧ GoesG C A L e i (escG false 0 cs) (escG false 0 cs).length (.fresh (.func body_iter env)) s'' := by
  refine ⟨s''.heap.objs.size + 1, s''.heap.objs.size, fun b q => ?_, rfl, seg_func ?_⟩
  · rcases q with q | q | q
    · exact .inl q
    · exact .inr (q ▸ Nat.le_succ _)
    · exact .inr (Nat.le_of_eq q.symm)
  have rf : ∀ {b}, Rm (A.in1.over (.func b env) []) 2 := rm_func rm
  have hn₀ : s''.heap.Ns env.locals m := by rw [hL]; exact hn.at' fun o q => R.1 L o rfl q
  have hLlt : L < s''.heap.objs.size := by have := hn₀.lt; rwa [hL] at this
  have kd : ∀ x, Env.kindOf env x = phi_iter.kind x := fun x => by unfold Env.kindOf; rw [E.scope]; rfl
  have hp : (env.scope.kind == .class || (env.scope.kind == .module && env.locals != env.globals)) = false := by rw [E.scope, fs_iter.kind]; rfl
  have hco : env.scope.isCoroutine = false := by rw [E.scope]; rfl
  refine seg_execs_cons (seg_wrap (wpAny_Assign_Name (wpAny_Constant_int (wpAny_storeName_local ((kd "pos").trans (by rfl)) hn₀ (fun h₁ hn₁ hs₁ => ?_) hp)) rfl))
  refine seg_execs_cons (seg_wrap (wpAny_Assign_Name (wpAny_Constant_bool (wpAny_storeName_local ((kd "escape").trans (by rfl)) hn₁ (fun h₂ hn₂ hs₂ => ?_) hp)) rfl))
  refine seg_execs_cons ?_
  rw [exec_For]
  refine seg_bind_wrap (wpAny_standAt ?_)
  have hsz : h₂.objs.size = s''.heap.objs.size := hs₂.1.trans hs₁.1
  have k₂ : ∀ b o, b ≠ L → s''.heap.get? b = some o → h₂.get? b = some o := fun b o hb q => hs₂.extBut b o (by rw [hL]; exact hb) (hs₁.extBut b o (by rw [hL]; exact hb) q)
  have hT₂ : ∀ b o, C.hT.get? b = some o → h₂.get? b = some o := fun b o q => k₂ b o (fun w => Nat.lt_irrefl _ (Nat.lt_of_lt_of_le (w ▸ Heap.lt_size q) hLT)) (R.2.2.1 b o q)
  have vals : ∀ (i : Nat) (x : Str) (sl : Sl), phi_iter.names[i]? = some x → [Sl.v (.str cs), .v (.int 0), .v (.bool false), .un][i]? = some sl →
      sl = Sl.un ∨ ∃ v mv, sl = Sl.v mv ∧ (fun y => if y = ("escape" : Str) then some (Value.bool false) else if y = ("pos" : Str) then some (.int 0 s''.toks) else m y) x = some v ∧ ∀ h K, Rep h K v mv := by
    intro i x sl h1 h2
    have hx : i = 0 ∨ i = 1 ∨ i = 2 ∨ i = 3 := lt4 (List.getElem?_eq_some_iff.mp h1).1
    rcases hx with rfl | rfl | rfl | rfl
    · cases h1; cases h2
      exact .inr ⟨_, _, rfl, (by show (if ("addr" : Str) = ("escape" : Str) then _ else if ("addr" : Str) = ("pos" : Str) then _ else m "addr") = _; rw [if_neg (by decide), if_neg (by decide)]; exact hm), fun h K => .str cs t⟩
    · cases h1; cases h2
      exact .inr ⟨_, _, rfl, (by show (if ("pos" : Str) = ("escape" : Str) then _ else if ("pos" : Str) = ("pos" : Str) then _ else m "pos") = _; rw [if_neg (by decide), if_pos rfl]), fun h K => .int 0 _⟩
    · cases h1; cases h2
      exact .inr ⟨_, _, rfl, (by show (if ("escape" : Str) = ("escape" : Str) then _ else _) = _; rw [if_pos rfl]), fun h K => .bool _⟩
    · cases h2; exact .inl rfl
  have F₂ : ∀ tk, Fm C phi_iter env No (fun u0 => none) [.v (.str cs), .v (.int 0), .v (.bool false), .un] { s'' with heap := h₂, toks := tk } := fun tk =>
    Fm.mk0 E fs_iter hc loc_iter hT₂ R.2.2.2 hn₂ (fun u0 h => h.elim) (fun h => h) (by rw [hL]; exact hLT) rfl vals
  refine seg_bind_wrap (wpAny_Call_NameR (wp_any (wp_global hC (F₂ _) (by rfl) B.enumerate (by decide) ?_)))
  refine PySem.callWith_type rfl (Calls.evalArgs_plain (Calls.spliced_cons (wp_any (wp_Name (F₂ _) (i := 0) rfl (sl := .v (.str cs)) rfl (by nofun) fun v hv => ?_))))
  obtain ⟨v', e1, r⟩ := hv
  cases e1
  obtain ⟨u, rfl⟩ := (RepH.of r).isStr
  refine Calls.spliced_nil (call_enumerate_str fun h₃ hE hit hsz₃ hk₃ => ?_)
  refine seg_bind_wrap (wpAny_pure ?_)
  refine seg_bind_wrap (wpAny_standAt ?_)
  refine seg_bind_wrap (wpAny_holding (wpAny_pyIter_enum (i := 0) hE ?_))
  refine seg_call fun p => ?_
  have hE' : IsEnum h₃ (h₂.objs.size + 1) h₂.objs.size 0 .none := hE
  have hit' : h₃.IsStrIter h₂.objs.size (strIterType ⟨cs.toArray⟩) ⟨cs.toArray⟩ u 0 := hit
  have hsz₃' : h₃.objs.size = h₂.objs.size + 2 := hsz₃
  rw [hsz] at hE' hit' hsz₃'
  have hTs : C.hT.objs.size ≤ s''.heap.objs.size := Nat.le_trans hLT (Nat.le_of_lt hLlt)
  have main : ∀ {P : Nat → Value → Prop} {St : Nat → Heap → Prop} (κ : Result → Sem Fin) (p : Pos) (tk : Nat), (∀ A' : Around, A'.handled = none → Draws C.prog C.w A' s''.heap.objs.size [s''.heap.objs.size] cs.length P St) → (∀ j v, P j v → ∃ c u, cs[j]? = some c ∧ v = .str ⟨#[c]⟩ u) → St 0 h₃ →
      (∀ esc s₀ s H pv cv, Fm C phi_iter env (fun b => b = s''.heap.objs.size + 1 ∨ b = s''.heap.objs.size) H [.v (.str cs), pv, .v (.bool esc), cv] s → atomS pv = true → atomS cv = true → (0 < cs.length → pv = .v (.int ((cs.length : Int) - 1))) → (∀ k a, H k = some a → s₀.heap.objs.size ≤ a) →
      Since L (s''.heap.objs.size + 1) s''.heap.objs.size s₀ s → (esc = true → 0 < cs.length) → (escG false 0 cs).drop ((escG false 0 cs).length - (escG esc cs.length []).length) = escG esc cs.length [] → (escG esc cs.length []).length ≤ (escG false 0 cs).length →
      Seg (model C.prog C.w) A.in1 (fun n s₀ r s₁ => r = .ok (.ret .none) ∧ PG L (s''.heap.objs.size + 1) s''.heap.objs.size n s₀ s₁) (YG C L (s''.heap.objs.size + 1) s''.heap.objs.size (escG false 0 cs)) (escG esc cs.length []).length s₀ (.func body_iter env) (κ (.ok .next)) [] s) →
      Seg (model C.prog C.w) A.in1 (fun n s₀ r s₁ => r = .ok (.ret .none) ∧ PG L (s''.heap.objs.size + 1) s''.heap.objs.size n s₀ s₁) (YG C L (s''.heap.objs.size + 1) s''.heap.objs.size (escG false 0 cs)) (escG false 0 cs).length s'' (.forLoop (loopOf body_iter).1 (.ref (s''.heap.objs.size + 1)) (loopOf body_iter).2 [] env)
        ((model C.prog C.w).den (.forLoop (loopOf body_iter).1 (.ref (s''.heap.objs.size + 1)) (loopOf body_iter).2 [] env)) [.ret κ none false [] (.func body_iter env) p []] { s'' with heap := h₃, toks := tk } := by
    intro P St κ p tk D hP hst hend
    have hy0 : (escG false 0 cs).drop ((escG false 0 cs).length - (escG false 0 (cs.drop 0)).length) = escG false 0 (cs.drop 0) := by rw [List.drop_zero, Nat.sub_self, List.drop_zero]
    have key := esc_loop (ys := escG false 0 cs) (κ := κ) (p := p) rm E hc hL (Nat.succ_ne_self _) (fun q => Nat.lt_irrefl _ (Nat.lt_of_lt_of_le (q ▸ hLlt) (Nat.le_succ _))) (fun q => Nat.lt_irrefl _ (q ▸ hLlt)) (Nat.le_succ_of_le hTs) hTs D hP hend cs.length 0 false s'' { s'' with heap := h₃, toks := tk } (Nat.sub_zero _) (Nat.zero_le _) ?_ hy0 (by rw [List.drop_zero]; exact Nat.le_refl _)
    · rw [List.drop_zero] at key; exact key
    · have k₃ : ∀ b o, b ≠ L → s''.heap.get? b = some o → h₃.get? b = some o := fun b o hb q => hk₃ b o (k₂ b o hb q)
      refine ⟨fun u0 => none, .v (.int 0), .un, Fm.mk0 E fs_iter hc loc_iter (fun b o q => hk₃ b o (hT₂ b o q)) R.2.2.2 (hn₂.keeps hk₃) (fun b q => ?_) (fun q => ?_) (by rw [hL]; exact hLT) rfl vals, rfl, rfl, fun h => absurd h (Nat.lt_irrefl _), fun k a q => (by cases q), .heap (fun b o hb q => k₃ b o (fun w => hb (.inl w)) q) (by rw [hsz₃']; exact Nat.le_add_right _ _), ⟨_, hE'⟩, hst, fun h => by cases h⟩
      · show b < h₃.objs.size
        rw [hsz₃']
        rcases q with q | q
        · rw [q]; exact Nat.lt_succ_self _
        · rw [q]; exact Nat.lt_succ_of_lt (Nat.lt_succ_self _)
      · rw [hL] at q
        rcases q with q | q
        · exact Nat.lt_irrefl _ (Nat.lt_of_lt_of_le (q ▸ hLlt) (Nat.le_succ _))
        · exact Nat.lt_irrefl _ (q ▸ hLlt)
  have hsz0 : (⟨cs.toArray⟩ : Str).cps.size = cs.length := by simp
  have hPc : ∀ (j : Nat) (v : Value), (∃ (c : Nat) (u : Tok), (⟨cs.toArray⟩ : Str).cps[j]? = some c ∧ v = Value.str ⟨#[c]⟩ u) → ∃ c u, cs[j]? = some c ∧ v = Value.str ⟨#[c]⟩ u := fun j v q => by
    obtain ⟨c, u, h1, h2⟩ := q
    have h1' : cs.toArray[j]? = some c := h1
    rw [List.getElem?_toArray] at h1'
    exact ⟨c, u, h1', h2⟩
  show Seg _ _ _ _ _ s'' (.forLoop _ (.ref (h₂.objs.size + 1)) _ _ _) ((model C.prog C.w).den (.forLoop _ (.ref (h₂.objs.size + 1)) _ _ _)) _ _
  rw [hsz]
  unfold strIterType at hit'
  split at hit'
  · refine main _ p _ (fun A' hA' => by have := Draws.strAscii (prog := C.prog) (w := C.w) hA' s''.heap.objs.size ⟨cs.toArray⟩ u; rw [hsz0] at this; exact this) hPc hit' ?_
    intro esc s₀ s H pv cv F h1 h2 h3 h4 S h7 hy hle
    have own : ∀ b, Own L (s''.heap.objs.size + 1) s''.heap.objs.size b → b < s.heap.objs.size := fun b q => by
      rcases q with q | q | q
      · rw [q, ← hL]; exact F.locLt
      · exact F.k0 b (.inl q)
      · exact F.k0 b (.inr q)
    refine seg_execs_cons (seg_if (TrS.val (C := C) (ℓ := 2) (EvH.name (i := 2) rfl) (fun u0 u1 => rfl)) rf F (b := esc) rfl fun s₄ g₄ F₄ => ?_)
    cases esc with
    | false =>
      rw [if_neg Bool.false_ne_true]
      exact seg_end (.ok (.ret .none)) ⟨rfl, rfl, S.then g₄⟩
    | true =>
      rw [if_pos rfl]
      have hl : (escG true cs.length []).length = 0 + 1 := rfl
      have hpv := h3 (h7 rfl)
      subst hpv
      have hy' : (escG false 0 cs)[(escG false 0 cs).length - 1 - 0]? = some (.tuple [.int ((cs.length : Int) - 1), .str [92]]) := by
        have := congrArg (·[0]?) hy
        rw [hl] at this
        simpa [escG] using this
      rw [hl]
      refine seg_execs_cons (seg_yield' (C := C) (ℓ := 2) (EvL.cons (EvS.name (i := 1) rfl) (EvL.cons (EvS.str (cs := [92]) rfl) EvL.nil (fun u0 => rfl)) (fun u0 => rfl)) rf F₄ (xs := [.int ((cs.length : Int) - 1), .str [92]]) rfl (by show 2 ≤ lim; decide) rfl rfl rfl rfl (fun b q => Nat.lt_of_lt_of_le (own b q) g₄.size) (S.then g₄) hy' hco (notInter fs_iter env E) fun s₅ s₆ g₅ R₅ => ?_)
      exact seg_end (.ok (.ret .none)) ⟨rfl, rfl, Late.refl _⟩
  · refine main _ p _ (fun A' hA' => by have := Draws.strWide (prog := C.prog) (w := C.w) hA' s''.heap.objs.size ⟨cs.toArray⟩ u; rw [hsz0] at this; exact this) hPc hit' ?_
    intro esc s₀ s H pv cv F h1 h2 h3 h4 S h7 hy hle
    have own : ∀ b, Own L (s''.heap.objs.size + 1) s''.heap.objs.size b → b < s.heap.objs.size := fun b q => by
      rcases q with q | q | q
      · rw [q, ← hL]; exact F.locLt
      · exact F.k0 b (.inl q)
      · exact F.k0 b (.inr q)
    refine seg_execs_cons (seg_if (TrS.val (C := C) (ℓ := 2) (EvH.name (i := 2) rfl) (fun u0 u1 => rfl)) rf F (b := esc) rfl fun s₄ g₄ F₄ => ?_)
    cases esc with
    | false =>
      rw [if_neg Bool.false_ne_true]
      exact seg_end (.ok (.ret .none)) ⟨rfl, rfl, S.then g₄⟩
    | true =>
      rw [if_pos rfl]
      have hl : (escG true cs.length []).length = 0 + 1 := rfl
      have hpv := h3 (h7 rfl)
      subst hpv
      have hy' : (escG false 0 cs)[(escG false 0 cs).length - 1 - 0]? = some (.tuple [.int ((cs.length : Int) - 1), .str [92]]) := by
        have := congrArg (·[0]?) hy
        rw [hl] at this
        simpa [escG] using this
      rw [hl]
      refine seg_execs_cons (seg_yield' (C := C) (ℓ := 2) (EvL.cons (EvS.name (i := 1) rfl) (EvL.cons (EvS.str (cs := [92]) rfl) EvL.nil (fun u0 => rfl)) (fun u0 => rfl)) rf F₄ (xs := [.int ((cs.length : Int) - 1), .str [92]]) rfl (by show 2 ≤ lim; decide) rfl rfl rfl rfl (fun b q => Nat.lt_of_lt_of_le (own b q) g₄.size) (S.then g₄) hy' hco (notInter fs_iter env E) fun s₅ s₆ g₅ R₅ => ?_)
      exact seg_end (.ok (.ret .none)) ⟨rfl, rfl, Late.refl _⟩
end

theorem fnG_iter (C : Cfg) (hC : C.Ok) (B : Bi C) (R : FnRec C "_iter_escaped_chars" phi_iter [("addr" : Str)] body_iter true) : FnG C 3 "_iter_escaped_chars" escF := by
  obtain ⟨a, o, fd, hmg, ho, hd, hsc, hgl, hbi, hcl, hbody, hcd, hco, hgen, hbind⟩ := R
  refine ⟨a, o, fd, hmg, ho, hd, fun A rm s K vs xs ys hT hTs bare hK ra hy elts n tp => ?_⟩
  obtain ⟨cs, rfl, rfl⟩ : ∃ cs, xs = [.str cs] ∧ ys = escG false 0 cs := by
    unfold escF at hy
    split at hy
    · cases hy; exact ⟨_, rfl, rfl⟩
    · cases hy
  cases ra with
  | cons r ra =>
    cases ra with
    | nil =>
      obtain ⟨t, rfl⟩ := (RepH.of r).isStr
      refine wpAny_call (codeAny_call_generator rm.lt (hT a o ho) hd hco hgen hbody (hcd.keeps hT) ?_)
      rw [hbind _ rfl, hcl]
      refine wpAny_pure (wpAny_newFunctionEnv (by rw [hsc]; decide) (fun x hx => by
        rcases List.mem_cons.mp hx with rfl | hx
        · rw [hsc]; rfl
        · cases hx) (fun h' hns hsb => ?_) (by rw [hsc]; exact fs_iter.kind))
      have hlen : (([("addr" : Str)] : List Str).zip [Value.str ⟨cs.toArray⟩ t]).length = 1 := rfl
      have hsz : h'.objs.size = s.heap.objs.size + 1 := hsb.1.trans (Heap.size_push ..)
      have kp : ∀ b o, s.heap.get? b = some o → h'.get? b = some o := fun b o q => hsb.extBut b o (Nat.ne_of_lt (Heap.lt_size q)) (Heap.get?_push_of_some _ q)
      have hlim : h'.NoLimit := by obtain ⟨mc, h1, h2⟩ := hC.lim; exact ⟨mc, h1.keeps fun b o q => kp b o (hT b o q), h2⟩
      refine ⟨hlim, ?_⟩
      have hns' : h'.Ns s.heap.objs.size (fun x => (([("addr" : Str)] : List Str).zip [Value.str ⟨cs.toArray⟩ t]).reverse.lookup x) := hns
      have hGen : (h'.push { cls := .type "generator", data := .fields #[.int s.gens.size 0, .str fd.name (s.toks + 1), .str fd.qualname (s.toks + 1 + 1)] }).IsGen h'.objs.size s.gens.size := ⟨_, _, _, Heap.get?_push_size _ rfl, rfl, rfl, rfl⟩
      refine wpAny_pyIter_gen hGen ?_
      have hLa : s.heap.objs.size < h'.objs.size := by rw [hsz]; exact Nat.lt_succ_self _
      refine ⟨⟨fun b o u0 q => Heap.get?_push_of_some _ (kp b o q), ?_, fun g x u0 q => ?_, ?_, fun hB => hB.push rfl, rfl⟩, (· = s.gens.size), (· = s.heap.objs.size), GSt C A h'.objs.size s.heap.objs.size s.gens.size (escG false 0 cs), fun g q => Nat.le_of_eq q.symm, fun b q => Nat.le_of_eq q.symm,
        IterS.ofGen hC rm.hh rm.lt (by show h'.objs.size < (h'.push _).objs.size; rw [Heap.size_push]; exact Nat.lt_succ_self _) (fun q => Nat.lt_irrefl _ (Nat.lt_trans hLa (hK _ q))), ?_⟩
      · show s.heap.objs.size ≤ (h'.push _).objs.size
        rw [Heap.size_push]; exact Nat.le_succ_of_le (Nat.le_of_lt hLa)
      · show (s.gens.push _)[g]? = some x
        have hg := (Array.getElem?_eq_some_iff.mp q).1
        rw [Array.getElem?_push_lt hg]
        rw [Array.getElem?_eq_getElem hg] at q; exact q
      · show s.gens.size ≤ (s.gens.push _).size
        simp
      · refine ⟨hGen, fun b q => ?_, fun q => Nat.lt_irrefl _ (q ▸ hLa), rfl, fun b q => by rw [q]; exact hTs, _, by show (s.gens.push _)[s.gens.size]? = some _; rw [Array.getElem?_push_size], fun s'' Rl => ?_⟩
        · rw [q]; show s.heap.objs.size < (h'.push _).objs.size
          rw [Heap.size_push]; exact Nat.lt_succ_of_lt hLa
        · rw [Nat.sub_zero]
          exact esc_goes (L := s.heap.objs.size) (cs := cs) (env := newEnv fd.scope s.heap.objs.size fd.globals [] (fd.qualname ++ Str.ofString ".<locals>.") (some a) fd.code none fd.builtins) hC B rm ⟨hsc, hgl, hbi⟩ rfl rfl hTs (hns'.push _) (t := t) rfl s'' Rl
noncomputable def body_strip_quoted_realnames : List Stmt := bodyIn PySem.Challenge.pw_wb0025_01 7
noncomputable def phi_strip_quoted_realnames : Fs := { names := [("addr" : Str), ("start" : Str), ("open_pos" : Str), ("result" : Str), ("pos" : Str), ("ch" : Str)], sc := scopeIn PySem.Challenge.pw_wb0025_01 7, wc := true }
theorem fs_strip_quoted_realnames : FsOk phi_strip_quoted_realnames := FsOk.of (by decide)
set_option maxHeartbeats 4000000 in
noncomputable def ex_strip_quoted_realnames : { g : List Sl → Option (Fl × List Sl) // ∀ C : Cfg, C.Ok → Bi C → FnG C 3 "_iter_escaped_chars" escF → ExsS C phi_strip_quoted_realnames 3 body_strip_quoted_realnames g } := ⟨_, fun C hC B h_iter_escaped_chars =>
  (ExsS.cons (ExS.ite (TrS.cmp (EvH.of (EvS.str (cs := [34]) rfl)) (EvH.name (i := 0) rfl) rfl)
    (ExsS.one (ExS.ret [] (EvS.name (i := 0) rfl)))
    ExsS.nil)
    (ExsS.cons (ExS.assign EvS.int (i := 1) rfl (fun u0 => rfl) (fun u0 u1 => rfl))
    (ExsS.cons (ExS.assign EvS.none (i := 2) rfl (fun u0 => rfl) (fun u0 u1 => rfl))
    (ExsS.cons (ExS.assignN (EvN.list EvL.nil) (i := 3) rfl (fun u0 => rfl) (fun u0 u1 => rfl))
    (ExsS.cons (ExS.for (ItS.gen hC rfl (by decide) h_iter_escaped_chars (EvS.name (i := 0) rfl) (fun u0 => rfl) (by decide)) (AsT.tup (NamesAt.cons (i := 4) rfl (fun u0 => rfl) (NamesAt.cons (i := 5) rfl (fun u0 => rfl) NamesAt.nil)))
    (ExsS.one (ExS.ite (TrS.cmp (EvH.name (i := 5) rfl) (EvH.of (EvS.str (cs := [34]) rfl)) rfl)
    (ExsS.one (ExS.ite (TrS.cmp (EvH.name (i := 2) rfl) (EvH.of EvS.none) rfl)
    (ExsS.one (ExS.assign (EvS.name (i := 4) rfl) (i := 2) rfl (fun u0 => rfl) (fun u0 u1 => rfl)))
    (ExsS.cons (ExS.ite (TrS.cmp (EvH.name (i := 1) rfl) (EvH.name (i := 2) rfl) rfl)
    (ExsS.one (ExS.append (EvS.slice (EvH.name (i := 0) rfl) (PtS.some (EvS.name (i := 1) rfl)) (PtS.some (EvS.name (i := 2) rfl))) (i := 3) rfl (fun u0 => rfl) (fun u0 => rfl) rfl (notInter fs_strip_quoted_realnames)))
    ExsS.nil)
    (ExsS.cons (ExS.assign (EvS.bin (EvH.name (i := 4) rfl) (EvH.of EvS.int)) (i := 1) rfl (fun u0 => rfl) (fun u0 u1 => rfl))
    (ExsS.one (ExS.assign EvS.none (i := 2) rfl (fun u0 => rfl) (fun u0 u1 => rfl)))))))
    ExsS.nil)) (fun u0 u1 => rfl))
    (ExsS.cons (ExS.ite (TrS.cmp (EvH.name (i := 1) rfl) (EvH.of (EvS.call1 hC rfl B.len (by decide) bf_len (EvH.name (i := 0) rfl) (fun u0 => rfl) (by decide))) rfl)
    (ExsS.one (ExS.append (EvS.slice (EvH.name (i := 0) rfl) (PtS.some (EvS.name (i := 1) rfl)) PtS.none) (i := 3) rfl (fun u0 => rfl) (fun u0 => rfl) rfl (notInter fs_strip_quoted_realnames)))
    ExsS.nil)
    (ExsS.one (ExS.ret [false, false, false, true] (EvS.meth1 mt_join (EvH.of (EvS.str (cs := []) rfl)) (EvH.name (i := 3) rfl) (fun u0 => rfl) (fun u0 => rfl) rfl (by decide))))))))))⟩
noncomputable def fn_strip_quoted_realnames : List MV → Option MV := runF [("addr" : Str)] [("start" : Str), ("open_pos" : Str), ("result" : Str), ("pos" : Str), ("ch" : Str)] ex_strip_quoted_realnames.1
theorem fnS_strip_quoted_realnames (C : Cfg) (hC : C.Ok) (B : Bi C) (h_iter_escaped_chars : FnG C 3 "_iter_escaped_chars" escF) (R : FnRec C "_strip_quoted_realnames" phi_strip_quoted_realnames [("addr" : Str)] body_strip_quoted_realnames false) : FnS C 4 "_strip_quoted_realnames" fn_strip_quoted_realnames :=
  FnS.of (ℓ := 3) (params := [("addr" : Str)]) (others := [("start" : Str), ("open_pos" : Str), ("result" : Str), ("pos" : Str), ("ch" : Str)]) (g := ex_strip_quoted_realnames.1) hC R (FnOk.of (by decide)) (ex_strip_quoted_realnames.2 C hC B h_iter_escaped_chars)

noncomputable def body_check_parenthesis : List Stmt := bodyIn PySem.Challenge.pw_wb0025_01 8
noncomputable def phi_check_parenthesis : Fs := { names := [("addr" : Str), ("opens" : Str), ("pos" : Str), ("ch" : Str)], sc := scopeIn PySem.Challenge.pw_wb0025_01 8, wc := true }
set_option maxHeartbeats 4000000 in
noncomputable def ex_check_parenthesis : { g : List Sl → Option (Fl × List Sl) // ∀ C : Cfg, C.Ok → Bi C → FnS C 4 "_strip_quoted_realnames" fn_strip_quoted_realnames → FnG C 3 "_iter_escaped_chars" escF → ExsS C phi_check_parenthesis 4 body_check_parenthesis g } := ⟨_, fun C hC B h_strip_quoted_realnames h_iter_escaped_chars =>
  (ExsS.cons (ExS.assign (EvS.fn hC rfl (by decide) h_strip_quoted_realnames (EvL.cons (EvS.name (i := 0) rfl) EvL.nil (fun u0 => rfl)) (fun u0 => ⟨_, rfl⟩) (by decide)) (i := 0) rfl (fun u0 => rfl) (fun u0 u1 => rfl))
    (ExsS.cons (ExS.assign EvS.int (i := 1) rfl (fun u0 => rfl) (fun u0 u1 => rfl))
    (ExsS.cons (ExS.for (ItS.gen hC rfl (by decide) h_iter_escaped_chars (EvS.name (i := 0) rfl) (fun u0 => rfl) (by decide)) (AsT.tup (NamesAt.cons (i := 2) rfl (fun u0 => rfl) (NamesAt.cons (i := 3) rfl (fun u0 => rfl) NamesAt.nil)))
    (ExsS.one (ExS.ite (TrS.cmp (EvH.name (i := 3) rfl) (EvH.of (EvS.str (cs := [40]) rfl)) rfl)
    (ExsS.one (ExS.aug (EvH.of EvS.int) (i := 1) rfl (fun u0 => rfl)))
    (ExsS.one (ExS.ite (TrS.cmp (EvH.name (i := 3) rfl) (EvH.of (EvS.str (cs := [41]) rfl)) rfl)
    (ExsS.cons (ExS.aug (EvH.of EvS.int) (i := 1) rfl (fun u0 => rfl))
    (ExsS.one (ExS.ite (TrS.cmp (EvH.name (i := 1) rfl) (EvH.of EvS.int) rfl)
    (ExsS.one (ExS.ret [] EvS.bool))
    ExsS.nil)))
    ExsS.nil)))) (fun u0 u1 => rfl))
    (ExsS.one (ExS.ret [] (EvS.cmp (EvH.name (i := 1) rfl) (EvH.of EvS.int) rfl))))))⟩
noncomputable def fn_check_parenthesis : List MV → Option MV := runF [("addr" : Str)] [("opens" : Str), ("pos" : Str), ("ch" : Str)] ex_check_parenthesis.1
theorem fnS_check_parenthesis (C : Cfg) (hC : C.Ok) (B : Bi C) (h_strip_quoted_realnames : FnS C 4 "_strip_quoted_realnames" fn_strip_quoted_realnames) (h_iter_escaped_chars : FnG C 3 "_iter_escaped_chars" escF) (R : FnRec C "_check_parenthesis" phi_check_parenthesis [("addr" : Str)] body_check_parenthesis false) : FnS C 5 "_check_parenthesis" fn_check_parenthesis :=
  FnS.of (ℓ := 4) (params := [("addr" : Str)]) (others := [("opens" : Str), ("pos" : Str), ("ch" : Str)]) (g := ex_check_parenthesis.1) hC R (FnOk.of (by decide)) (ex_check_parenthesis.2 C hC B h_strip_quoted_realnames h_iter_escaped_chars)

noncomputable def body_Int2AP : List Stmt := bodyIn PySem.Challenge.pw_wb0025_01 1
noncomputable def phi_Int2AP : Fs := { names := [("num" : Str), ("val" : Str), ("AP" : Str), ("mod" : Str)], sc := scopeIn PySem.Challenge.pw_wb0025_01 1, wc := true }
set_option maxHeartbeats 4000000 in
noncomputable def ex_Int2AP : { g : List Sl → Option (Fl × List Sl) // ∀ C : Cfg, C.Ok → Bi C → ExsS C phi_Int2AP 1 body_Int2AP g } := ⟨_, fun C hC B =>
  (ExsS.cons (ExS.assign EvS.bytes (i := 1) rfl (fun u0 => rfl) (fun u0 u1 => rfl))
    (ExsS.cons (ExS.assign EvS.bytes (i := 2) rfl (fun u0 => rfl) (fun u0 u1 => rfl))
    (ExsS.cons (ExS.assign (EvS.callT1 hC rfl B.int (by decide) bf_int (EvH.of (EvS.call1 hC rfl B.abs (by decide) bf_abs (EvH.name (i := 0) rfl) (fun u0 => rfl) (by decide))) (fun u0 => rfl) (by decide)) (i := 0) rfl (fun u0 => rfl) (fun u0 u1 => rfl))
    (ExsS.cons (ExS.while 4096 (TrS.val (EvH.name (i := 0) rfl) (fun u0 u1 => rfl))
    (ExsS.cons (ExS.assignT (EvH.of (EvS.call2 hC rfl B.divmod (by decide) bf_divmod (EvH.name (i := 0) rfl) (EvH.of EvS.int) (fun u0 => rfl) (by decide))) (NamesAt.cons (i := 0) rfl (fun u0 => rfl) (NamesAt.cons (i := 3) rfl (fun u0 => rfl) NamesAt.nil)) (fun u0 u1 => rfl) (fun u0 => rfl))
    (ExsS.one (ExS.assign (EvS.bin (EvH.of (EvS.slice (EvH.name (i := 2) rfl) (PtS.some (EvS.name (i := 3) rfl)) (PtS.some (EvS.bin (EvH.name (i := 3) rfl) (EvH.of EvS.int))))) (EvH.name (i := 1) rfl)) (i := 1) rfl (fun u0 => rfl) (fun u0 u1 => rfl)))))
    (ExsS.one (ExS.ret [] (EvS.name (i := 1) rfl)))))))⟩
noncomputable def fn_Int2AP : List MV → Option MV := runF [("num" : Str)] [("val" : Str), ("AP" : Str), ("mod" : Str)] ex_Int2AP.1
theorem fnS_Int2AP (C : Cfg) (hC : C.Ok) (B : Bi C) (R : FnRec C "Int2AP" phi_Int2AP [("num" : Str)] body_Int2AP false) : FnS C 2 "Int2AP" fn_Int2AP :=
  FnS.of (ℓ := 1) (params := [("num" : Str)]) (others := [("val" : Str), ("AP" : Str), ("mod" : Str)]) (g := ex_Int2AP.1) hC R (FnOk.of (by decide)) (ex_Int2AP.2 C hC B)

noncomputable def body_ellipsis_match : List Stmt := bodyIn PySem.Challenge.pw_wb0025_01 4
noncomputable def phi_ellipsis_match : Fs := { names := [("want" : Str), ("got" : Str), ("ws" : Str), ("startpos" : Str), ("endpos" : Str), ("w" : Str)], sc := scopeIn PySem.Challenge.pw_wb0025_01 4, wc := true }
set_option maxHeartbeats 4000000 in
noncomputable def ex_ellipsis_match : { g : List Sl → Option (Fl × List Sl) // ∀ C : Cfg, C.Ok → Bi C → (∃ t, Glo C "ELLIPSIS_MARKER" (.str ⟨(val_ELLIPSIS_MARKER : List Nat).toArray⟩ t)) → ExsS C phi_ellipsis_match 1 body_ellipsis_match g } := ⟨_, fun C hC B hELLIPSIS_MARKER =>
  (ExsS.cons (ExS.ite (TrS.cmp (EvH.of (EvS.glob (v := .none) hC rfl hELLIPSIS_MARKER (by decide))) (EvH.name (i := 0) rfl) rfl)
    (ExsS.one (ExS.ret [] (EvS.cmp (EvH.name (i := 0) rfl) (EvH.name (i := 1) rfl) rfl)))
    ExsS.nil)
    (ExsS.cons (ExS.assignN (EvN.split (EvH.name (i := 0) rfl) (EvS.glob (v := .none) hC rfl hELLIPSIS_MARKER (by decide)) (fun u0 => rfl) (fun u0 => rfl) rfl) (i := 2) rfl (fun u0 => rfl) (fun u0 u1 => rfl))
    (ExsS.cons (ExS.assert (TrS.cmp (EvH.of (EvS.call1 hC rfl B.len (by decide) bf_len (EvH.name (i := 2) rfl) (fun u0 => rfl) (by decide))) (EvH.of EvS.int) rfl))
    (ExsS.cons (ExS.assignR (ns := [("startpos" : Str), ("endpos" : Str)]) (is := [3, 4]) (EvH.of (EvS.tuple (EvL.cons EvS.int (EvL.cons (EvS.call1 hC rfl B.len (by decide) bf_len (EvH.name (i := 1) rfl) (fun u0 => rfl) (by decide)) EvL.nil (fun u0 => rfl)) (fun u0 => rfl)))) (NamesRev.cons (i := 4) rfl (fun u0 => rfl) (NamesRev.cons (i := 3) rfl (fun u0 => rfl) NamesRev.nil)) rfl (by intro env E; unfold swappedStores Env.blockKind Env.kindOf; rw [E.scope]; rfl) (fun u0 => rfl))
    (ExsS.cons (ExS.assign (EvS.item (EvH.name (i := 2) rfl) EvS.int (fun u0 u1 => rfl)) (i := 5) rfl (fun u0 => rfl) (fun u0 u1 => rfl))
    (ExsS.cons (ExS.ite (TrS.val (EvH.name (i := 5) rfl) (fun u0 u1 => rfl))
    (ExsS.one (ExS.ite (TrS.val (EvH.of (EvS.meth1 mt_starts (EvH.name (i := 1) rfl) (EvH.name (i := 5) rfl) (fun u0 => rfl) (fun u0 => rfl) rfl (by decide))) (fun u0 u1 => rfl))
    (ExsS.cons (ExS.assign (EvS.call1 hC rfl B.len (by decide) bf_len (EvH.name (i := 5) rfl) (fun u0 => rfl) (by decide)) (i := 3) rfl (fun u0 => rfl) (fun u0 u1 => rfl))
    (ExsS.one (ExS.del EvS.int (i := 2) rfl)))
    (ExsS.one (ExS.ret [] EvS.bool))))
    ExsS.nil)
    (ExsS.cons (ExS.assign (EvS.item (EvH.name (i := 2) rfl) EvS.neg1 (fun u0 u1 => rfl)) (i := 5) rfl (fun u0 => rfl) (fun u0 u1 => rfl))
    (ExsS.cons (ExS.ite (TrS.val (EvH.name (i := 5) rfl) (fun u0 u1 => rfl))
    (ExsS.one (ExS.ite (TrS.val (EvH.of (EvS.meth1 mt_ends (EvH.name (i := 1) rfl) (EvH.name (i := 5) rfl) (fun u0 => rfl) (fun u0 => rfl) rfl (by decide))) (fun u0 u1 => rfl))
    (ExsS.cons (ExS.aug (EvH.of (EvS.call1 hC rfl B.len (by decide) bf_len (EvH.name (i := 5) rfl) (fun u0 => rfl) (by decide))) (i := 4) rfl (fun u0 => rfl))
    (ExsS.one (ExS.del EvS.neg1 (i := 2) rfl)))
    (ExsS.one (ExS.ret [] EvS.bool))))
    ExsS.nil)
    (ExsS.cons (ExS.ite (TrS.cmp (EvH.name (i := 3) rfl) (EvH.name (i := 4) rfl) rfl)
    (ExsS.one (ExS.ret [] EvS.bool))
    ExsS.nil)
    (ExsS.cons (ExS.frz [false, false, true] (ExS.for (ItS.val (fun u0 u1 => rfl) (EvS.name (i := 2) rfl)) (AsT.name (i := 5) rfl (fun u0 => rfl))
    (ExsS.cons (ExS.assign (EvS.find3 (EvH.name (i := 1) rfl) (EvS.name (i := 5) rfl) (EvS.name (i := 3) rfl) (EvS.name (i := 4) rfl) (fun u0 => rfl) (fun u0 => rfl) rfl (by decide)) (i := 3) rfl (fun u0 => rfl) (fun u0 u1 => rfl))
    (ExsS.cons (ExS.ite (TrS.cmp (EvH.name (i := 3) rfl) (EvH.of EvS.int) rfl)
    (ExsS.one (ExS.ret [] EvS.bool))
    ExsS.nil)
    (ExsS.one (ExS.aug (EvH.of (EvS.call1 hC rfl B.len (by decide) bf_len (EvH.name (i := 5) rfl) (fun u0 => rfl) (by decide))) (i := 3) rfl (fun u0 => rfl))))) (fun u0 u1 => rfl)))
    (ExsS.one (ExS.ret [] EvS.bool))))))))))))⟩
noncomputable def fn_ellipsis_match : List MV → Option MV := runF [("want" : Str), ("got" : Str)] [("ws" : Str), ("startpos" : Str), ("endpos" : Str), ("w" : Str)] ex_ellipsis_match.1
theorem fnS_ellipsis_match (C : Cfg) (hC : C.Ok) (B : Bi C) (hELLIPSIS_MARKER : ∃ t, Glo C "ELLIPSIS_MARKER" (.str ⟨(val_ELLIPSIS_MARKER : List Nat).toArray⟩ t)) (R : FnRec C "_ellipsis_match" phi_ellipsis_match [("want" : Str), ("got" : Str)] body_ellipsis_match false) : FnS C 2 "_ellipsis_match" fn_ellipsis_match :=
  FnS.of (ℓ := 1) (params := [("want" : Str), ("got" : Str)]) (others := [("ws" : Str), ("startpos" : Str), ("endpos" : Str), ("w" : Str)]) (g := ex_ellipsis_match.1) hC R (FnOk.of (by decide)) (ex_ellipsis_match.2 C hC B hELLIPSIS_MARKER)

noncomputable def body_law_product : List Stmt := bodyIn PySem.Challenge.pw_wb0025_01 10
noncomputable def phi_law_product : Fs := { names := [("cells" : Str), ("things" : Str), ("factors" : Str), ("rows" : Str), ("lines" : Str), ("ends" : Str), ("number" : Str), ("turn" : Str), ("name" : Str), ("at" : Str)], sc := scopeIn PySem.Challenge.pw_wb0025_01 10, wc := true }
theorem fs_law_product : FsOk phi_law_product := FsOk.of (by decide)
set_option maxHeartbeats 4000000 in
noncomputable def ex_law_product : { g : List Sl → Option (Fl × List Sl) // ∀ C : Cfg, C.Ok → Bi C → ExsS C phi_law_product 1 body_law_product g } := ⟨_, fun C hC B =>
  (ExsS.cons (ExS.assign (EvS.ofN (EvN.list (EvL.cons (EvS.str (cs := []) rfl) (EvL.cons (EvS.str (cs := [92, 41]) rfl) (EvL.cons (EvS.str (cs := [34, 40, 34]) rfl) (EvL.cons (EvS.str (cs := [92, 92]) rfl) (EvL.cons (EvS.str (cs := [92, 34]) rfl) (EvL.cons (EvS.str (cs := [34, 41, 34]) rfl) (EvL.cons (EvS.str (cs := [34, 92, 34, 41, 34]) rfl) (EvL.cons (EvS.str (cs := [92, 40]) rfl) EvL.nil (fun u0 => rfl)) (fun u0 => rfl)) (fun u0 => rfl)) (fun u0 => rfl)) (fun u0 => rfl)) (fun u0 => rfl)) (fun u0 => rfl)) (fun u0 => rfl)))) (i := 1) rfl (fun u0 => rfl) (fun u0 u1 => rfl))
    (ExsS.cons (ExS.assignC true (CompS.mk (CompOk.of (vars := [("factor" : Str)]) (caps := []) fs_law_product (by decide)) (ItS.val (fun u0 u1 => rfl) (EvS.str (cs := [97, 98, 99, 100, 101]) rfl)) (AsT.name (i := 0) rfl (by decide)) TsS.nil (fun u0 u1 => rfl) ⟨_, (ActS.emit (EvS.name (i := 0) rfl)), fun u0 u1 u2 => compTurn_1 ..⟩) (i := 2) rfl (fun u0 => rfl) (swaps_yes fs_law_product (by decide)))
    (ExsS.cons (ExS.augI (EvS.bin (EvH.of (EvS.bin (EvH.of (EvS.item (EvH.name (i := 0) rfl) EvS.int (fun u0 u1 => rfl))) (EvH.of EvS.int))) (EvH.of EvS.int)) (EvH.of (EvS.item (EvH.name (i := 1) rfl) (EvS.bin (EvH.of (EvS.bin (EvH.of (EvS.item (EvH.name (i := 0) rfl) EvS.int (fun u0 u1 => rfl))) (EvH.of EvS.int))) (EvH.of EvS.int)) (fun u0 u1 => rfl))) (i := 2) rfl (fun u0 u1 u2 => rfl))
    (ExsS.cons (ExS.augI (EvS.bin (EvH.of (EvS.bin (EvH.of (EvS.item (EvH.name (i := 0) rfl) EvS.int (fun u0 u1 => rfl))) (EvH.of EvS.int))) (EvH.of EvS.int)) (EvH.of (EvS.item (EvH.name (i := 1) rfl) (EvS.bin (EvH.of (EvS.bin (EvH.of (EvS.item (EvH.name (i := 0) rfl) EvS.int (fun u0 u1 => rfl))) (EvH.of EvS.int))) (EvH.of EvS.int)) (fun u0 u1 => rfl))) (i := 2) rfl (fun u0 u1 u2 => rfl))
    (ExsS.cons (ExS.augI EvS.int (EvH.of (EvS.bin (EvH.of (EvS.str (cs := [34]) rfl)) (EvH.of (EvS.bin (EvH.of (EvS.bin (EvH.of (EvS.item (EvH.name (i := 0) rfl) EvS.int (fun u0 u1 => rfl))) (EvH.of EvS.int))) (EvH.of EvS.int))))) (i := 2) rfl (fun u0 u1 u2 => rfl))
    (ExsS.cons (ExS.frz [false, false, true] (ExS.assignC false (CompS.mk (CompOk.of (vars := [("factor" : Str)]) (caps := []) fs_law_product (by decide)) (ItS.val (fun u0 u1 => rfl) (EvS.name (i := 2) rfl)) (AsT.name (i := 0) rfl (by decide)) TsS.nil (fun u0 u1 => rfl) ⟨_, (ActS.emit (EvS.ofN (EvN.list (EvL.cons (EvS.name (i := 0) rfl) EvL.nil (fun u0 => rfl))))), fun u0 u1 u2 => compTurn_1 ..⟩) (i := 3) rfl (fun u0 => rfl) (swaps_yes fs_law_product (by decide))))
    (ExsS.cons (ExS.assignC false (CompS.mk (CompOk.of (vars := [("factor" : Str)]) (caps := []) fs_law_product (by decide)) (ItS.val (fun u0 u1 => rfl) (EvS.str (cs := [97, 98, 99, 100, 101]) rfl)) (AsT.name (i := 0) rfl (by decide)) TsS.nil (fun u0 u1 => rfl) ⟨_, (ActS.emit (EvS.name (i := 0) rfl)), fun u0 u1 u2 => compTurn_1 ..⟩) (i := 4) rfl (fun u0 => rfl) (swaps_yes fs_law_product (by decide)))
    (ExsS.cons (ExS.assign (EvS.ofN (EvN.list (EvL.cons EvS.int (EvL.cons EvS.int (EvL.cons EvS.int (EvL.cons EvS.int (EvL.cons EvS.int (EvL.cons EvS.int EvL.nil (fun u0 => rfl)) (fun u0 => rfl)) (fun u0 => rfl)) (fun u0 => rfl)) (fun u0 => rfl)) (fun u0 => rfl)))) (i := 5) rfl (fun u0 => rfl) (fun u0 u1 => rfl))
    (ExsS.cons (ExS.assign EvS.int (i := 6) rfl (fun u0 => rfl) (fun u0 u1 => rfl))
    (ExsS.cons (ExS.for (ItS.enum hC rfl B.enumerate (EvS.str (cs := [112, 113, 114, 115]) rfl) (fun u0 => rfl)) (AsT.tup (NamesAt.cons (i := 7) rfl (fun u0 => rfl) (NamesAt.cons (i := 8) rfl (fun u0 => rfl) NamesAt.nil)))
    (ExsS.cons (ExS.assign (EvS.bin (EvH.of (EvS.item (EvH.name (i := 0) rfl) (EvS.name (i := 7) rfl) (fun u0 u1 => rfl))) (EvH.of (EvS.bin (EvH.of EvS.int) (EvH.name (i := 7) rfl)))) (i := 9) rfl (fun u0 => rfl) (fun u0 u1 => rfl))
    (ExsS.cons (ExS.assign (EvS.bin (EvH.of (EvS.bin (EvH.of (EvS.slice (EvH.name (i := 3) rfl) PtS.none (PtS.some (EvS.name (i := 9) rfl)))) (EvH.of (EvS.ofN (EvN.list (EvL.cons (EvS.bin (EvH.of (EvS.bin (EvH.of (EvS.bin (EvH.of (EvS.ofN (EvN.list (EvL.cons (EvS.str (cs := [40]) rfl) EvL.nil (fun u0 => rfl))))) (EvH.of (EvS.item (EvH.name (i := 3) rfl) (EvS.name (i := 9) rfl) (fun u0 u1 => rfl))))) (EvH.of (EvS.item (EvH.name (i := 3) rfl) (EvS.bin (EvH.name (i := 9) rfl) (EvH.of EvS.int)) (fun u0 u1 => rfl))))) (EvH.of (EvS.ofN (EvN.list (EvL.cons (EvS.str (cs := [41]) rfl) EvL.nil (fun u0 => rfl)))))) EvL.nil (fun u0 => rfl))))))) (EvH.of (EvS.slice (EvH.name (i := 3) rfl) (PtS.some (EvS.bin (EvH.name (i := 9) rfl) (EvH.of EvS.int))) PtS.none))) (i := 3) rfl (fun u0 => rfl) (fun u0 u1 => rfl))
    (ExsS.cons (ExS.assign (EvS.bin (EvH.of (EvS.bin (EvH.of (EvS.slice (EvH.name (i := 4) rfl) PtS.none (PtS.some (EvS.name (i := 9) rfl)))) (EvH.of (EvS.ofN (EvN.list (EvL.cons (EvS.bin (EvH.of (EvS.bin (EvH.of (EvS.bin (EvH.of (EvS.bin (EvH.name (i := 8) rfl) (EvH.of (EvS.item (EvH.name (i := 4) rfl) (EvS.name (i := 9) rfl) (fun u0 u1 => rfl))))) (EvH.name (i := 8) rfl))) (EvH.of (EvS.item (EvH.name (i := 4) rfl) (EvS.bin (EvH.name (i := 9) rfl) (EvH.of EvS.int)) (fun u0 u1 => rfl))))) (EvH.name (i := 8) rfl)) EvL.nil (fun u0 => rfl))))))) (EvH.of (EvS.slice (EvH.name (i := 4) rfl) (PtS.some (EvS.bin (EvH.name (i := 9) rfl) (EvH.of EvS.int))) PtS.none))) (i := 4) rfl (fun u0 => rfl) (fun u0 u1 => rfl))
    (ExsS.cons (ExS.aug (EvH.of (EvS.call1 hC rfl B.sum (by decide) bf_sum (EvH.of (EvS.ofN (EvN.comp (CompS.mk (CompOk.of (vars := [("end" : Str)]) (caps := []) fs_law_product (by decide)) (ItS.val (fun u0 u1 => rfl) (EvS.slice (EvH.name (i := 5) rfl) (PtS.some (EvS.name (i := 9) rfl)) (PtS.some (EvS.bin (EvH.name (i := 9) rfl) (EvH.of EvS.int))))) (AsT.name (i := 0) rfl (by decide)) TsS.nil (fun u0 u1 => rfl) ⟨_, (ActS.emit (EvS.bin (EvH.of EvS.int) (EvH.of (EvS.bin (EvH.of EvS.int) (EvH.name (i := 0) rfl))))), fun u0 u1 u2 => compTurn_1 ..⟩)))) (fun u0 => rfl) (by decide))) (i := 6) rfl (fun u0 => rfl))
    (ExsS.one (ExS.assign (EvS.bin (EvH.of (EvS.slice (EvH.name (i := 5) rfl) PtS.none (PtS.some (EvS.bin (EvH.name (i := 9) rfl) (EvH.of EvS.int))))) (EvH.of (EvS.slice (EvH.name (i := 5) rfl) (PtS.some (EvS.bin (EvH.name (i := 9) rfl) (EvH.of EvS.int))) PtS.none))) (i := 5) rfl (fun u0 => rfl) (fun u0 u1 => rfl))))))) (fun u0 u1 => rfl))
    (ExsS.one (ExS.ret [] (EvS.tuple (EvL.cons (EvS.slice (EvH.of (EvS.item (EvH.name (i := 3) rfl) EvS.int (fun u0 u1 => rfl))) (PtS.some EvS.int) (PtS.some EvS.neg1)) (EvL.cons (EvS.item (EvH.name (i := 4) rfl) EvS.int (fun u0 u1 => rfl)) (EvL.cons (EvS.name (i := 6) rfl) EvL.nil (fun u0 => rfl)) (fun u0 => rfl)) (fun u0 => rfl)))))))))))))))⟩
noncomputable def fn_law_product : List MV → Option MV := runF [("cells" : Str)] [("things" : Str), ("factors" : Str), ("rows" : Str), ("lines" : Str), ("ends" : Str), ("number" : Str), ("turn" : Str), ("name" : Str), ("at" : Str)] ex_law_product.1
theorem fnS_law_product (C : Cfg) (hC : C.Ok) (B : Bi C) (R : FnRec C "_law_product" phi_law_product [("cells" : Str)] body_law_product false) : FnS C 2 "_law_product" fn_law_product :=
  FnS.of (ℓ := 1) (params := [("cells" : Str)]) (others := [("things" : Str), ("factors" : Str), ("rows" : Str), ("lines" : Str), ("ends" : Str), ("number" : Str), ("turn" : Str), ("name" : Str), ("at" : Str)]) (g := ex_law_product.1) hC R (FnOk.of (by decide)) (ex_law_product.2 C hC B)

noncomputable def body_law_sides : List Stmt := bodyIn PySem.Challenge.pw_wb0025_01 11
noncomputable def phi_law_sides : Fs := { names := [("figures" : Str), ("sides" : Str), ("first" : Str), ("before" : Str), ("so_far" : Str), ("gap" : Str)], sc := scopeIn PySem.Challenge.pw_wb0025_01 11, wc := true }
theorem fs_law_sides : FsOk phi_law_sides := FsOk.of (by decide)
set_option maxHeartbeats 4000000 in
noncomputable def ex_law_sides : { g : List Sl → Option (Fl × List Sl) // ∀ C : Cfg, C.Ok → Bi C → ExsS C phi_law_sides 1 body_law_sides g } := ⟨_, fun C hC B =>
  (ExsS.cons (ExS.assignN (EvN.list EvL.nil) (i := 1) rfl (fun u0 => rfl) (fun u0 u1 => rfl))
    (ExsS.cons (ExS.for (ItS.range hC (fun u0 u1 => rfl) rfl B.range (EvH.of EvS.int) (fun u0 => rfl)) (AsT.name (i := 2) rfl (fun u0 => rfl))
    (ExsS.cons (ExS.assignT (EvH.of (EvS.tuple (EvL.cons EvS.int (EvL.cons EvS.int EvL.nil (fun u0 => rfl)) (fun u0 => rfl)))) (NamesAt.cons (i := 3) rfl (fun u0 => rfl) (NamesAt.cons (i := 4) rfl (fun u0 => rfl) NamesAt.nil)) (by intro env E; unfold swappedStores Env.blockKind Env.kindOf; rw [E.scope]; rfl) (fun u0 => rfl))
    (ExsS.cons (ExS.appNew (EvN.add (EvH.of (EvS.bin (EvH.of (EvS.ofN (EvN.list (EvL.cons EvS.int EvL.nil (fun u0 => rfl))))) (EvH.of (EvS.bin (EvH.name (i := 2) rfl) (EvH.of EvS.int))))) (EvH.of (EvS.ofN (EvN.list (EvL.cons EvS.int EvL.nil (fun u0 => rfl)))))) (i := 1) rfl (fun u0 => rfl) (fun u0 => rfl) rfl (notInter fs_law_sides) (by intro ρ sl; simp only [addN, bin2, ofN, listN, consF, nilF, getH_set (show (1 : Nat) ≠ 2 by decide), getV_set (show (1 : Nat) ≠ 2 by decide)]))
    (ExsS.one (ExS.for (ItS.range2 hC (fun u0 u1 => rfl) rfl B.range (EvH.of (EvS.bin (EvH.name (i := 2) rfl) (EvH.of EvS.int))) (EvH.of EvS.int) (fun u0 => rfl)) (AsT.name (i := 5) rfl (fun u0 => rfl))
    (ExsS.cons (ExS.assignR (ns := [("before" : Str), ("so_far" : Str)]) (is := [3, 4]) (EvH.of (EvS.tuple (EvL.cons (EvS.name (i := 4) rfl) (EvL.cons (EvS.bin (EvH.of (EvS.bin (EvH.of (EvS.item (EvH.name (i := 0) rfl) (EvS.name (i := 5) rfl) (fun u0 u1 => rfl))) (EvH.name (i := 4) rfl))) (EvH.name (i := 3) rfl)) EvL.nil (fun u0 => rfl)) (fun u0 => rfl)))) (NamesRev.cons (i := 4) rfl (fun u0 => rfl) (NamesRev.cons (i := 3) rfl (fun u0 => rfl) NamesRev.nil)) rfl (by intro env E; unfold swappedStores Env.blockKind Env.kindOf; rw [E.scope]; rfl) (fun u0 => rfl))
    (ExsS.one (ExS.appIn (EvS.name (i := 2) rfl) (EvS.name (i := 4) rfl) (i := 1) rfl (fun u0 => rfl) (fun u0 => rfl) rfl (notInter fs_law_sides) (fun u0 u1 => rfl)))) (fun u0 u1 => rfl))))) (fun u0 u1 => rfl))
    (ExsS.one (ExS.ret [false, true] (EvS.name (i := 1) rfl)))))⟩
noncomputable def fn_law_sides : List MV → Option MV := runF [("figures" : Str)] [("sides" : Str), ("first" : Str), ("before" : Str), ("so_far" : Str), ("gap" : Str)] ex_law_sides.1
theorem fnS_law_sides (C : Cfg) (hC : C.Ok) (B : Bi C) (R : FnRec C "_law_sides" phi_law_sides [("figures" : Str)] body_law_sides false) : FnS C 2 "_law_sides" fn_law_sides :=
  FnS.of (ℓ := 1) (params := [("figures" : Str)]) (others := [("sides" : Str), ("first" : Str), ("before" : Str), ("so_far" : Str), ("gap" : Str)]) (g := ex_law_sides.1) hC R (FnOk.of (by decide)) (ex_law_sides.2 C hC B)

noncomputable def body_law_taken : List Stmt := bodyIn PySem.Challenge.pw_wb0025_01 12
noncomputable def phi_law_taken : Fs := { names := [("row" : Str), ("taken" : Str), ("first" : Str), ("p" : Str), ("last" : Str), ("q" : Str), ("answer" : Str)], sc := scopeIn PySem.Challenge.pw_wb0025_01 12, wc := true }
theorem fs_law_taken : FsOk phi_law_taken := FsOk.of (by decide)
set_option maxHeartbeats 4000000 in
noncomputable def ex_law_taken : { g : List Sl → Option (Fl × List Sl) // ∀ C : Cfg, C.Ok → Bi C → FnS C 5 "_check_parenthesis" fn_check_parenthesis → ExsS C phi_law_taken 6 body_law_taken g } := ⟨_, fun C hC B h_check_parenthesis =>
  (ExsS.cons (ExS.assignN (EvN.list (EvL.cons (EvS.ofN (EvN.list (EvL.cons EvS.int (EvL.cons EvS.int EvL.nil (fun u0 => rfl)) (fun u0 => rfl)))) EvL.nil (fun u0 => rfl))) (i := 1) rfl (fun u0 => rfl) (fun u0 u1 => rfl))
    (ExsS.cons (ExS.assign EvS.int (i := 2) rfl (fun u0 => rfl) (fun u0 u1 => rfl))
    (ExsS.cons (ExS.for (ItS.range hC (fun u0 u1 => rfl) rfl B.range (EvH.of (EvS.call1 hC rfl B.len (by decide) bf_len (EvH.name (i := 0) rfl) (fun u0 => rfl) (by decide))) (fun u0 => rfl)) (AsT.name (i := 3) rfl (fun u0 => rfl))
    (ExsS.cons (ExS.assign (EvS.name (i := 2) rfl) (i := 4) rfl (fun u0 => rfl) (fun u0 u1 => rfl))
    (ExsS.cons (ExS.for (ItS.range2 hC (fun u0 u1 => rfl) rfl B.range (EvH.of (EvS.bin (EvH.name (i := 3) rfl) (EvH.of EvS.int))) (EvH.of (EvS.call1 hC rfl B.len (by decide) bf_len (EvH.name (i := 0) rfl) (fun u0 => rfl) (by decide))) (fun u0 => rfl)) (AsT.name (i := 5) rfl (fun u0 => rfl))
    (ExsS.one (ExS.ite (TrS.and (TrS.cmp (EvH.of (EvS.item (EvH.name (i := 0) rfl) (EvS.name (i := 3) rfl) (fun u0 u1 => rfl))) (EvH.of (EvS.str (cs := [40]) rfl)) rfl) (TrS.cmp (EvH.of (EvS.item (EvH.name (i := 0) rfl) (EvS.name (i := 5) rfl) (fun u0 u1 => rfl))) (EvH.of (EvS.str (cs := [41]) rfl)) rfl))
    (ExsS.cons (ExS.assign (EvS.fn hC rfl (by decide) h_check_parenthesis (EvL.cons (EvS.meth1 mt_join (EvH.of (EvS.str (cs := []) rfl)) (EvH.of (EvS.slice (EvH.name (i := 0) rfl) (PtS.some (EvS.bin (EvH.name (i := 3) rfl) (EvH.of EvS.int))) (PtS.some (EvS.name (i := 5) rfl)))) (fun u0 => rfl) (fun u0 => rfl) rfl (by decide)) EvL.nil (fun u0 => rfl)) (fun u0 => ⟨_, rfl⟩) (by decide)) (i := 6) rfl (fun u0 => rfl) (fun u0 u1 => rfl))
    (ExsS.one (ExS.ite (TrS.cmp (EvH.name (i := 6) rfl) (EvH.of EvS.bool) rfl)
    (ExsS.one (ExS.append (EvS.ofN (EvN.list (EvL.cons (EvS.name (i := 2) rfl) (EvL.cons (EvS.name (i := 4) rfl) EvL.nil (fun u0 => rfl)) (fun u0 => rfl)))) (i := 1) rfl (fun u0 => rfl) (fun u0 => rfl) rfl (notInter fs_law_taken)))
    (ExsS.one (ExS.ite (TrS.cmp (EvH.name (i := 6) rfl) (EvH.of EvS.bool) rfl)
    (ExsS.one (ExS.ret [] (EvS.ofN (EvN.list EvL.nil))))
    ExsS.nil)))))
    (ExsS.one (ExS.ite (TrS.cmp (EvH.of (EvS.item (EvH.name (i := 0) rfl) (EvS.name (i := 5) rfl) (fun u0 u1 => rfl))) (EvH.of (EvS.str (cs := [40, 41]) rfl)) rfl)
    (ExsS.one (ExS.aug (EvH.of EvS.int) (i := 4) rfl (fun u0 => rfl)))
    ExsS.nil)))) (fun u0 u1 => rfl))
    (ExsS.one (ExS.ite (TrS.cmp (EvH.of (EvS.item (EvH.name (i := 0) rfl) (EvS.name (i := 3) rfl) (fun u0 u1 => rfl))) (EvH.of (EvS.str (cs := [40, 41]) rfl)) rfl)
    (ExsS.one (ExS.aug (EvH.of EvS.int) (i := 2) rfl (fun u0 => rfl)))
    ExsS.nil)))) (fun u0 u1 => rfl))
    (ExsS.one (ExS.ret [false, true] (EvS.call1 hC rfl B.sorted (by decide) bf_sortedL (EvH.name (i := 1) rfl) (fun u0 => rfl) (by decide)))))))⟩
noncomputable def fn_law_taken : List MV → Option MV := runF [("row" : Str)] [("taken" : Str), ("first" : Str), ("p" : Str), ("last" : Str), ("q" : Str), ("answer" : Str)] ex_law_taken.1
theorem fnS_law_taken (C : Cfg) (hC : C.Ok) (B : Bi C) (h_check_parenthesis : FnS C 5 "_check_parenthesis" fn_check_parenthesis) (R : FnRec C "_law_taken" phi_law_taken [("row" : Str)] body_law_taken false) : FnS C 7 "_law_taken" fn_law_taken :=
  FnS.of (ℓ := 6) (params := [("row" : Str)]) (others := [("taken" : Str), ("first" : Str), ("p" : Str), ("last" : Str), ("q" : Str), ("answer" : Str)]) (g := ex_law_taken.1) hC R (FnOk.of (by decide)) (ex_law_taken.2 C hC B h_check_parenthesis)

noncomputable def body_law : List Stmt := bodyIn PySem.Challenge.pw_wb0025_01 13
noncomputable def phi_law : Fs := { names := [("script" : Str), ("cells" : Str), ("place" : Str), ("x" : Str), ("row" : Str), ("line" : Str), ("number" : Str), ("lifts" : Str), ("start" : Str), ("word" : Str), ("figures" : Str), ("sides" : Str), ("ones" : Str), ("ways" : Str), ("gap" : Str), ("factor" : Str), ("part" : Str), ("tried" : Str), ("way" : Str), ("used" : Str)], sc := scopeIn PySem.Challenge.pw_wb0025_01 13, wc := true }
theorem fs_law : FsOk phi_law := FsOk.of (by decide)
set_option maxHeartbeats 4000000 in
noncomputable def ex_law : { g : List Sl → Option (Fl × List Sl) // ∀ C : Cfg, C.Ok → Bi C → FnS C 2 "_law_product" fn_law_product → FnS C 2 "Int2AP" fn_Int2AP → FnS C 2 "_law_sides" fn_law_sides → FnS C 7 "_law_taken" fn_law_taken → FnS C 2 "_ellipsis_match" fn_ellipsis_match → ExsS C phi_law 8 body_law g } := ⟨_, fun C hC B h_law_product hInt2AP h_law_sides h_law_taken h_ellipsis_match =>
  (ExsS.cons (ExS.assignN (EvN.list (EvL.cons EvS.int (EvL.cons EvS.int (EvL.cons EvS.int (EvL.cons EvS.int EvL.nil (fun u0 => rfl)) (fun u0 => rfl)) (fun u0 => rfl)) (fun u0 => rfl))) (i := 1) rfl (fun u0 => rfl) (fun u0 u1 => rfl))
    (ExsS.cons (ExS.for (ItS.enum hC rfl B.enumerate (EvS.name (i := 0) rfl) (fun u0 => rfl)) (AsT.tup (NamesAt.cons (i := 2) rfl (fun u0 => rfl) (NamesAt.cons (i := 3) rfl (fun u0 => rfl) NamesAt.nil)))
    (ExsS.one (ExS.augI (EvS.bin (EvH.name (i := 2) rfl) (EvH.of EvS.int)) (EvH.name (i := 3) rfl) (i := 1) rfl (fun u0 u1 u2 => rfl))) (fun u0 u1 => rfl))
    (ExsS.cons (ExS.frz [false, true] (ExS.assign (EvS.ofN (EvN.comp (CompS.mk (CompOk.of (vars := [("cell" : Str)]) (caps := []) fs_law (by decide)) (ItS.val (fun u0 u1 => rfl) (EvS.name (i := 1) rfl)) (AsT.name (i := 0) rfl (by decide)) TsS.nil (fun u0 u1 => rfl) ⟨_, (ActS.emit (EvS.bin (EvH.name (i := 0) rfl) (EvH.of (EvS.bin (EvH.of EvS.int) (EvH.of EvS.int))))), fun u0 u1 u2 => compTurn_1 ..⟩))) (i := 1) rfl (fun u0 => rfl) (swaps_no fs_law (by decide))))
    (ExsS.cons (ExS.assignT (EvH.of (EvS.fn hC rfl (by decide) h_law_product (EvL.cons (EvS.name (i := 1) rfl) EvL.nil (fun u0 => rfl)) (fun u0 => ⟨_, rfl⟩) (by decide))) (NamesAt.cons (i := 4) rfl (fun u0 => rfl) (NamesAt.cons (i := 5) rfl (fun u0 => rfl) (NamesAt.cons (i := 6) rfl (fun u0 => rfl) NamesAt.nil))) (fun u0 u1 => rfl) (fun u0 => rfl))
    (ExsS.cons (ExS.assign (EvS.ofN (EvN.comp (CompS.mk (CompOk.of (vars := [("gap" : Str)]) (caps := [(1, ("cells" : Str))]) fs_law (by decide)) (ItS.range hC (fun u0 u1 => rfl) rfl B.range (EvH.of EvS.int) (fun u0 => rfl)) (AsT.name (i := 0) rfl (by decide)) TsS.nil (fun u0 u1 => rfl) ⟨_, (ActS.emit (EvS.bin (EvH.of EvS.int) (EvH.of (EvS.bin (EvH.of (EvS.bin (EvH.of (EvS.bin (EvH.of (EvS.item (EvH.name (i := 1) rfl) EvS.int (fun u0 u1 => rfl))) (EvH.of EvS.int))) (EvH.of (EvS.bin (EvH.of EvS.int) (EvH.of (EvS.bin (EvH.of EvS.int) (EvH.name (i := 0) rfl))))))) (EvH.of EvS.int))))), fun u0 u1 u2 => compTurn_1 ..⟩))) (i := 7) rfl (fun u0 => rfl) (swaps_no fs_law (by decide)))
    (ExsS.cons (ExS.aug (EvH.of (EvS.call1 hC rfl B.sum (by decide) bf_sum (EvH.of (EvS.ofN (EvN.comp (CompS.mk (CompOk.of (vars := [("gap" : Str)]) (caps := [(7, ("lifts" : Str))]) fs_law (by decide)) (ItS.range hC (fun u0 u1 => rfl) rfl B.range (EvH.of EvS.int) (fun u0 => rfl)) (AsT.name (i := 0) rfl (by decide)) TsS.nil (fun u0 u1 => rfl) ⟨_, (ActS.emit (EvS.bin (EvH.of (EvS.item (EvH.name (i := 1) rfl) (EvS.name (i := 0) rfl) (fun u0 u1 => rfl))) (EvH.of (EvS.bin (EvH.of EvS.int) (EvH.of (EvS.bin (EvH.of EvS.int) (EvH.name (i := 0) rfl))))))), fun u0 u1 u2 => compTurn_1 ..⟩)))) (fun u0 => rfl) (by decide))) (i := 6) rfl (fun u0 => rfl))
    (ExsS.cons (ExS.assign (EvS.bin (EvH.of (EvS.item (EvH.name (i := 1) rfl) EvS.int (fun u0 u1 => rfl))) (EvH.of EvS.int)) (i := 8) rfl (fun u0 => rfl) (fun u0 u1 => rfl))
    (ExsS.cons (ExS.assign (EvS.fn hC rfl (by decide) hInt2AP (EvL.cons (EvS.bin (EvH.name (i := 6) rfl) (EvH.of (EvS.bin (EvH.of EvS.int) (EvH.of (EvS.bin (EvH.of (EvS.bin (EvH.of (EvS.bin (EvH.of (EvS.item (EvH.name (i := 1) rfl) EvS.int (fun u0 u1 => rfl))) (EvH.of EvS.int))) (EvH.of EvS.int))) (EvH.of EvS.int)))))) EvL.nil (fun u0 => rfl)) (fun u0 => ⟨_, rfl⟩) (by decide)) (i := 9) rfl (fun u0 => rfl) (fun u0 u1 => rfl))
    (ExsS.cons (ExS.ite (TrS.or (TrS.cmp (EvH.of (EvS.call1 hC rfl B.len (by decide) bf_len (EvH.name (i := 9) rfl) (fun u0 => rfl) (by decide))) (EvH.of EvS.int) rfl) (TrS.cmp (EvH.of (EvS.fn hC rfl (by decide) hInt2AP (EvL.cons (EvS.bin (EvH.name (i := 6) rfl) (EvH.of (EvS.bin (EvH.of EvS.int) (EvH.of (EvS.bin (EvH.name (i := 8) rfl) (EvH.of EvS.int)))))) EvL.nil (fun u0 => rfl)) (fun u0 => ⟨_, rfl⟩) (by decide))) (EvH.of (EvS.slice (EvH.name (i := 9) rfl) PtS.none (PtS.some (EvS.bin (EvH.of EvS.int) (EvH.name (i := 8) rfl))))) rfl))
    (ExsS.one (ExS.ret [] EvS.bool))
    ExsS.nil)
    (ExsS.cons (ExS.assignC false (CompS.mk (CompOk.of (vars := [("gap" : Str)]) (caps := [(7, ("lifts" : Str)), (9, ("word" : Str))]) fs_law (by decide)) (ItS.range hC (fun u0 u1 => rfl) rfl B.range (EvH.of EvS.int) (fun u0 => rfl)) (AsT.name (i := 0) rfl (by decide)) TsS.nil (fun u0 u1 => rfl) ⟨_, (ActS.emit (EvS.bin (EvH.of (EvS.bin (EvH.of (EvS.item (EvH.name (i := 2) rfl) (EvS.name (i := 0) rfl) (fun u0 u1 => rfl))) (EvH.of EvS.int))) (EvH.of (EvS.item (EvH.name (i := 1) rfl) (EvS.name (i := 0) rfl) (fun u0 u1 => rfl))))), fun u0 u1 u2 => compTurn_1 ..⟩) (i := 10) rfl (fun u0 => rfl) (swaps_yes fs_law (by decide)))
    (ExsS.cons (ExS.assign (EvS.fn hC rfl (by decide) h_law_sides (EvL.cons (EvS.name (i := 10) rfl) EvL.nil (fun u0 => rfl)) (fun u0 => ⟨_, rfl⟩) (by decide)) (i := 11) rfl (fun u0 => rfl) (fun u0 u1 => rfl))
    (ExsS.cons (ExS.assignC false (CompS.mk (CompOk.of (vars := [("i" : Str), ("j" : Str)]) (caps := [(11, ("sides" : Str))]) fs_law (by decide)) (ItS.range hC (fun u0 u1 => rfl) rfl B.range (EvH.of EvS.int) (fun u0 => rfl)) (AsT.name (i := 0) rfl (by decide)) TsS.nil (fun u0 u1 => rfl) ⟨_, ActS.inner (ItS.range2 hC (fun u0 u1 => rfl) rfl B.range (EvH.of (EvS.bin (EvH.name (i := 0) rfl) (EvH.of EvS.int))) (EvH.of EvS.int) (fun u0 => rfl)) (ActS.emit (EvS.ofN (EvN.list (EvL.cons (EvS.name (i := 0) rfl) (EvL.cons (EvS.name (i := 1) rfl) EvL.nil (fun u0 => rfl)) (fun u0 => rfl))))) (AsT.name (i := 1) rfl (by decide)) (TsS.one (TrS.cmp (EvH.of (EvS.item (EvH.of (EvS.item (EvH.name (i := 2) rfl) (EvS.name (i := 0) rfl) (fun u0 u1 => rfl))) (EvS.name (i := 1) rfl) (fun u0 u1 => rfl))) (EvH.of EvS.int) rfl)) (fun u0 u1 => rfl), fun u0 u1 u2 => compTurn_2 ..⟩) (i := 12) rfl (fun u0 => rfl) (swaps_yes fs_law (by decide)))
    (ExsS.cons (ExS.ite (TrS.cmp (EvH.of (EvS.fn hC rfl (by decide) h_law_taken (EvL.cons (EvS.name (i := 4) rfl) EvL.nil (fun u0 => rfl)) (fun u0 => ⟨_, rfl⟩) (by decide))) (EvH.name (i := 12) rfl) rfl)
    (ExsS.one (ExS.ret [] EvS.bool))
    ExsS.nil)
    (ExsS.cons (ExS.ite (TrS.or (TrS.cmp (EvH.of (EvS.item (EvH.name (i := 10) rfl) EvS.int (fun u0 u1 => rfl))) (EvH.of (EvS.call1 hC rfl B.len (by decide) bf_len (EvH.of (EvS.ofN (EvN.comp (CompS.mk (CompOk.of (vars := [("i" : Str), ("j" : Str)]) (caps := []) fs_law (by decide)) (ItS.list (EvS.name (i := 12) rfl)) (AsT.tup (NamesAt.cons (i := 0) rfl (by decide) (NamesAt.cons (i := 1) rfl (by decide) NamesAt.nil))) (TsS.one (TrS.cmp (EvH.name (i := 0) rfl) (EvH.of EvS.int) rfl)) (fun u0 u1 => rfl) ⟨_, (ActS.emit EvS.int), fun u0 u1 u2 => compTurn_1 ..⟩)))) (fun u0 => rfl) (by decide))) rfl) (TrS.cmp (EvH.of (EvS.item (EvH.name (i := 10) rfl) EvS.int (fun u0 u1 => rfl))) (EvH.of (EvS.call1 hC rfl B.len (by decide) bf_len (EvH.of (EvS.ofN (EvN.comp (CompS.mk (CompOk.of (vars := [("i" : Str), ("j" : Str)]) (caps := []) fs_law (by decide)) (ItS.list (EvS.name (i := 12) rfl)) (AsT.tup (NamesAt.cons (i := 0) rfl (by decide) (NamesAt.cons (i := 1) rfl (by decide) NamesAt.nil))) (TsS.one (TrS.cmp (EvH.name (i := 1) rfl) (EvH.of EvS.int) rfl)) (fun u0 u1 => rfl) ⟨_, (ActS.emit EvS.int), fun u0 u1 u2 => compTurn_1 ..⟩)))) (fun u0 => rfl) (by decide))) rfl))
    (ExsS.one (ExS.ret [] EvS.bool))
    ExsS.nil)
    (ExsS.cons (ExS.assign (EvS.ofN (EvN.list (EvL.cons (EvS.ofN (EvN.list (EvL.cons (EvS.item (EvH.of (EvS.str (cs := [97, 98, 99, 100, 101]) rfl)) (EvS.name (i := 8) rfl) (fun u0 u1 => rfl)) (EvL.cons (EvS.str (cs := []) rfl) EvL.nil (fun u0 => rfl)) (fun u0 => rfl)))) EvL.nil (fun u0 => rfl)))) (i := 13) rfl (fun u0 => rfl) (fun u0 u1 => rfl))
    (ExsS.cons (ExS.for (ItS.range2 hC (fun u0 u1 => rfl) rfl B.range (EvH.of (EvS.bin (EvH.name (i := 8) rfl) (EvH.of EvS.int))) (EvH.of EvS.int) (fun u0 => rfl)) (AsT.name (i := 14) rfl (fun u0 => rfl))
    (ExsS.cons (ExS.assign (EvS.item (EvH.of (EvS.str (cs := [97, 98, 99, 100, 101]) rfl)) (EvS.name (i := 14) rfl) (fun u0 u1 => rfl)) (i := 15) rfl (fun u0 => rfl) (fun u0 u1 => rfl))
    (ExsS.cons (ExS.assign (EvS.slice (EvH.name (i := 5) rfl) (PtS.some (EvS.meth1 mt_index (EvH.name (i := 5) rfl) (EvH.of (EvS.item (EvH.of (EvS.str (cs := [97, 98, 99, 100, 101]) rfl)) (EvS.name (i := 8) rfl) (fun u0 u1 => rfl))) (fun u0 => rfl) (fun u0 => rfl) rfl (by decide))) (PtS.some (EvS.bin (EvH.of (EvS.meth1 mt_index (EvH.name (i := 5) rfl) (EvH.name (i := 15) rfl) (fun u0 => rfl) (fun u0 => rfl) rfl (by decide))) (EvH.of EvS.int)))) (i := 16) rfl (fun u0 => rfl) (fun u0 u1 => rfl))
    (ExsS.cons (ExS.assignC false (CompS.mk (CompOk.of (vars := [("way" : Str), ("used" : Str), ("name" : Str)]) (caps := [(15, ("factor" : Str))]) fs_law (by decide)) (ItS.list (EvS.name (i := 13) rfl)) (AsT.tup (NamesAt.cons (i := 0) rfl (by decide) (NamesAt.cons (i := 1) rfl (by decide) NamesAt.nil))) TsS.nil (fun u0 u1 => rfl) ⟨_, ActS.inner (ItS.val (fun u0 u1 => rfl) (EvS.str (cs := [112, 113, 114, 115]) rfl)) (ActS.emit (EvS.ofN (EvN.list (EvL.cons (EvS.bin (EvH.of (EvS.bin (EvH.of (EvS.bin (EvH.of (EvS.bin (EvH.name (i := 0) rfl) (EvH.of (EvS.str (cs := [46, 46, 46]) rfl)))) (EvH.name (i := 2) rfl))) (EvH.of (EvS.str (cs := [46, 46, 46]) rfl)))) (EvH.name (i := 3) rfl)) (EvL.cons (EvS.bin (EvH.name (i := 1) rfl) (EvH.name (i := 2) rfl)) EvL.nil (fun u0 => rfl)) (fun u0 => rfl))))) (AsT.name (i := 2) rfl (by decide)) (TsS.one (TrS.cmp (EvH.name (i := 2) rfl) (EvH.name (i := 1) rfl) rfl)) (fun u0 u1 => rfl), fun u0 u1 u2 => compTurn_2 ..⟩) (i := 17) rfl (fun u0 => rfl) (swaps_yes fs_law (by decide)))
    (ExsS.cons (ExS.assignC false (CompS.mk (CompOk.of (vars := [("pair" : Str)]) (caps := [(16, ("part" : Str))]) fs_law (by decide)) (ItS.val (fun u0 u1 => rfl) (EvS.name (i := 17) rfl)) (AsT.name (i := 0) rfl (by decide)) (TsS.one (TrS.cmp (EvH.of (EvS.fn hC rfl (by decide) h_ellipsis_match (EvL.cons (EvS.item (EvH.name (i := 0) rfl) EvS.int (fun u0 u1 => rfl)) (EvL.cons (EvS.name (i := 1) rfl) EvL.nil (fun u0 => rfl)) (fun u0 => rfl)) (fun u0 => ⟨_, rfl⟩) (by decide))) (EvH.of EvS.bool) rfl)) (fun u0 u1 => rfl) ⟨_, (ActS.emit (EvS.name (i := 0) rfl)), fun u0 u1 u2 => compTurn_1 ..⟩) (i := 13) rfl (fun u0 => rfl) (swaps_yes fs_law (by decide)))
    (ExsS.one (ExS.ite (TrS.cmp (EvH.of (EvS.call1 hC rfl B.len (by decide) bf_len (EvH.name (i := 13) rfl) (fun u0 => rfl) (by decide))) (EvH.of (EvS.item (EvH.of (EvS.item (EvH.name (i := 11) rfl) (EvS.name (i := 8) rfl) (fun u0 u1 => rfl))) (EvS.bin (EvH.name (i := 14) rfl) (EvH.of EvS.int)) (fun u0 u1 => rfl))) rfl)
    (ExsS.one (ExS.ret [] EvS.bool))
    ExsS.nil)))))) (fun u0 u1 => rfl))
    (ExsS.cons (ExS.ite (TrS.or (TrS.cmp (EvH.of (EvS.fn hC rfl (by decide) h_ellipsis_match (EvL.cons (EvS.str (cs := [115, 46, 46, 46, 115, 46, 46, 46, 115]) rfl) (EvL.cons (EvS.name (i := 5) rfl) EvL.nil (fun u0 => rfl)) (fun u0 => rfl)) (fun u0 => ⟨_, rfl⟩) (by decide))) (EvH.of EvS.bool) rfl) (TrS.cmp (EvH.of (EvS.fn hC rfl (by decide) h_ellipsis_match (EvL.cons (EvS.str (cs := [115, 46, 46, 46, 115, 46, 46, 46, 115, 46, 46, 46, 115]) rfl) (EvL.cons (EvS.name (i := 5) rfl) EvL.nil (fun u0 => rfl)) (fun u0 => rfl)) (fun u0 => ⟨_, rfl⟩) (by decide))) (EvH.of EvS.bool) rfl))
    (ExsS.one (ExS.ret [] EvS.bool))
    ExsS.nil)
    (ExsS.cons (ExS.for (ItS.list (EvS.name (i := 13) rfl)) (AsT.tup (NamesAt.cons (i := 18) rfl (fun u0 => rfl) (NamesAt.cons (i := 19) rfl (fun u0 => rfl) NamesAt.nil)))
    (ExsS.cons (ExS.ite (TrS.cmp (EvH.of (EvS.fn hC rfl (by decide) h_ellipsis_match (EvL.cons (EvS.bin (EvH.of (EvS.bin (EvH.of (EvS.str (cs := [46, 46, 46]) rfl)) (EvH.name (i := 18) rfl))) (EvH.of (EvS.str (cs := [46, 46, 46]) rfl))) (EvL.cons (EvS.name (i := 5) rfl) EvL.nil (fun u0 => rfl)) (fun u0 => rfl)) (fun u0 => ⟨_, rfl⟩) (by decide))) (EvH.of EvS.bool) rfl)
    (ExsS.one (ExS.ret [] EvS.bool))
    ExsS.nil)
    (ExsS.one (ExS.ite (TrS.or (TrS.cmp (EvH.of (EvS.fn hC rfl (by decide) h_ellipsis_match (EvL.cons (EvS.bin (EvH.name (i := 18) rfl) (EvH.of (EvS.str (cs := [46, 46, 46]) rfl))) (EvL.cons (EvS.name (i := 5) rfl) EvL.nil (fun u0 => rfl)) (fun u0 => rfl)) (fun u0 => ⟨_, rfl⟩) (by decide))) (EvH.of EvS.bool) rfl) (TrS.cmp (EvH.of (EvS.fn hC rfl (by decide) h_ellipsis_match (EvL.cons (EvS.bin (EvH.of (EvS.str (cs := [46, 46, 46]) rfl)) (EvH.name (i := 18) rfl)) (EvL.cons (EvS.name (i := 5) rfl) EvL.nil (fun u0 => rfl)) (fun u0 => rfl)) (fun u0 => ⟨_, rfl⟩) (by decide))) (EvH.of EvS.bool) rfl))
    (ExsS.one (ExS.ret [] EvS.bool))
    ExsS.nil))) (fun u0 u1 => rfl))
    (ExsS.one (ExS.ret [] EvS.bool))))))))))))))))))))⟩
noncomputable def fn_law : List MV → Option MV := runF [("script" : Str)] [("cells" : Str), ("place" : Str), ("x" : Str), ("row" : Str), ("line" : Str), ("number" : Str), ("lifts" : Str), ("start" : Str), ("word" : Str), ("figures" : Str), ("sides" : Str), ("ones" : Str), ("ways" : Str), ("gap" : Str), ("factor" : Str), ("part" : Str), ("tried" : Str), ("way" : Str), ("used" : Str)] ex_law.1
theorem fnS_law (C : Cfg) (hC : C.Ok) (B : Bi C) (h_law_product : FnS C 2 "_law_product" fn_law_product) (hInt2AP : FnS C 2 "Int2AP" fn_Int2AP) (h_law_sides : FnS C 2 "_law_sides" fn_law_sides) (h_law_taken : FnS C 7 "_law_taken" fn_law_taken) (h_ellipsis_match : FnS C 2 "_ellipsis_match" fn_ellipsis_match) (R : FnRec C "law" phi_law [("script" : Str)] body_law false) : FnS C 9 "law" fn_law :=
  FnS.of (ℓ := 8) (params := [("script" : Str)]) (others := [("cells" : Str), ("place" : Str), ("x" : Str), ("row" : Str), ("line" : Str), ("number" : Str), ("lifts" : Str), ("start" : Str), ("word" : Str), ("figures" : Str), ("sides" : Str), ("ones" : Str), ("ways" : Str), ("gap" : Str), ("factor" : Str), ("part" : Str), ("tried" : Str), ("way" : Str), ("used" : Str)]) (g := ex_law.1) hC R (FnOk.of (by decide)) (ex_law.2 C hC B h_law_product hInt2AP h_law_sides h_law_taken h_ellipsis_match)

end Mine
end

section
open PySem PyProof.Rows
set_option maxRecDepth 100000
set_option maxHeartbeats 0
namespace Mine
noncomputable def hexD : Nat → Nat → List Nat
  | 0, _ => []
  | f + 1, n => if n = 0 then [] else hexD f (n / 16) ++ [n % 16]
noncomputable def AP : List UInt8 := [65, 66, 67, 68, 69, 70, 71, 72, 73, 74, 75, 76, 77, 78, 79, 80]
noncomputable def b65 (d : Nat) : UInt8 := (65 + d).toUInt8

theorem cut_AP (d : Nat) (h : d < 16) : cut AP (some (d : Int)) (some ((d : Int) + 1)) = [b65 d] := by
  have : ∀ d : _root_.Fin 16, cut AP (some (d.1 : Int)) (some ((d.1 : Int) + 1)) = [b65 d.1] := by decide
  exact this ⟨d, h⟩

theorem int2ap_loop : ∀ (f n : Nat) (val : List UInt8) (m : Sl) (k : Nat), n < 16 ^ f → f < k → val.length + f ≤ 1000 →
    ∃ m', whileL (truthF fun ρ => getH ρ 0)
          (seqF (setTF [0, 3] (bin2 bDivmod (fun ρ => getH ρ 0) fun x => some (MV.int 16)))
            (setF 1
              (bin2 (binOp Operator.Add)
                (sliceF (fun ρ => getH ρ 2) (partF fun ρ => getV ρ 3)
                  (partF (bin2 (binOp Operator.Add) (fun ρ => getH ρ 3) fun x => some (MV.int 1))))
                fun ρ => getH ρ 1)))
          k [.v (.int n), .v (.bytes val), .v (.bytes AP), m] = some (.next, [.v (.int 0), .v (.bytes ((hexD f n).map b65 ++ val)), .v (.bytes AP), m'])
  | 0, n, val, m, k + 1, h, hk, hl => by
    have : n = 0 := by simpa using h
    subst this
    exact ⟨m, rfl⟩
  | f + 1, n, val, m, k + 1, h, hk, hl => by
    rw [whileL]
    by_cases h0 : n = 0
    · subst h0
      exact ⟨m, rfl⟩
    · have e1 : (truthF fun ρ => getH ρ 0) [.v (.int n), .v (.bytes val), .v (.bytes AP), m] = some true := by
        show some ((n : Int) != 0) = some true
        simp [h0]
      rw [e1]
      have hd : (n : Int).fdiv 16 = ((n / 16 : Nat) : Int) := by
        rw [Int.fdiv_eq_ediv_of_nonneg _ (by decide)]; rfl
      have hm : (n : Int).fmod 16 = ((n % 16 : Nat) : Int) := by
        rw [Int.fmod_eq_emod_of_nonneg _ (by decide)]; rfl
      obtain ⟨m', ih⟩ := int2ap_loop f (n / 16) (b65 (n % 16) :: val) (.v (.int (n % 16 : Nat))) k (by
        rw [Nat.pow_succ] at h
        exact Nat.div_lt_of_lt_mul (by rw [Nat.mul_comm]; exact h)) (by omega) (by simp; omega)
      refine ⟨m', ?_⟩
      have a1 : setTF [0, 3] (bin2 bDivmod (fun ρ => getH ρ 0) fun x => some (MV.int 16)) [.v (.int n), .v (.bytes val), .v (.bytes AP), m] = some (.next, [.v (.int (n / 16 : Nat)), .v (.bytes val), .v (.bytes AP), .v (.int (n % 16 : Nat))]) := by
        rw [← hd, ← hm]; rfl
      have a2 : sliceF (fun ρ => getH ρ 2) (partF fun ρ => getV ρ 3) (partF (bin2 (binOp Operator.Add) (fun ρ => getH ρ 3) fun x => some (MV.int 1))) [Sl.v (.int (n / 16 : Nat)), .v (.bytes val), .v (.bytes AP), .v (.int (n % 16 : Nat))] = some (.bytes [b65 (n % 16)]) := by
        show some (MV.bytes (cut AP (some ((n % 16 : Nat) : Int)) (some (((n % 16 : Nat) : Int) + 1)))) = _
        rw [cut_AP _ (Nat.mod_lt _ (by decide))]
      rw [seqF_next a1 (setF_eq (bin2_eq a2 rfl (if_pos (by show 1 + val.length ≤ 16777216; omega))))]
      show whileL _ _ k [Sl.v (.int (n / 16 : Nat)), .v (.bytes (b65 (n % 16) :: val)), .v (.bytes AP), .v (.int (n % 16 : Nat))] = _
      rw [ih, hexD, if_neg h0, List.map_append, List.append_assoc]
      rfl

theorem fn_Int2AP_is (n : Int) (h : n.natAbs < 16 ^ 100) : fn_Int2AP [.int n] = some (.bytes ((hexD 100 n.natAbs).map b65)) := by
  obtain ⟨m', e⟩ := int2ap_loop 100 n.natAbs [] .un 4096 h (by decide) (by decide)
  rw [List.append_nil] at e
  have ha : (if n < 0 then -n else n) = (n.natAbs : Int) := by split <;> omega
  refine Res.run (g := ex_Int2AP.1) rfl ?_
  refine Res.next rfl ?_
  refine Res.next (ρ₁ := [.v (.int 0), .v (.bytes ((hexD 100 n.natAbs).map b65)), .v (.bytes AP), m']) ?_ (Res.ret rfl)
  show whileL _ _ 4096 [Sl.v (.int (if n < 0 then -n else n)), .v (.bytes []), .v (.bytes AP), .un] = _
  rw [ha]; exact e
theorem clip_nat (n a : Nat) : clipAt n (a : Int) = min a n := by
  unfold clipAt
  rw [if_neg (by omega)]
  omega
theorem cut_nat (A : List Nat) (a b : Nat) : cut A (some (a : Int)) (some (b : Int)) = (A.drop a).take (b - a) := by
  show (A.drop (clipAt A.length (a : Int))).take (clipAt A.length (b : Int) - clipAt A.length (a : Int)) = _
  rw [clip_nat, clip_nat]
  by_cases h : a ≤ A.length
  · rw [Nat.min_eq_left h]
    by_cases h2 : b ≤ A.length
    · rw [Nat.min_eq_left h2]
    · rw [Nat.min_eq_right (by omega), List.take_of_length_le (by rw [List.length_drop]; omega), List.take_of_length_le (by rw [List.length_drop]; omega)]
  · rw [show min a A.length = A.length from Nat.min_eq_right (by omega), List.drop_eq_nil_of_le (Nat.le_refl A.length), List.drop_eq_nil_of_le (show A.length ≤ a by omega)]
    simp
theorem cut_tail (A : List Nat) (a : Nat) : cut A (some (a : Int)) none = A.drop a := by
  show (A.drop (clipAt A.length (a : Int))).take (A.length - clipAt A.length (a : Int)) = _
  rw [clip_nat]
  by_cases h : a ≤ A.length
  · rw [Nat.min_eq_left h, List.take_of_length_le (by rw [List.length_drop]; omega)]
  · rw [show min a A.length = A.length from Nat.min_eq_right (by omega), List.drop_eq_nil_of_le (Nat.le_refl A.length), List.drop_eq_nil_of_le (show A.length ≤ a by omega)]
    simp

noncomputable def opV : Option Nat → MV
  | none => .none
  | some o => .int (o : Int)
noncomputable def tokV (p : Nat × List Nat) : MV := .tuple [.int p.1, .str p.2]
noncomputable def stripBody : List Sl → Option (Fl × List Sl) :=
            (iteF (cmp2 CmpOp.Eq (fun ρ => getH ρ 5) fun x => some (MV.str [34]))
              (iteF (cmp2 CmpOp.Is (fun ρ => getH ρ 2) fun x => some MV.none) (setF 2 fun ρ => getV ρ 4)
                (seqF
                  (iteF (cmp2 CmpOp.NotEq (fun ρ => getH ρ 1) fun ρ => getH ρ 2)
                    (appendF 3 (sliceF (fun ρ => getH ρ 0) (partF fun ρ => getV ρ 1) (partF fun ρ => getV ρ 2))) doneF)
                  (seqF (setF 1 (bin2 (binOp Operator.Add) (fun ρ => getH ρ 4) fun x => some (MV.int 1)))
                    (setF 2 fun x => some MV.none))))
              doneF)
theorem strip_loop (A : List Nat) (hA : A.length ≤ lim) : ∀ (ts : List (Nat × List Nat)) (start : Nat) (op : Option Nat) (R : List (List Nat)) (p c : Sl), R.length + ts.length < lim →
    ∃ (start' : Nat) (op' : Option Nat) (R' : List (List Nat)) (p' c' : Sl),
      forL (tTup [4, 5]) stripBody (ts.map tokV) [.v (.str A), .v (.int start), .v (opV op), .m (R.map .str), p, c] = some (.next, [.v (.str A), .v (.int start'), .v (opV op'), .m (R'.map .str), p', c']) ∧
      R'.flatten ++ A.drop start' = R.flatten ++ fin A start op ts ∧ R'.length ≤ R.length + ts.length
  | [], start, op, R, p, c, h => ⟨start, op, R, p, c, rfl, by cases op <;> rfl, Nat.le_refl _⟩
  | (q, t) :: ts, start, op, R, p, c, h => by
    have hl : R.length + ts.length + 1 < lim := by simpa [Nat.add_assoc] using h
    by_cases ht : t = [34]
    · subst ht
      cases op with
      | none =>
        obtain ⟨s', o', R', p', c', e, h1, h2⟩ := strip_loop A hA ts start (some q) R (.v (.int q)) (.v (.str [34])) (by omega)
        refine ⟨s', o', R', p', c', ?_, ?_, by simp; omega⟩
        · refine forL_next (ρ₁ := [.v (.str A), .v (.int start), .v .none, .m (R.map .str), .v (.int q), .v (.str [34])]) rfl ?_ e
          rfl
        · rw [fin, if_pos rfl]; exact h1
      | some o =>
        by_cases ho : start = o
        · subst ho
          obtain ⟨s', o', R', p', c', e, h1, h2⟩ := strip_loop A hA ts (q + 1) none R (.v (.int q)) (.v (.str [34])) (by omega)
          refine ⟨s', o', R', p', c', ?_, ?_, by simp; omega⟩
          · refine forL_next (ρ₁ := [.v (.str A), .v (.int start), .v (.int start), .m (R.map .str), .v (.int q), .v (.str [34])]) rfl ?_ e
            refine iteF_t rfl (iteF_f rfl (seqF_next (iteF_f ?_ rfl) rfl))
            show some (!((start : Int) == (start : Int))) = _
            rw [beq_self_eq_true]; rfl
          · rw [fin, if_pos rfl, Nat.sub_self]; exact h1
        · obtain ⟨s', o', R', p', c', e, h1, h2⟩ := strip_loop A hA ts (q + 1) none (R ++ [(A.drop start).take (o - start)]) (.v (.int q)) (.v (.str [34])) (by rw [List.length_append]; show R.length + 1 + _ < _; omega)
          refine ⟨s', o', R', p', c', ?_, ?_, by simp at h2 ⊢; omega⟩
          · refine forL_next (ρ₁ := [.v (.str A), .v (.int start), .v (.int o), .m (R.map .str), .v (.int q), .v (.str [34])]) rfl ?_ e
            refine iteF_t rfl (iteF_f rfl (seqF_next (iteF_t ?_ (appendF_eq (v := .str ((A.drop start).take (o - start))) rfl ?_ ?_)) ?_))
            · show some (!((start : Int) == (o : Int))) = _
              have : ((start : Int) == (o : Int)) = false := by simp; omega
              rw [this]; rfl
            · refine sliceF_eq rfl rfl rfl ?_
              show (if A.length ≤ lim then some (MV.str (cut A (some (start : Int)) (some (o : Int)))) else none) = _
              rw [if_pos hA, cut_nat]
            · rw [List.length_map]; omega
            · rw [List.map_append]; rfl
          · rw [fin, if_pos rfl, h1]
            simp
    · obtain ⟨s', o', R', p', c', e, h1, h2⟩ := strip_loop A hA ts start op R (.v (.int q)) (.v (.str t)) (by omega)
      refine ⟨s', o', R', p', c', ?_, ?_, by simp; omega⟩
      · refine forL_next (ρ₁ := [.v (.str A), .v (.int start), .v (opV op), .m (R.map .str), .v (.int q), .v (.str t)]) rfl ?_ e
        refine iteF_f ?_ rfl
        show some (t == [34]) = some false
        have : (t == [34]) = false := by simpa using ht
        rw [this]
      · cases op <;> (rw [fin, if_neg ht]; exact h1)

theorem strsOf_map : ∀ R : List (List Nat), strsOf (R.map .str) = some R
  | [] => rfl
  | x :: R => by rw [List.map_cons, strsOf, strsOf_map R]; rfl
theorem joinL_nil : ∀ R : List (List Nat), joinL [] R = R.flatten
  | [] => rfl
  | [x] => by simp [joinL]
  | x :: y :: R => by rw [joinL, joinL_nil (y :: R)]; simp
theorem sum_len (R : List (List Nat)) : (R.map List.length).sum = R.flatten.length := List.length_flatten.symm

theorem noQuote : ∀ cs : List Nat, findL [34] cs = none → 34 ∉ cs
  | [], _ => by simp
  | c :: cs, h => by
    rw [findL] at h
    split at h
    · cases h
    · rename_i hp
      have h2 : findL [34] cs = none := by cases he : findL [34] cs with
        | none => rfl
        | some k => rw [he] at h; cases h
      have : c ≠ 34 := by
        intro e; subst e; exact hp rfl
      simp only [List.mem_cons, not_or]
      exact ⟨fun e => this e.symm, noQuote cs h2⟩
theorem K0_none : ∀ ts : List (List Nat), (∀ t ∈ ts, t ≠ [34]) → K0 none ts = ts
  | [], _ => rfl
  | t :: ts, h => by rw [K0, if_neg (h t (List.mem_cons_self ..)), K0_none ts fun u hu => h u (List.mem_cons_of_mem _ hu)]
theorem tk_flat : ∀ (cs : List Nat), (tk false cs).flatten = cs ∧ (tk true cs).flatten = 92 :: cs
  | [] => ⟨rfl, rfl⟩
  | c :: cs => by
    refine ⟨?_, ?_⟩
    · rw [tk]
      split
      · next h => rw [(tk_flat cs).2, h]
      · rw [List.flatten_cons, (tk_flat cs).1]; rfl
    · rw [tk, List.flatten_cons, (tk_flat cs).1]; rfl
theorem K0_len : ∀ (ts : List (List Nat)), (K0 none ts).flatten.length ≤ ts.flatten.length ∧ ∀ q, (K0 (some q) ts).flatten.length ≤ q.flatten.length + ts.flatten.length
  | [] => ⟨Nat.le_refl _, fun q => Nat.le_refl _⟩
  | t :: ts => by
    refine ⟨?_, fun q => ?_⟩
    · rw [K0]
      split
      · have := (K0_len ts).2 [t]; simpa using this
      · have := (K0_len ts).1; simp at this ⊢; omega
    · rw [K0]
      split
      · have := (K0_len ts).1; simp at this ⊢; omega
      · have := (K0_len ts).2 (q ++ [t]); simp at this ⊢; omega
theorem tkP_len : ∀ (cs : List Nat) (e : Bool) (j : Nat), (tkP e j cs).length ≤ cs.length + (if e then 1 else 0)
  | [], true, j => Nat.le_refl _
  | [], false, j => Nat.le_refl _
  | c :: cs, true, j => by
    have := tkP_len cs false (j + 1)
    simp [tkP] at this ⊢; omega
  | c :: cs, false, j => by
    rw [tkP]
    split
    · have := tkP_len cs true (j + 1); simp at this ⊢; omega
    · have := tkP_len cs false (j + 1); simp at this ⊢; omega

theorem fn_strip_is (cs : List Nat) (h : cs.length < lim) : fn_strip_quoted_realnames [.str cs] = some (.str (K0 none (tk false cs)).flatten) := by
  refine Res.run (g := ex_strip_quoted_realnames.1) rfl ?_
  cases hf : findL [34] cs with
  | none =>
    refine Res.stop (Res.ite (b := true) ?_ (Res.ret ?_))
    · show (Option.map _ (some (findL [34] cs).isSome)) = _
      rw [hf]; rfl
    · show some (MV.str cs) = _
      have h34 := noQuote cs hf
      rw [K0_none, (tk_flat cs).1]
      intro t ht e
      subst e
      exact h34 (by
        rw [← (tk_flat cs).1]
        exact List.mem_flatten.2 ⟨[34], ht, List.mem_singleton.2 rfl⟩)
  | some k =>
    refine Res.next (ρ₁ := _) (iteF_f ?_ rfl) ?_
    · show (Option.map _ (some (findL [34] cs).isSome)) = _
      rw [hf]; rfl
    refine Res.next rfl (Res.next rfl (Res.next rfl ?_))
    have hlen := tkP_len cs false 0
    obtain ⟨s', o', R', p', c', e, h1, h2⟩ := strip_loop cs (Nat.le_of_lt h) (tkP false 0 cs) 0 none [] .un .un (by simp at hlen ⊢; omega)
    have h3 := (fin_is cs cs false 0 0 0 rfl (Nat.zero_le _) rfl (Nat.le_refl _)).1
    rw [sg_self, List.nil_append] at h3
    rw [h3, List.flatten_nil, List.nil_append] at h1
    refine Res.next (forF_eq (xs := (tkP false 0 cs).map tokV) ?_ e) ?_
    · show some (escG false 0 cs) = _
      rw [escG_is cs false 0 (fun h => by cases h)]; rfl
    have hkl : (K0 none (tk false cs)).flatten.length ≤ cs.length := by
      have := (K0_len (tk false cs)).1
      rwa [(tk_flat cs).1] at this
    have fit : ∀ R : List (List Nat), R.flatten = (K0 none (tk false cs)).flatten → mJoin (.str []) (.list (R.map .str)) = some (.str (K0 none (tk false cs)).flatten) := by
      intro R hR
      show ((strsOf (R.map .str)).bind fun l => if fitJ [] l then some (MV.str (joinL [] l)) else none) = _
      rw [strsOf_map]
      show (if fitJ [] R then some (MV.str (joinL [] R)) else none) = _
      have hfit : fitJ [] R = true := by
        unfold fitJ
        refine decide_eq_true ?_
        rw [sum_len, hR, List.length_nil, Nat.mul_zero]; omega
      rw [if_pos hfit, joinL_nil, hR]
    by_cases hs : s' < cs.length
    · refine Res.next (ρ₁ := [.v (.str cs), .v (.int s'), .v (opV o'), .m ((R' ++ [cs.drop s']).map .str), p', c']) (iteF_t ?_ ?_) (Res.ret ?_)
      · show (if cs.length ≤ lim then some (MV.int (cs.length : Int)) else none).bind (fun b => cmpOp .Lt (.int s') b) = _
        rw [if_pos (Nat.le_of_lt h)]
        show some (decide ((s' : Int) < (cs.length : Int))) = _
        rw [decide_eq_true (by omega)]
      · refine (appendF_eq (v := .str (cs.drop s')) rfl ?_ ?_).trans ?_
        · refine sliceF_eq rfl rfl rfl ?_
          show (if cs.length ≤ lim then some (MV.str (cut cs (some (s' : Int)) none)) else none) = _
          rw [if_pos (Nat.le_of_lt h), cut_tail]
        · rw [List.length_map]; simp at h2 hlen; omega
        · rw [List.map_append]; rfl
      · exact fit _ (by rw [← h1]; simp)
    · refine Res.next (iteF_f ?_ rfl) (Res.ret ?_)
      · show (if cs.length ≤ lim then some (MV.int (cs.length : Int)) else none).bind (fun b => cmpOp .Lt (.int s') b) = _
        rw [if_pos (Nat.le_of_lt h)]
        show some (decide ((s' : Int) < (cs.length : Int))) = _
        rw [decide_eq_false (by omega)]
      · exact fit _ (by rw [← h1, List.drop_eq_nil_of_le (by omega)]; simp)

noncomputable def Full (ts : List (List Nat)) : Prop := ∀ t ∈ ts, (∃ c, t = [c] ∧ c ≠ 92) ∨ ∃ c, t = [92, c]
theorem tk_full : ∀ ts : List (List Nat), Full ts → tk false ts.flatten = ts
  | [], _ => rfl
  | t :: ts, h => by
    have ih := tk_full ts fun u hu => h u (List.mem_cons_of_mem _ hu)
    rcases h t (List.mem_cons_self ..) with ⟨c, rfl, hc⟩ | ⟨c, rfl⟩
    · show tk false (c :: ts.flatten) = _
      rw [tk, if_neg hc, ih]
    · show tk false (92 :: c :: ts.flatten) = _
      rw [tk, if_pos rfl, tk, ih]
theorem K0_mem : ∀ (ts : List (List Nat)), (∀ t ∈ K0 none ts, t ∈ ts) ∧ ∀ q, ∀ t ∈ K0 (some q) ts, t ∈ q ∨ t ∈ ts
  | [] => ⟨fun t h => h, fun q t h => .inl h⟩
  | u :: ts => by
    refine ⟨fun t h => ?_, fun q t h => ?_⟩
    · rw [K0] at h
      split at h
      · rcases (K0_mem ts).2 [u] t h with h | h
        · rw [List.mem_singleton.1 h]; exact List.mem_cons_self ..
        · exact List.mem_cons_of_mem _ h
      · rcases List.mem_cons.1 h with h | h
        · rw [h]; exact List.mem_cons_self ..
        · exact List.mem_cons_of_mem _ ((K0_mem ts).1 t h)
    · rw [K0] at h
      split at h
      · exact .inr (List.mem_cons_of_mem _ ((K0_mem ts).1 t h))
      · rcases (K0_mem ts).2 (q ++ [u]) t h with h | h
        · rcases List.mem_append.1 h with h | h
          · exact .inl h
          · rw [List.mem_singleton.1 h]; exact .inr (List.mem_cons_self ..)
        · exact .inr (List.mem_cons_of_mem _ h)

theorem dcN_cons (d : Nat) (t : List Nat) (ts : List (List Nat)) : dcN d (t :: ts) = if t = [40] then dcN (d + 1) ts else if t = [41] then (match d with | 0 => none | d + 1 => dcN d ts) else dcN d ts := by
  cases d <;> rfl
noncomputable def checkBody : List Sl → Option (Fl × List Sl) :=
        (iteF (cmp2 CmpOp.Eq (fun ρ => getH ρ 3) fun x => some (MV.str [40]))
          (augF 1 Operator.Add fun x => some (MV.int 1))
          (iteF (cmp2 CmpOp.Eq (fun ρ => getH ρ 3) fun x => some (MV.str [41]))
            (seqF (augF 1 Operator.Sub fun x => some (MV.int 1))
              (iteF (cmp2 CmpOp.Lt (fun ρ => getH ρ 1) fun x => some (MV.int 0)) (retF [] fun x => some (MV.bool false))
                doneF))
            doneF))
theorem check_loop (B : MV) : ∀ (ts : List (Nat × List Nat)) (d : Nat) (p c : Sl),
    match dcN d (ts.map (·.2)) with
    | some d' => ∃ p' c', forL (tTup [2, 3]) checkBody (ts.map tokV) [.v B, .v (.int d), p, c] = some (.next, [.v B, .v (.int d'), p', c'])
    | none => ∃ ρ', forL (tTup [2, 3]) checkBody (ts.map tokV) [.v B, .v (.int d), p, c] = some (.ret (.bool false), ρ')
  | [], d, p, c => ⟨p, c, rfl⟩
  | (q, t) :: ts, d, p, c => by
    rw [List.map_cons, dcN_cons]
    have ne : ∀ {x : List Nat}, t ≠ x → cmp2 CmpOp.Eq (fun ρ => getH ρ 3) (fun u0 => some (MV.str x)) [Sl.v B, .v (.int d), .v (.int q), .v (.str t)] = some false := by
      intro x h
      show some (t == x) = some false
      have : (t == x) = false := by simpa using h
      rw [this]
    by_cases h1 : t = [40]
    · subst h1
      rw [if_pos rfl]
      have ih := check_loop B ts (d + 1) (.v (.int q)) (.v (.str [40]))
      have st : checkBody [Sl.v B, .v (.int d), .v (.int q), .v (.str [40])] = some (.next, [Sl.v B, .v (.int ((d + 1 : Nat) : Int)), .v (.int q), .v (.str [40])]) := rfl
      have hl : ∀ r, forL (tTup [2, 3]) checkBody (ts.map tokV) [Sl.v B, .v (.int ((d + 1 : Nat) : Int)), .v (.int q), .v (.str [40])] = r →
          forL (tTup [2, 3]) checkBody (((q, [40]) :: ts).map tokV) [Sl.v B, .v (.int d), p, c] = r := fun r h =>
        forL_next (ρ₁ := [Sl.v B, .v (.int d), .v (.int q), .v (.str [40])]) rfl st h
      cases hd : dcN (d + 1) (ts.map (·.2)) with
      | some d' =>
        rw [hd] at ih
        obtain ⟨p', c', e⟩ := ih
        exact ⟨p', c', hl _ e⟩
      | none =>
        rw [hd] at ih
        obtain ⟨ρ', e⟩ := ih
        exact ⟨ρ', hl _ e⟩
    · rw [if_neg h1]
      by_cases h2 : t = [41]
      · subst h2
        rw [if_pos rfl]
        cases d with
        | zero => exact ⟨[.v B, .v (.int (-1)), .v (.int q), .v (.str [41])], forL_ret (ρ₁ := [Sl.v B, .v (.int 0), .v (.int q), .v (.str [41])]) rfl rfl⟩
        | succ d =>
          have ih := check_loop B ts d (.v (.int q)) (.v (.str [41]))
          have st : checkBody [Sl.v B, .v (.int ((d + 1 : Nat) : Int)), .v (.int q), .v (.str [41])] = some (.next, [Sl.v B, .v (.int (d : Int)), .v (.int q), .v (.str [41])]) := by
            have e : (((d + 1 : Nat) : Int) - 1) = (d : Int) := by omega
            refine iteF_f rfl (iteF_t rfl (seqF_next (ρ₁ := [Sl.v B, .v (.int (d : Int)), .v (.int q), .v (.str [41])]) ?_ (iteF_f ?_ rfl)))
            · show some (Fl.next, [Sl.v B, .v (.int (((d + 1 : Nat) : Int) - 1)), .v (.int q), .v (.str [41])]) = _
              rw [e]
            · show some (decide ((d : Int) < 0)) = _
              rw [decide_eq_false (by omega)]
          have hl : ∀ r, forL (tTup [2, 3]) checkBody (ts.map tokV) [Sl.v B, .v (.int (d : Int)), .v (.int q), .v (.str [41])] = r →
              forL (tTup [2, 3]) checkBody (((q, [41]) :: ts).map tokV) [Sl.v B, .v (.int ((d + 1 : Nat) : Int)), p, c] = r := fun r h =>
            forL_next (ρ₁ := [Sl.v B, .v (.int ((d + 1 : Nat) : Int)), .v (.int q), .v (.str [41])]) rfl st h
          show match dcN d (ts.map (·.2)) with
            | some d' => _
            | none => _
          cases hd : dcN d (ts.map (·.2)) with
          | some d' =>
            rw [hd] at ih
            obtain ⟨p', c', e⟩ := ih
            exact ⟨p', c', hl _ e⟩
          | none =>
            rw [hd] at ih
            obtain ⟨ρ', e⟩ := ih
            exact ⟨ρ', hl _ e⟩
      · rw [if_neg h2]
        have ih := check_loop B ts d (.v (.int q)) (.v (.str t))
        have st : checkBody [Sl.v B, .v (.int d), .v (.int q), .v (.str t)] = some (.next, [Sl.v B, .v (.int d), .v (.int q), .v (.str t)]) := iteF_f (ne h1) (iteF_f (ne h2) rfl)
        have hl : ∀ r, forL (tTup [2, 3]) checkBody (ts.map tokV) [Sl.v B, .v (.int d), .v (.int q), .v (.str t)] = r →
            forL (tTup [2, 3]) checkBody (((q, t) :: ts).map tokV) [Sl.v B, .v (.int d), p, c] = r := fun r h =>
          forL_next (ρ₁ := [Sl.v B, .v (.int d), .v (.int q), .v (.str t)]) rfl st h
        cases hd : dcN d (ts.map (·.2)) with
        | some d' =>
          rw [hd] at ih
          obtain ⟨p', c', e⟩ := ih
          exact ⟨p', c', hl _ e⟩
        | none =>
          rw [hd] at ih
          obtain ⟨ρ', e⟩ := ih
          exact ⟨ρ', hl _ e⟩

theorem fn_check_is (ts : List (List Nat)) (hf : Full ts) (hl : ts.flatten.length < lim) : fn_check_parenthesis [.str ts.flatten] = some (.bool (dcN 0 (K0 none ts) == some 0)) := by
  have hs := fn_strip_is ts.flatten hl
  rw [tk_full ts hf] at hs
  have hK : Full (K0 none ts) := fun t ht => hf t ((K0_mem ts).1 t ht)
  refine Res.run (g := ex_check_parenthesis.1) rfl ?_
  refine Res.next (ρ₁ := [.v (.str (K0 none ts).flatten), .un, .un, .un]) (setF_eq (appF_eq (consF_eq rfl rfl) hs)) ?_
  refine Res.next rfl ?_
  have L := check_loop (.str (K0 none ts).flatten) (tkP false 0 (K0 none ts).flatten) 0 .un .un
  rw [tkP_snd, tk_full _ hK] at L
  have hi : genI escF (fun ρ => getV ρ 0) [Sl.v (.str (K0 none ts).flatten), .v (.int 0), .un, .un] = some ((tkP false 0 (K0 none ts).flatten).map tokV) := by
    show some (escG false 0 (K0 none ts).flatten) = _
    rw [escG_is _ false 0 (fun h => by cases h)]; rfl
  cases hd : dcN 0 (K0 none ts) with
  | none =>
    rw [hd] at L
    obtain ⟨ρ', e⟩ := L
    exact Res.stop ⟨ρ', forF_eq hi e⟩
  | some d =>
    rw [hd] at L
    obtain ⟨p', c', e⟩ := L
    refine Res.next (forF_eq hi e) (Res.ret (boolF_eq ?_))
    show some ((d : Int) == 0) = some (some d == some 0)
    cases d <;> rfl
noncomputable def dots : List Nat := [46, 46, 46]
noncomputable def egr (got : List Nat) (b : Nat) : Nat → List (List Nat) → Bool
  | _, [] => true
  | a, w :: ws => match find3L w got a b with
    | none => false
    | some k => egr got b (k + w.length) ws
noncomputable def eEnd (got : List Nat) (a : Nat) (l : List (List Nat)) : Bool :=
  match l.getLast? with
  | none => false
  | some w => if w = [] then (if got.length < a then false else egr got got.length a l)
    else if w.isSuffixOf got then (if got.length - w.length < a then false else egr got (got.length - w.length) a l.dropLast) else false
noncomputable def eMatch (want got : List Nat) : Bool :=
  if (findL dots want).isSome then
    (match splitL dots want with
      | [] => false
      | w :: r => if w = [] then eEnd got 0 (w :: r) else if w.isPrefixOf got then eEnd got w.length r else false)
  else want == got

theorem find3L_le {w x : List Nat} {a b k : Nat} (hb : b ≤ x.length) (hab : a ≤ b) (h : find3L w x a b = some k) : a ≤ k ∧ k + w.length ≤ b := by
  unfold find3L at h
  cases hf : findL w ((x.take b).drop a) with
  | none => rw [hf] at h; cases h
  | some j =>
    rw [hf] at h
    have e : a + j = k := Option.some.inj h
    obtain ⟨h1, h2, _⟩ := findL_some w _ j hf
    have h3 := h2.length_le
    simp at h1 h3
    omega

noncomputable def ellBody : List Sl → Option (Fl × List Sl) :=
                        (seqF
                          (setF 3 (findF (fun ρ => getH ρ 1) (fun ρ => getV ρ 5) (fun ρ => getV ρ 3) fun ρ => getV ρ 4))
                          (seqF
                            (iteF (cmp2 CmpOp.Lt (fun ρ => getH ρ 3) fun x => some (MV.int 0))
                              (retF [] fun x => some (MV.bool false)) doneF)
                            (augF 3 Operator.Add (app1 bLen fun ρ => getH ρ 5))))
theorem ell_loop (want : MV) (m : Sl) (got : List Nat) (hg : got.length ≤ lim) (b : Nat) (hb : b ≤ got.length) : ∀ (ws : List (List Nat)) (a : Nat) (c : Sl), a ≤ b →
    if egr got b a ws then ∃ ρ', forL (tName 5) ellBody (ws.map .str) [.v want, .v (.str got), m, .v (.int a), .v (.int b), c] = some (.next, ρ')
    else ∃ ρ', forL (tName 5) ellBody (ws.map .str) [.v want, .v (.str got), m, .v (.int a), .v (.int b), c] = some (.ret (.bool false), ρ')
  | [], a, c, h => ⟨_, rfl⟩
  | w :: ws, a, c, h => by
    have hc : (0 : Int) ≤ (a : Int) ∧ (a : Int) ≤ (b : Int) ∧ (b : Int) ≤ got.length := by omega
    have ef : ∀ s5, s5 = Sl.v (.str w) → findF (fun ρ => getH ρ 1) (fun ρ => getV ρ 5) (fun ρ => getV ρ 3) (fun ρ => getV ρ 4) [.v want, .v (.str got), m, .v (.int a), .v (.int b), s5] = some (.int (match find3L w got a b with | some k => (k : Int) | none => -1)) := by
      intro s5 e; subst e
      show (if (0 : Int) ≤ (a : Int) ∧ (a : Int) ≤ (b : Int) ∧ (b : Int) ≤ got.length then some (MV.int (match find3L w got (a : Int).toNat (b : Int).toNat with | some k => (k : Int) | none => -1)) else none) = _
      rw [if_pos hc, Int.toNat_natCast, Int.toNat_natCast]
    rw [egr]
    cases hf : find3L w got a b with
    | none =>
      rw [hf] at ef
      refine ⟨[.v want, .v (.str got), m, .v (.int (-1)), .v (.int b), .v (.str w)], ?_⟩
      exact forL_ret (ρ₁ := [.v want, .v (.str got), m, .v (.int a), .v (.int b), .v (.str w)]) rfl (seqF_next (setF_eq (ef _ rfl)) rfl)
    | some k =>
      rw [hf] at ef
      obtain ⟨h1, h2⟩ := find3L_le hb h hf
      have ih := ell_loop want m got hg b hb ws (k + w.length) (.v (.str w)) h2
      have st : ellBody [.v want, .v (.str got), m, .v (.int a), .v (.int b), .v (.str w)] = some (.next, [.v want, .v (.str got), m, .v (.int ((k + w.length : Nat) : Int)), .v (.int b), .v (.str w)]) := by
        refine seqF_next (setF_eq (ef _ rfl)) (seqF_next (ρ₁ := [.v want, .v (.str got), m, .v (.int k), .v (.int b), .v (.str w)]) (iteF_f ?_ rfl) (augF_eq (b := .int w.length) rfl ?_ rfl))
        · show some (decide ((k : Int) < 0)) = _
          rw [decide_eq_false (by omega)]
        · show (if w.length ≤ lim then some (MV.int w.length) else none) = _
          rw [if_pos (by omega)]
      show if egr got b (k + w.length) ws then _ else _
      have hl : ∀ r, forL (tName 5) ellBody (ws.map .str) [.v want, .v (.str got), m, .v (.int ((k + w.length : Nat) : Int)), .v (.int b), .v (.str w)] = r →
          forL (tName 5) ellBody ((w :: ws).map .str) [.v want, .v (.str got), m, .v (.int a), .v (.int b), c] = r := fun r h =>
        forL_next (ρ₁ := [.v want, .v (.str got), m, .v (.int a), .v (.int b), .v (.str w)]) rfl st h
      split
      · next hh => rw [if_pos hh] at ih; obtain ⟨ρ', e⟩ := ih; exact ⟨ρ', hl _ e⟩
      · next hh => rw [if_neg hh] at ih; obtain ⟨ρ', e⟩ := ih; exact ⟨ρ', hl _ e⟩

theorem splitN_le (y : List Nat) : ∀ (n : Nat) (x : List Nat), ∀ w ∈ splitN y n x, w.length ≤ x.length
  | 0, x, w, h => by rw [splitN, List.mem_singleton] at h; rw [h]; exact Nat.le_refl _
  | n + 1, x, w, h => by
    rw [splitN] at h
    split at h
    · rw [List.mem_singleton] at h; rw [h]; exact Nat.le_refl _
    · rcases List.mem_cons.1 h with h | h
      · rw [h]; simp; omega
      · have := splitN_le y n _ w h
        simp at this; omega
theorem splitN_two (y : List Nat) {n : Nat} {x : List Nat} (hn : n ≠ 0) (h : (findL y x).isSome) : 2 ≤ (splitN y n x).length := by
  cases n with
  | zero => exact absurd rfl hn
  | succ n =>
    rw [splitN]
    cases hf : findL y x with
    | none => rw [hf] at h; cases h
    | some k =>
      show 2 ≤ (splitN y n _).length + 1
      cases n with
      | zero => exact Nat.le_refl _
      | succ n => rw [splitN]; split <;> simp

theorem idx_ok {n : Nat} {k : Nat} (h : k < n) (hn : n ≤ lim) : idx n (k : Int) = some k := by
  unfold idx
  rw [if_pos hn, if_pos (by omega), if_pos (by omega), Int.toNat_natCast]
theorem idx_last {n : Nat} (h : 0 < n) (hn : n ≤ lim) : idx n (-1) = some (n - 1) := by
  unfold idx
  rw [if_pos hn, if_neg (by omega), if_pos (by omega)]
  congr 1; omega
theorem truth_str {w : List Nat} (h : w.length ≤ lim) : truthV (.str w) = some (!w.isEmpty) := by
  show (if w.length ≤ lim then some (!w.isEmpty) else none) = _
  rw [if_pos h]
theorem bLen_str {w : List Nat} (h : w.length ≤ lim) : bLen (.str w) = some (.int w.length) := if_pos h

noncomputable def ellTail : List Sl → Option (Fl × List Sl) :=
                (seqF
                  (iteF (cmp2 CmpOp.Gt (fun ρ => getH ρ 3) fun ρ => getH ρ 4) (retF [] fun x => some (MV.bool false))
                    doneF)
                  (seqF
                    (fun ρ =>
                      forF (valI fun ρ => getV ρ 2) (tName 5)
                        (seqF
                          (setF 3 (findF (fun ρ => getH ρ 1) (fun ρ => getV ρ 5) (fun ρ => getV ρ 3) fun ρ => getV ρ 4))
                          (seqF
                            (iteF (cmp2 CmpOp.Lt (fun ρ => getH ρ 3) fun x => some (MV.int 0))
                              (retF [] fun x => some (MV.bool false)) doneF)
                            (augF 3 Operator.Add (app1 bLen fun ρ => getH ρ 5))))
                        (frzP [false, false, true] ρ))
                    (retF [] fun x => some (MV.bool true))))
theorem ell_tail (want : MV) (got : List Nat) (hg : got.length ≤ lim) (l : List (List Nat)) (a : Nat) (b : Nat) (hb : b ≤ got.length) (c : Sl) :
    Res ellTail [.v want, .v (.str got), .m (l.map .str), .v (.int a), .v (.int b), c] (.bool (if b < a then false else egr got b a l)) := by
  by_cases h : b < a
  · rw [if_pos h]
    refine Res.stop (Res.ite (b := true) ?_ (Res.ret rfl))
    show some (decide ((b : Int) < (a : Int))) = _
    rw [decide_eq_true (by omega)]
  · rw [if_neg h]
    refine Res.next (ρ₁ := [.v want, .v (.str got), .m (l.map .str), .v (.int a), .v (.int b), c]) (iteF_f ?_ rfl) ?_
    · show some (decide ((b : Int) < (a : Int))) = _
      rw [decide_eq_false (by omega)]
    have L := ell_loop want (.v (.list (l.map .str))) got hg b hb l a c (by omega)
    split at L
    · next hh =>
      obtain ⟨ρ', e⟩ := L
      rw [hh]
      exact Res.next (ρ₁ := ρ') (forF_eq (ρ := [.v want, .v (.str got), .v (.list (l.map .str)), .v (.int a), .v (.int b), c]) rfl e) (Res.ret rfl)
    · next hh =>
      obtain ⟨ρ', e⟩ := L
      rw [show egr got b a l = false by simpa using hh]
      exact Res.stop ⟨ρ', forF_eq (ρ := [.v want, .v (.str got), .v (.list (l.map .str)), .v (.int a), .v (.int b), c]) rfl e⟩

noncomputable def ellEnd : List Sl → Option (Fl × List Sl) :=
            (seqF (setF 5 (bin2 itemOp (fun ρ => getH ρ 2) fun x => some (MV.int (-1))))
              (seqF
                (iteF (truthF fun ρ => getH ρ 5)
                  (iteF (truthF (bin2 mEnds (fun ρ => getH ρ 1) fun ρ => getH ρ 5))
                    (seqF (augF 4 Operator.Sub (app1 bLen fun ρ => getH ρ 5)) (delF 2 fun x => some (MV.int (-1))))
                    (retF [] fun x => some (MV.bool false)))
                  doneF) ellTail))
theorem dropLast_eraseL {α : Type} : ∀ (l : List α), l.eraseIdx (l.length - 1) = l.dropLast
  | [] => rfl
  | [x] => rfl
  | x :: y :: l => by
    show x :: (y :: l).eraseIdx ((y :: l).length - 1) = x :: (y :: l).dropLast
    rw [dropLast_eraseL (y :: l)]
theorem ell_end (want : MV) (got : List Nat) (hg : got.length ≤ lim) (l : List (List Nat)) (h0 : l ≠ []) (hl : l.length ≤ lim) (hw : ∀ w ∈ l, w.length ≤ lim) (a : Nat) (c : Sl) :
    Res ellEnd [.v want, .v (.str got), .m (l.map .str), .v (.int a), .v (.int got.length), c] (.bool (eEnd got a l)) := by
  have hp : 0 < l.length := List.length_pos_iff.2 h0
  have hlast : l.getLast? = some (l.getLast h0) := List.getLast?_eq_some_getLast h0
  generalize l.getLast h0 = w at hlast
  have hwm : w ∈ l := List.mem_of_getLast? hlast
  refine Res.next (ρ₁ := [.v want, .v (.str got), .m (l.map .str), .v (.int a), .v (.int got.length), .v (.str w)]) (setF_eq (bin2_eq rfl rfl (c := .str w) ?_)) ?_
  · show ((idx (l.map MV.str).length (-1)).bind fun k => (l.map MV.str)[k]?) = _
    rw [List.length_map, idx_last hp hl, Option.bind_some, List.getElem?_map]
    rw [List.getLast?_eq_getElem?] at hlast
    rw [hlast]; rfl
  unfold eEnd
  rw [hlast]
  show Res _ _ (.bool (if w = [] then (if got.length < a then false else egr got got.length a l)
    else if w.isSuffixOf got then (if got.length - w.length < a then false else egr got (got.length - w.length) a l.dropLast) else false))
  by_cases he : w = []
  · rw [if_pos he]
    subst he
    exact Res.next (iteF_f rfl rfl) (ell_tail want got hg l a got.length (Nat.le_refl _) _)
  · rw [if_neg he]
    have ht : (truthF fun ρ => getH ρ 5) [.v want, .v (.str got), .m (l.map .str), .v (.int a), .v (.int got.length), .v (.str w)] = some true := by
      refine truthF_eq rfl ?_
      rw [truth_str (hw w hwm)]
      cases w with
      | nil => exact absurd rfl he
      | cons => rfl
    by_cases hs : w.isSuffixOf got = true
    · rw [if_pos hs]
      have hle : w.length ≤ got.length := (List.isSuffixOf_iff_suffix.1 hs).length_le
      refine Res.next (ρ₁ := [.v want, .v (.str got), .m (l.dropLast.map .str), .v (.int a), .v (.int ((got.length - w.length : Nat) : Int)), .v (.str w)]) (iteF_t ht (iteF_t ?_ (seqF_next (augF_eq rfl (app1_eq rfl (bLen_str (hw w hwm))) rfl) ?_))) (ell_tail want got hg _ a _ (Nat.sub_le _ _) _)
      · refine truthF_eq (v := .bool true) (bin2_eq rfl rfl ?_) rfl
        show some (MV.bool (w.isSuffixOf got)) = _
        rw [hs]
      · show (match some (MV.int (-1)) with
          | some (.int k) => (idx (l.map MV.str).length k).map fun j => (Fl.next, [Sl.v want, Sl.v (.str got), Sl.m ((l.map MV.str).eraseIdx j), Sl.v (.int a), Sl.v (.int ((got.length : Int) - (w.length : Int))), Sl.v (.str w)])
          | _ => none) = _
        show ((idx (l.map MV.str).length (-1)).map fun j => (Fl.next, [Sl.v want, Sl.v (.str got), Sl.m ((l.map MV.str).eraseIdx j), Sl.v (.int a), Sl.v (.int ((got.length : Int) - (w.length : Int))), Sl.v (.str w)])) = _
        have e1 : ((got.length : Int) - (w.length : Int)) = ((got.length - w.length : Nat) : Int) := by omega
        have e2 : (l.map MV.str).eraseIdx (l.length - 1) = l.dropLast.map MV.str := by
          have := dropLast_eraseL (l.map MV.str)
          rw [List.length_map] at this
          rw [this, List.map_dropLast]
        rw [List.length_map, idx_last hp hl, Option.map_some, e1, e2]
    · rw [if_neg hs]
      refine Res.stop (Res.ite (b := true) ht (Res.ite (b := false) ?_ (Res.ret rfl)))
      refine truthF_eq (v := .bool false) (bin2_eq rfl rfl ?_) rfl
      show some (MV.bool (w.isSuffixOf got)) = _
      rw [show w.isSuffixOf got = false from Bool.eq_false_iff.2 hs]

theorem fn_ellipsis_is (want got : List Nat) (hg : got.length ≤ lim) (hw : want.length + 2 ≤ lim) : fn_ellipsis_match [.str want, .str got] = some (.bool (eMatch want got)) := by
  refine Res.run (g := ex_ellipsis_match.1) rfl ?_
  unfold eMatch
  by_cases hf : (findL dots want).isSome = true
  · rw [if_pos hf]
    have ht : cmp2 CmpOp.NotIn (fun x => some (MV.str val_ELLIPSIS_MARKER)) (fun ρ => getH ρ 0) [.v (.str want), .v (.str got), .un, .un, .un, .un] = some false := by
      show (Option.map _ (some (findL dots want).isSome)) = _
      rw [hf]; rfl
    have hll : (splitL dots want).length ≤ want.length + 2 := splitN_length dots _ want
    have h2 : 2 ≤ (splitL dots want).length := splitN_two dots (Nat.succ_ne_zero _) hf
    have hws := splitN_le dots (want.length + 1) want
    change ∀ w ∈ splitL dots want, w.length ≤ want.length at hws
    have hsp : split2 (fun ρ => getH ρ 0) (fun x => some (MV.str val_ELLIPSIS_MARKER)) [.v (.str want), .v (.str got), .un, .un, .un, .un] = some ((splitL dots want).map .str) := by
      show (if 1 ≤ dots.length ∧ dots.all (· < 256) ∧ want.length + 2 ≤ lim then some ((splitL dots want).map MV.str) else none) = _
      rw [if_pos ⟨by decide, by decide, hw⟩]
    generalize splitL dots want = l at hll h2 hws hsp
    refine Res.next (iteF_f ht rfl) (Res.next (setNF_eq hsp) ?_)
    have hlb : bLen (.list (l.map MV.str)) = some (.int l.length) := by
      show (if (l.map MV.str).length ≤ lim then some (MV.int (l.map MV.str).length) else none) = _
      rw [List.length_map, if_pos (by omega)]
    refine Res.next (ρ₁ := [.v (.str want), .v (.str got), .m (l.map .str), .un, .un, .un]) ?_ ?_
    · have : cmp2 CmpOp.GtE (app1 bLen fun ρ => getH ρ 2) (fun x => some (MV.int 2)) [.v (.str want), .v (.str got), .m (l.map .str), .un, .un, .un] = some true := by
        refine cmp2_eq (app1_eq rfl hlb) rfl ?_
        show some (decide ((2 : Int) ≤ (l.length : Int))) = _
        rw [decide_eq_true (by omega)]
      show assertF _ [.v (.str want), .v (.str got), .m (l.map .str), .un, .un, .un] = _
      unfold assertF
      rw [this]
    refine Res.next (ρ₁ := [.v (.str want), .v (.str got), .m (l.map .str), .v (.int 0), .v (.int got.length), .un]) ?_ ?_
    · have : tupF (consF (fun x => some (MV.int 0)) (consF (app1 bLen fun ρ => getH ρ 1) nilF)) [.v (.str want), .v (.str got), .m (l.map .str), .un, .un, .un] = some (.tuple [.int 0, .int got.length]) :=
        tupF_eq (consF_eq rfl (consF_eq (app1_eq rfl (bLen_str hg)) rfl)) (by show 2 ≤ 16777216; decide)
      unfold setRF
      rw [this]; rfl
    cases l with
    | nil => simp at h2
    | cons w r =>
      have hr : r ≠ [] := by intro e; subst e; simp at h2
      have hrl : r.length + 1 ≤ lim := by have := hll; simp at this; omega
      have hwr : ∀ u ∈ r, u.length ≤ lim := fun u hu => by have := hws u (List.mem_cons_of_mem _ hu); omega
      have hwl : w.length ≤ lim := by have := hws w (List.mem_cons_self ..); omega
      refine Res.next (ρ₁ := [.v (.str want), .v (.str got), .m ((w :: r).map .str), .v (.int 0), .v (.int got.length), .v (.str w)]) (setF_eq (bin2_eq rfl rfl (c := .str w) ?_)) ?_
      · show ((idx ((w :: r).map MV.str).length ((0 : Nat) : Int)).bind fun k => ((w :: r).map MV.str)[k]?) = _
        rw [idx_ok (by simp) (by rw [List.length_map]; exact hrl)]; rfl
      show Res _ _ (.bool (if w = [] then eEnd got 0 (w :: r) else if w.isPrefixOf got then eEnd got w.length r else false))
      by_cases he : w = []
      · rw [if_pos he]
        subst he
        exact Res.next (iteF_f rfl rfl) (ell_end (.str want) got hg ([] :: r) (by simp) hrl (fun u hu => by
          rcases List.mem_cons.1 hu with hu | hu
          · rw [hu]; exact Nat.zero_le _
          · exact hwr u hu) 0 _)
      · rw [if_neg he]
        have htr : (truthF fun ρ => getH ρ 5) [.v (.str want), .v (.str got), .m ((w :: r).map .str), .v (.int 0), .v (.int got.length), .v (.str w)] = some true := by
          refine truthF_eq rfl ?_
          rw [truth_str hwl]
          cases w with
          | nil => exact absurd rfl he
          | cons => rfl
        by_cases hs : w.isPrefixOf got = true
        · rw [if_pos hs]
          refine Res.next (ρ₁ := [.v (.str want), .v (.str got), .m (r.map .str), .v (.int w.length), .v (.int got.length), .v (.str w)]) (iteF_t htr (iteF_t ?_ (seqF_next (setF_eq (app1_eq rfl (bLen_str hwl))) ?_))) (ell_end (.str want) got hg r hr (by omega) hwr w.length _)
          · refine truthF_eq (v := .bool true) (bin2_eq rfl rfl ?_) rfl
            show some (MV.bool (w.isPrefixOf got)) = _
            rw [hs]
          · show ((idx ((w :: r).map MV.str).length ((0 : Nat) : Int)).map fun j => (Fl.next, [Sl.v (.str want), Sl.v (.str got), Sl.m (((w :: r).map MV.str).eraseIdx j), Sl.v (.int w.length), Sl.v (.int got.length), Sl.v (.str w)])) = _
            rw [idx_ok (by simp) (by rw [List.length_map]; exact hrl)]; rfl
        · rw [if_neg hs]
          refine Res.stop (Res.ite (b := true) htr (Res.ite (b := false) ?_ (Res.ret rfl)))
          refine truthF_eq (v := .bool false) (bin2_eq rfl rfl ?_) rfl
          show some (MV.bool (w.isPrefixOf got)) = _
          rw [show w.isPrefixOf got = false from Bool.eq_false_iff.2 hs]
  · rw [if_neg hf]
    refine Res.stop (Res.ite (b := true) ?_ (Res.ret rfl))
    show (Option.map _ (some (findL dots want).isSome)) = _
    rw [show (findL dots want).isSome = false by simpa using hf]; rfl
theorem findL_dots : ∀ (w r : List Nat), 46 ∉ w → findL dots (w ++ (dots ++ r)) = some w.length
  | [], r, _ => rfl
  | c :: w, r, h => by
    have hc : c ≠ 46 := fun e => h (by rw [e]; exact List.mem_cons_self ..)
    have hw : 46 ∉ w := fun e => h (List.mem_cons_of_mem _ e)
    show (if dots.isPrefixOf (c :: (w ++ (dots ++ r))) then some 0 else (findL dots (w ++ (dots ++ r))).map (· + 1)) = _
    have : dots.isPrefixOf (c :: (w ++ (dots ++ r))) = false := by
      show ((46 == c) && _) = false
      rw [show (46 == c) = false by simpa using fun e : 46 = c => hc e.symm]; rfl
    rw [this, findL_dots w r hw]; rfl
theorem findL_nodots : ∀ (w : List Nat), 46 ∉ w → findL dots w = none
  | [], _ => rfl
  | c :: w, h => by
    have hc : c ≠ 46 := fun e => h (by rw [e]; exact List.mem_cons_self ..)
    have hw : 46 ∉ w := fun e => h (List.mem_cons_of_mem _ e)
    show (if dots.isPrefixOf (c :: w) then some 0 else (findL dots w).map (· + 1)) = _
    have : dots.isPrefixOf (c :: w) = false := by
      show ((46 == c) && _) = false
      rw [show (46 == c) = false by simpa using fun e : 46 = c => hc e.symm]; rfl
    rw [this, findL_nodots w hw]; rfl
theorem split_join : ∀ (ws : List (List Nat)) (n : Nat), ws ≠ [] → ws.length ≤ n + 1 → (∀ w ∈ ws, 46 ∉ w) → splitN dots n (joinL dots ws) = ws
  | [], n, h, _, _ => absurd rfl h
  | [w], 0, _, _, _ => rfl
  | [w], n + 1, _, _, h => by
    rw [joinL, splitN, findL_nodots w (h w (List.mem_cons_self ..))]
  | w :: u :: ws, 0, _, hl, h => by simp at hl
  | w :: u :: ws, n + 1, _, hl, h => by
    have ih := split_join (u :: ws) n (by simp) (by simp at hl ⊢; omega) fun x hx => h x (List.mem_cons_of_mem _ hx)
    have e : joinL dots (w :: u :: ws) = w ++ (dots ++ joinL dots (u :: ws)) := by rw [joinL, List.append_assoc]
    rw [e, splitN, findL_dots w _ (h w (List.mem_cons_self ..))]
    show (w ++ (dots ++ joinL dots (u :: ws))).take w.length :: splitN dots n ((w ++ (dots ++ joinL dots (u :: ws))).drop (w.length + dots.length)) = _
    rw [List.take_left, ← List.drop_drop, List.drop_left, List.drop_left, ih]
theorem find_join (w u : List Nat) (ws : List (List Nat)) (h : 46 ∉ w) : (findL dots (joinL dots (w :: u :: ws))).isSome = true := by
  have e : joinL dots (w :: u :: ws) = w ++ (dots ++ joinL dots (u :: ws)) := by rw [joinL, List.append_assoc]
  rw [e, findL_dots w _ h]; rfl
theorem join_len : ∀ (ws : List (List Nat)), ws.length ≤ (joinL dots ws).length + 1
  | [] => Nat.zero_le _
  | [w] => by simp
  | w :: u :: ws => by
    have := join_len (u :: ws)
    rw [joinL]
    simp [dots] at this ⊢; omega
noncomputable def pMatch (ws : List (List Nat)) (got : List Nat) : Bool :=
  match ws with
  | [] => false
  | w :: r => if w = [] then eEnd got 0 (w :: r) else if w.isPrefixOf got then eEnd got w.length r else false
theorem eMatch_join (w u : List Nat) (ws : List (List Nat)) (got : List Nat) (h : ∀ x ∈ w :: u :: ws, 46 ∉ x) : eMatch (joinL dots (w :: u :: ws)) got = pMatch (w :: u :: ws) got := by
  unfold eMatch
  rw [if_pos (find_join w u ws (h w (List.mem_cons_self ..)))]
  have : splitL dots (joinL dots (w :: u :: ws)) = w :: u :: ws := split_join _ _ (by simp) (by have := join_len (w :: u :: ws); omega) h
  rw [this]; rfl
theorem hexD_snoc (f n d : Nat) (hd : d < 16) (h : n * 16 + d ≠ 0) : hexD (f + 1) (n * 16 + d) = hexD f n ++ [d] := by
  rw [hexD, if_neg h]
  have h1 : (n * 16 + d) / 16 = n := by omega
  have h2 : (n * 16 + d) % 16 = d := by omega
  rw [h1, h2]
theorem hexD_zero (f : Nat) : hexD f 0 = [] := by cases f <;> rfl
theorem hexD_fold : ∀ (l : List Nat) (f n : Nat), (∀ d ∈ l, d < 16) → n ≠ 0 → hexD (f + l.length) (l.foldl (fun n d => n * 16 + d) n) = hexD f n ++ l
  | [], f, n, _, _ => by simp
  | d :: l, f, n, h, hn => by
    have ih := hexD_fold l (f + 1) (n * 16 + d) (fun x hx => h x (List.mem_cons_of_mem _ hx)) (by omega)
    rw [List.foldl_cons, List.length_cons, show f + (l.length + 1) = f + 1 + l.length by omega, ih, hexD_snoc f n d (h d (List.mem_cons_self ..)) (by omega), List.append_assoc]
    rfl
theorem hexD_one (f d : Nat) (hd : d < 16) (h : d ≠ 0) : hexD (f + 1) d = [d] := by
  have := hexD_snoc f 0 d hd (by omega)
  rwa [Nat.zero_mul, Nat.zero_add, hexD_zero] at this
theorem hexD_lead (f a : Nat) (l : List Nat) (ha : a < 16) (h0 : a ≠ 0) (h : ∀ d ∈ l, d < 16) : hexD (f + 1 + l.length) (l.foldl (fun n d => n * 16 + d) a) = a :: l := by
  rw [hexD_fold l (f + 1) a h h0, hexD_one f a ha h0]; rfl
theorem comp_filter {f : List Sl → Option MV} {u : List Sl → Option Bool} {h : MV → MV} {p : MV → Bool} {r : List Sl} : ∀ (xs : List MV) (acc : List MV) (s₀ : Sl), (∀ x ∈ xs, u (.v x :: r) = some (p x) ∧ (p x = true → f (.v x :: r) = some (h x))) → acc.length + xs.length ≤ lim →
    ∃ s, compL (tName 0) u (emitB f) xs (s₀ :: r) acc = some (s :: r, acc ++ (xs.filter p).map h)
  | [], acc, s₀, _, _ => ⟨s₀, by rw [List.filter_nil, List.map_nil, List.append_nil]; rfl⟩
  | x :: xs, acc, s₀, hx, hl => by
    obtain ⟨h1, h2⟩ := hx x (List.mem_cons_self ..)
    have ht : tName 0 x (s₀ :: r) = some (.v x :: r) := rfl
    have hl' : acc.length + xs.length + 1 ≤ lim := by rw [List.length_cons] at hl; omega
    rw [compL, ht]
    simp only [h1]
    cases hp : p x with
    | false =>
      obtain ⟨s, e⟩ := comp_filter xs acc (.v x) (fun y hy => hx y (List.mem_cons_of_mem _ hy)) (by omega)
      refine ⟨s, ?_⟩
      simp only [List.filter_cons, hp]
      exact e
    | true =>
      obtain ⟨s, e⟩ := comp_filter xs (acc ++ [h x]) (.v x) (fun y hy => hx y (List.mem_cons_of_mem _ hy)) (by simp; omega)
      refine ⟨s, ?_⟩
      have : emitB f (.v x :: r) acc = some (.v x :: r, acc ++ [h x]) := by
        unfold emitB
        rw [h2 hp, Option.bind_some, if_pos (by omega)]
      simp only [this]
      rw [e, List.filter_cons, if_pos hp, List.map_cons, List.append_assoc]; rfl
theorem compN_filter {vars : List Str} {caps : List (Nat × Str)} {g : List Sl → Option (List MV)} {f : List Sl → Option MV} {u : List Sl → Option Bool} {ρ r : List Sl} {s₀ : Sl} {xs : List MV} (h : MV → MV) (p : MV → Bool)
    (h1 : g ρ = some xs) (hc : capR vars caps ρ = s₀ :: r) (hx : ∀ x ∈ xs, u (.v x :: r) = some (p x) ∧ (p x = true → f (.v x :: r) = some (h x))) (hl : xs.length ≤ lim) :
    compN vars caps g (tName 0) u (emitB f) ρ = some ((xs.filter p).map h) := by
  obtain ⟨s, e⟩ := comp_filter xs [] s₀ hx (by simpa using hl)
  rw [← hc] at e
  exact compN_eq h1 e
theorem compN_map {vars : List Str} {caps : List (Nat × Str)} {g : List Sl → Option (List MV)} {f : List Sl → Option MV} {ρ r : List Sl} {s₀ : Sl} {xs : List MV} (h : MV → MV)
    (h1 : g ρ = some xs) (hc : capR vars caps ρ = s₀ :: r) (hx : ∀ x ∈ xs, f (.v x :: r) = some (h x)) (hl : xs.length ≤ lim) :
    compN vars caps g (tName 0) noIf (emitB f) ρ = some (xs.map h) := by
  have := compN_filter (u := noIf) h (fun u0 => true) h1 hc (fun x hx' => ⟨rfl, fun u0 => hx x hx'⟩) hl
  rwa [List.filter_eq_self.2 (fun u0 u1 => rfl)] at this
noncomputable def turnBody : List Sl → Option (Fl × List Sl) :=
(seqF
                            (setF 9
                              (bin2 (binOp Operator.Mod) (bin2 itemOp (fun ρ => getH ρ 0) fun ρ => getV ρ 7)
                                (bin2 (binOp Operator.Sub) (fun x => some (MV.int 4)) fun ρ => getH ρ 7)))
                            (seqF
                              (setF 3
                                (bin2 (binOp Operator.Add)
                                  (bin2 (binOp Operator.Add)
                                    (sliceF (fun ρ => getH ρ 3) (fun x => some none) (partF fun ρ => getV ρ 9))
                                    (ofN
                                      (listN
                                        (consF
                                          (bin2 (binOp Operator.Add)
                                            (bin2 (binOp Operator.Add)
                                              (bin2 (binOp Operator.Add)
                                                (ofN (listN (consF (fun x => some (MV.str [40])) nilF)))
                                                (bin2 itemOp (fun ρ => getH ρ 3) fun ρ => getV ρ 9))
                                              (bin2 itemOp (fun ρ => getH ρ 3)
                                                (bin2 (binOp Operator.Add) (fun ρ => getH ρ 9) fun x =>
                                                  some (MV.int 1))))
                                            (ofN (listN (consF (fun x => some (MV.str [41])) nilF))))
                                          nilF))))
                                  (sliceF (fun ρ => getH ρ 3)
                                    (partF (bin2 (binOp Operator.Add) (fun ρ => getH ρ 9) fun x => some (MV.int 2)))
                                    fun x => some none)))
                              (seqF
                                (setF 4
                                  (bin2 (binOp Operator.Add)
                                    (bin2 (binOp Operator.Add)
                                      (sliceF (fun ρ => getH ρ 4) (fun x => some none) (partF fun ρ => getV ρ 9))
                                      (ofN
                                        (listN
                                          (consF
                                            (bin2 (binOp Operator.Add)
                                              (bin2 (binOp Operator.Add)
                                                (bin2 (binOp Operator.Add)
                                                  (bin2 (binOp Operator.Add) (fun ρ => getH ρ 8)
                                                    (bin2 itemOp (fun ρ => getH ρ 4) fun ρ => getV ρ 9))
                                                  fun ρ => getH ρ 8)
                                                (bin2 itemOp (fun ρ => getH ρ 4)
                                                  (bin2 (binOp Operator.Add) (fun ρ => getH ρ 9) fun x =>
                                                    some (MV.int 1))))
                                              fun ρ => getH ρ 8)
                                            nilF))))
                                    (sliceF (fun ρ => getH ρ 4)
                                      (partF (bin2 (binOp Operator.Add) (fun ρ => getH ρ 9) fun x => some (MV.int 2)))
                                      fun x => some none)))
                                (seqF
                                  (augF 6 Operator.Add
                                    (app1 bSum
                                      (ofN
                                        (compN [Str.ofString "end"] []
                                          (valI
                                            (sliceF (fun ρ => getH ρ 5) (partF fun ρ => getV ρ 9)
                                              (partF
                                                (bin2 (binOp Operator.Add) (fun ρ => getH ρ 9) fun x =>
                                                  some (MV.int 3)))))
                                          (tName 0) noIf
                                          (emitB
                                            (bin2 (binOp Operator.Pow) (fun x => some (MV.int 16))
                                              (bin2 (binOp Operator.Sub) (fun x => some (MV.int 5)) fun ρ =>
                                                getH ρ 0)))))))
                                  (setF 5
                                    (bin2 (binOp Operator.Add)
                                      (sliceF (fun ρ => getH ρ 5) (fun x => some none)
                                        (partF
                                          (bin2 (binOp Operator.Add) (fun ρ => getH ρ 9) fun x => some (MV.int 1))))
                                      (sliceF (fun ρ => getH ρ 5)
                                        (partF (bin2 (binOp Operator.Add) (fun ρ => getH ρ 9) fun x => some (MV.int 2)))
                                        fun x => some none)))))))
noncomputable def natV (n : Nat) : MV := .int (n : Int)
theorem cut_natG {α : Type} (A : List α) (a b : Nat) : cut A (some (a : Int)) (some (b : Int)) = (A.drop a).take (b - a) := by
  show (A.drop (clipAt A.length (a : Int))).take (clipAt A.length (b : Int) - clipAt A.length (a : Int)) = _
  rw [clip_nat, clip_nat]
  by_cases h : a ≤ A.length
  · rw [Nat.min_eq_left h]
    by_cases h2 : b ≤ A.length
    · rw [Nat.min_eq_left h2]
    · rw [Nat.min_eq_right (by omega), List.take_of_length_le (by rw [List.length_drop]; omega), List.take_of_length_le (by rw [List.length_drop]; omega)]
  · rw [show min a A.length = A.length from Nat.min_eq_right (by omega), List.drop_eq_nil_of_le (Nat.le_refl A.length), List.drop_eq_nil_of_le (show A.length ≤ a by omega)]
    simp
theorem cut_tailG {α : Type} (A : List α) (a : Nat) : cut A (some (a : Int)) none = A.drop a := by
  show (A.drop (clipAt A.length (a : Int))).take (A.length - clipAt A.length (a : Int)) = _
  rw [clip_nat]
  by_cases h : a ≤ A.length
  · rw [Nat.min_eq_left h, List.take_of_length_le (by rw [List.length_drop]; omega)]
  · rw [show min a A.length = A.length from Nat.min_eq_right (by omega), List.drop_eq_nil_of_le (Nat.le_refl A.length), List.drop_eq_nil_of_le (show A.length ≤ a by omega)]
    simp
theorem cut_headG {α : Type} (A : List α) (b : Nat) : cut A none (some (b : Int)) = A.take b := by
  have := cut_natG A 0 b
  rwa [List.drop_zero, Nat.sub_zero] at this
theorem item_at {f h : List Sl → Option MV} {ρ : List Sl} {xs : List MV} {i : Nat} {x : MV} (h1 : f ρ = some (.list xs)) (h2 : h ρ = some (natV i)) (hl : xs.length ≤ 1000) (hx : xs[i]? = some x) : bin2 itemOp f h ρ = some x := by
  have hlim : (21000 : Nat) < lim := by decide
  refine bin2_eq h1 h2 ?_
  show ((idx xs.length (i : Int)).bind fun k => xs[k]?) = _
  rw [idx_ok (List.getElem?_eq_some_iff.1 hx).1 (by omega), Option.bind_some, hx]
theorem add_list {f h : List Sl → Option MV} {ρ : List Sl} {a b : List MV} (h1 : f ρ = some (.list a)) (h2 : h ρ = some (.list b)) (ha : a.length ≤ 2000) (hb : b.length ≤ 2000) : bin2 (binOp Operator.Add) f h ρ = some (.list (a ++ b)) := by
  have hlim : (21000 : Nat) < lim := by decide
  refine bin2_eq h1 h2 ?_
  show (if a.length + b.length ≤ lim then some (MV.list (a ++ b)) else none) = _
  rw [if_pos (by omega)]
theorem add_str {f h : List Sl → Option MV} {ρ : List Sl} {a b : List Nat} (h1 : f ρ = some (.str a)) (h2 : h ρ = some (.str b)) (ha : a.length ≤ 2000) (hb : b.length ≤ 2000) : bin2 (binOp Operator.Add) f h ρ = some (.str (a ++ b)) := by
  have hlim : (21000 : Nat) < lim := by decide
  refine bin2_eq h1 h2 ?_
  show (if a.length + b.length ≤ lim then some (MV.str (a ++ b)) else none) = _
  rw [if_pos (by omega)]
theorem add_nat {f h : List Sl → Option MV} {ρ : List Sl} {a b : Nat} (h1 : f ρ = some (natV a)) (h2 : h ρ = some (natV b)) : bin2 (binOp Operator.Add) f h ρ = some (natV (a + b)) := bin2_eq h1 h2 rfl
theorem slice_list {f : List Sl → Option MV} {p q : List Sl → Option (Option Int)} {ρ : List Sl} {xs : List MV} {lo hi : Option Int} (h1 : f ρ = some (.list xs)) (h2 : p ρ = some lo) (h3 : q ρ = some hi) (hl : xs.length ≤ 1000) : sliceF f p q ρ = some (.list (cut xs lo hi)) := by
  have hlim : (21000 : Nat) < lim := by decide
  refine sliceF_eq h1 h2 h3 ?_
  show (if xs.length ≤ lim then some (MV.list (cut xs lo hi)) else none) = _
  rw [if_pos (by omega)]
theorem len2 {α : Type} {a b : List α} (m n : Nat) {k : Nat} (ha : a.length ≤ m) (hb : b.length ≤ n) (h : Nat.ble (m + n) k = true) : (a ++ b).length ≤ k := by
  rw [List.length_append]
  exact Nat.le_trans (Nat.add_le_add ha hb) (Nat.le_of_ble_eq_true h)
theorem up_le {a m n : Nat} (h : a ≤ m) (h2 : Nat.ble m n = true) : a ≤ n := Nat.le_trans h (Nat.le_of_ble_eq_true h2)
structure PS where
  rows : List (List (List Nat))
  lines : List (List Nat)
  ends : List Nat
  num : Nat
noncomputable def rowV (r : List (List Nat)) : MV := .list (r.map .str)
noncomputable def powS (es : List Nat) : Nat := (es.map fun e => 16 ^ (5 - e)).sum
noncomputable def stepP (nm k : Nat) (P : PS) : PS :=
  ⟨P.rows.take k ++ [[[40]] ++ P.rows.getD k [] ++ P.rows.getD (k + 1) [] ++ [[41]]] ++ P.rows.drop (k + 2), P.lines.take k ++ [[nm] ++ P.lines.getD k [] ++ [nm] ++ P.lines.getD (k + 1) [] ++ [nm]] ++ P.lines.drop (k + 2),
    P.ends.take (k + 1) ++ P.ends.drop (k + 2), P.num + powS ((P.ends.drop k).take (k + 3 - k))⟩
structure POk (P : PS) (n m : Nat) : Prop where
  r : P.rows.length = n
  l : P.lines.length = n
  e : P.ends.length = n + 1
  e5 : ∀ x ∈ P.ends, x ≤ 5
  rl : ∀ x ∈ P.rows, x.length ≤ m
  ll : ∀ x ∈ P.lines, x.length ≤ m
theorem sum_pow : ∀ es : List Nat, (es.map fun e : Nat => ((16 ^ (5 - e) : Nat) : Int)).sum = (powS es : Int)
  | [] => rfl
  | e :: es => by
    rw [List.map_cons, List.sum_cons, sum_pow es]
    show _ = (((16 ^ (5 - e) + powS es : Nat)) : Int)
    omega
theorem intsOf_nat (g : Nat → Nat) : ∀ c : List Nat, intsOf (c.map fun x => natV (g x)) = some (c.map fun x => ((g x : Nat) : Int))
  | [] => rfl
  | x :: c => by
    rw [List.map_cons]
    show (intsOf (c.map fun x => natV (g x))).map (((g x : Nat) : Int) :: ·) = _
    rw [intsOf_nat g c]; rfl
theorem turn_is (c : List Nat) (hc : c.length = 4) (t nm : Nat) (ht : t < 4) (P : PS) (m : Nat) (hm : m ≤ 300) (hP : POk P (5 - t) m) (z1 z2 z9 : Sl) :
    turnBody [.v (.list (c.map natV)), z1, z2, .v (.list (P.rows.map rowV)), .v (.list (P.lines.map .str)), .v (.list (P.ends.map natV)), .v (natV P.num), .v (natV t), .v (.str [nm]), z9] =
      some (.next, [.v (.list (c.map natV)), z1, z2, .v (.list ((stepP nm (c.getD t 0 % (4 - t)) P).rows.map rowV)), .v (.list ((stepP nm (c.getD t 0 % (4 - t)) P).lines.map .str)), .v (.list ((stepP nm (c.getD t 0 % (4 - t)) P).ends.map natV)),
        .v (natV (stepP nm (c.getD t 0 % (4 - t)) P).num), .v (natV t), .v (.str [nm]), .v (natV (c.getD t 0 % (4 - t)))]) := by
  have hlim : (21000 : Nat) < lim := by decide
  have hct : (c.map natV)[t]? = some (natV (c.getD t 0)) := by
    have : t < c.length := by omega
    rw [List.getElem?_map, List.getD_eq_getElem?_getD, List.getElem?_eq_getElem this]; rfl
  have hk : c.getD t 0 % (4 - t) < 4 - t := Nat.mod_lt _ (by omega)
  have hmod : bin2 (binOp Operator.Mod) (bin2 itemOp (fun ρ => getH ρ 0) fun ρ => getV ρ 7) (bin2 (binOp Operator.Sub) (fun x => some (MV.int 4)) fun ρ => getH ρ 7)
      [Sl.v (.list (c.map natV)), z1, z2, .v (.list (P.rows.map rowV)), .v (.list (P.lines.map .str)), .v (.list (P.ends.map natV)), .v (natV P.num), .v (natV t), .v (.str [nm]), z9] = some (natV (c.getD t 0 % (4 - t))) := by
    refine bin2_eq (a := natV (c.getD t 0)) (b := natV (4 - t)) (item_at (xs := c.map natV) (i := t) rfl rfl (by rw [List.length_map]; omega) hct) (bin2_eq (a := .int 4) (b := natV t) rfl rfl ?_) ?_
    · show some (MV.int (4 - (t : Int))) = some (MV.int ((4 - t : Nat) : Int))
      refine congrArg (fun x => some (MV.int x)) ?_
      omega
    · show (if ((4 - t : Nat) : Int) = 0 then none else some (MV.int ((c.getD t 0 : Int).fmod ((4 - t : Nat) : Int)))) = _
      rw [if_neg (by omega), Int.fmod_eq_emod_of_nonneg _ (by omega)]; rfl
  generalize c.getD t 0 % (4 - t) = k at *
  have hr1 : k + 1 < P.rows.length := by rw [hP.r]; omega
  have hl1 : k + 1 < P.lines.length := by rw [hP.l]; omega
  have gr : ∀ i, i < P.rows.length → (P.rows.map rowV)[i]? = some (rowV (P.rows.getD i [])) := fun i hi => by
    rw [List.getElem?_map, List.getD_eq_getElem?_getD, List.getElem?_eq_getElem hi]; rfl
  have gl : ∀ i, i < P.lines.length → (P.lines.map MV.str)[i]? = some (.str (P.lines.getD i [])) := fun i hi => by
    rw [List.getElem?_map, List.getD_eq_getElem?_getD, List.getElem?_eq_getElem hi]; rfl
  have br : ∀ i, (P.rows.getD i []).length ≤ 300 := fun i => by
    rw [List.getD_eq_getElem?_getD]
    cases h : P.rows[i]? with
    | none => exact Nat.zero_le _
    | some x => exact Nat.le_trans (hP.rl x (List.mem_of_getElem? h)) hm
  have bl : ∀ i, (P.lines.getD i []).length ≤ 300 := fun i => by
    rw [List.getD_eq_getElem?_getD]
    cases h : P.lines[i]? with
    | none => exact Nat.zero_le _
    | some x => exact Nat.le_trans (hP.ll x (List.mem_of_getElem? h)) hm
  have hR : (P.rows.map rowV).length ≤ 5 := by rw [List.length_map, hP.r]; omega
  have hLn : (P.lines.map MV.str).length ≤ 5 := by rw [List.length_map, hP.l]; omega
  have hE : (P.ends.map natV).length ≤ 6 := by rw [List.length_map, hP.e]; omega
  have tk : ∀ (xs : List MV) (n m : Nat), xs.length ≤ m → (xs.take n).length ≤ m ∧ (xs.drop n).length ≤ m := fun xs n m h => ⟨Nat.le_trans (List.length_take_le' ..) h, by rw [List.length_drop]; exact Nat.le_trans (Nat.sub_le ..) h⟩
  refine seqF_next (setF_eq hmod) ?_
  refine seqF_next (ρ₁ := [.v (.list (c.map natV)), z1, z2, .v (.list ((stepP nm k P).rows.map rowV)), .v (.list (P.lines.map .str)), .v (.list (P.ends.map natV)), .v (natV P.num), .v (natV t), .v (.str [nm]), .v (natV k)]) (setF_eq (v := .list ((stepP nm k P).rows.map rowV)) ?_) ?_
  · have e : (stepP nm k P).rows.map rowV = (P.rows.map rowV).take k ++ [rowV ([[40]] ++ P.rows.getD k [] ++ P.rows.getD (k + 1) [] ++ [[41]])] ++ (P.rows.map rowV).drop (k + 2) := by
      unfold stepP
      rw [List.map_append, List.map_append, List.map_take, List.map_drop]; rfl
    rw [e]
    refine add_list (add_list ((slice_list (xs := P.rows.map rowV) (lo := none) (hi := some (k : Int)) rfl rfl (partF_eq (i := (k : Int)) rfl) (up_le hR rfl)).trans (by rw [cut_headG])) (b := [rowV ([[40]] ++ P.rows.getD k [] ++ P.rows.getD (k + 1) [] ++ [[41]])]) (ofN_eq (listN_eq (consF_eq ?_ rfl) (by show 1 ≤ lim; omega))) (up_le (tk _ k 5 hR).1 rfl) (Nat.le_of_ble_eq_true rfl))
      ((slice_list (xs := P.rows.map rowV) (lo := some ((k + 2 : Nat) : Int)) (hi := none) rfl (partF_eq (add_nat (a := k) (b := 2) rfl rfl)) rfl (up_le hR rfl)).trans (by rw [cut_tailG])) (len2 5 1 (tk _ k 5 hR).1 (Nat.le_refl 1) rfl) (up_le (tk _ (k + 2) 5 hR).2 rfl)
    have m1 : (rowV ([[40]] ++ P.rows.getD k [] ++ P.rows.getD (k + 1) [] ++ [[41]])) = .list (((([[40]] : List (List Nat)).map MV.str ++ (P.rows.getD k []).map MV.str) ++ (P.rows.getD (k + 1) []).map MV.str) ++ ([[41]] : List (List Nat)).map MV.str) := by
      unfold rowV
      rw [List.map_append, List.map_append, List.map_append]
    rw [m1]
    have b1 : ((P.rows.getD k []).map MV.str).length ≤ 300 := by rw [List.length_map]; exact br k
    have b2 : ((P.rows.getD (k + 1) []).map MV.str).length ≤ 300 := by rw [List.length_map]; exact br (k + 1)
    exact add_list (add_list (add_list rfl (item_at (xs := P.rows.map rowV) (i := k) rfl rfl (up_le hR rfl) (gr k (by omega))) (by decide) (up_le b1 rfl)) (item_at (xs := P.rows.map rowV) (i := k + 1) rfl (add_nat (a := k) (b := 1) rfl rfl) (up_le hR rfl) (gr (k + 1) hr1)) (len2 1 300 (Nat.le_refl 1) b1 rfl) (up_le b2 rfl)) rfl
      (len2 301 300 (len2 1 300 (Nat.le_refl 1) b1 rfl) b2 rfl) (by decide)
  refine seqF_next (ρ₁ := [.v (.list (c.map natV)), z1, z2, .v (.list ((stepP nm k P).rows.map rowV)), .v (.list ((stepP nm k P).lines.map .str)), .v (.list (P.ends.map natV)), .v (natV P.num), .v (natV t), .v (.str [nm]), .v (natV k)]) (setF_eq (v := .list ((stepP nm k P).lines.map .str)) ?_) ?_
  · have e : (stepP nm k P).lines.map MV.str = (P.lines.map MV.str).take k ++ [.str ([nm] ++ P.lines.getD k [] ++ [nm] ++ P.lines.getD (k + 1) [] ++ [nm])] ++ (P.lines.map MV.str).drop (k + 2) := by
      unfold stepP
      rw [List.map_append, List.map_append, List.map_take, List.map_drop]; rfl
    rw [e]
    refine add_list (add_list ((slice_list (xs := P.lines.map MV.str) (lo := none) (hi := some (k : Int)) rfl rfl (partF_eq (i := (k : Int)) rfl) (up_le hLn rfl)).trans (by rw [cut_headG])) (b := [.str ([nm] ++ P.lines.getD k [] ++ [nm] ++ P.lines.getD (k + 1) [] ++ [nm])]) (ofN_eq (listN_eq (consF_eq ?_ rfl) (by show 1 ≤ lim; omega))) (up_le (tk _ k 5 hLn).1 rfl) (Nat.le_of_ble_eq_true rfl))
      ((slice_list (xs := P.lines.map MV.str) (lo := some ((k + 2 : Nat) : Int)) (hi := none) rfl (partF_eq (add_nat (a := k) (b := 2) rfl rfl)) rfl (up_le hLn rfl)).trans (by rw [cut_tailG])) (len2 5 1 (tk _ k 5 hLn).1 (Nat.le_refl 1) rfl) (up_le (tk _ (k + 2) 5 hLn).2 rfl)
    have b1 := bl k
    have b2 := bl (k + 1)
    exact add_str (add_str (add_str (add_str (a := [nm]) rfl (item_at (xs := P.lines.map MV.str) (i := k) rfl rfl (up_le hLn rfl) (gl k (by omega))) (Nat.le_of_ble_eq_true rfl) (up_le b1 rfl)) (b := [nm]) rfl (len2 1 300 (Nat.le_refl 1) b1 rfl) (Nat.le_of_ble_eq_true rfl)) (item_at (xs := P.lines.map MV.str) (i := k + 1) rfl (add_nat (a := k) (b := 1) rfl rfl) (up_le hLn rfl) (gl (k + 1) hl1))
      (len2 301 1 (len2 1 300 (Nat.le_refl 1) b1 rfl) (Nat.le_refl 1) rfl) (up_le b2 rfl)) (b := [nm]) rfl (len2 302 300 (len2 301 1 (len2 1 300 (Nat.le_refl 1) b1 rfl) (Nat.le_refl 1) rfl) b2 rfl) (Nat.le_of_ble_eq_true rfl)
  refine seqF_next (ρ₁ := [.v (.list (c.map natV)), z1, z2, .v (.list ((stepP nm k P).rows.map rowV)), .v (.list ((stepP nm k P).lines.map .str)), .v (.list (P.ends.map natV)), .v (natV (stepP nm k P).num), .v (natV t), .v (.str [nm]), .v (natV k)]) (augF_eq (a := natV P.num) (b := natV (powS ((P.ends.drop k).take (k + 3 - k)))) rfl (app1_eq (a := .list (((P.ends.drop k).take (k + 3 - k)).map fun x => natV (16 ^ (5 - x)))) (ofN_eq ?_) ?_) rfl) ?_
  · refine (compN_map (xs := ((P.ends.drop k).take (k + 3 - k)).map natV) (h := fun x => match x with | .int i => natV (16 ^ (5 - i.toNat)) | y => y) (valI_eq (a := .list (((P.ends.drop k).take (k + 3 - k)).map natV)) ((slice_list (xs := P.ends.map natV) (lo := some (k : Int)) (hi := some ((k + 3 : Nat) : Int)) rfl (partF_eq (i := (k : Int)) rfl) (partF_eq (add_nat (a := k) (b := 3) rfl rfl)) (up_le hE rfl)).trans (by rw [cut_natG, ← List.map_drop, ← List.map_take])) rfl) rfl (fun x hx => ?_) ?_).trans ?_
    · obtain ⟨y, hy, rfl⟩ := List.mem_map.1 hx
      have hy5 := hP.e5 y (List.mem_of_mem_drop (List.mem_of_mem_take hy))
      refine bin2_eq (a := .int 16) (b := natV (5 - y)) rfl (bin2_eq (a := .int 5) (b := natV y) rfl rfl ?_) ?_
      · show some (MV.int (5 - (y : Int))) = some (MV.int ((5 - y : Nat) : Int))
        refine congrArg (fun x => some (MV.int x)) ?_
        omega
      · show (if small 16 = true ∧ 0 ≤ ((5 - y : Nat) : Int) ∧ ((5 - y : Nat) : Int) ≤ 1000 then some (MV.int (16 ^ ((5 - y : Nat) : Int).toNat)) else none) = some (MV.int ((16 ^ (5 - (y : Int).toNat) : Nat) : Int))
        rw [if_pos ⟨by decide, by omega, by omega⟩, Int.toNat_natCast, Int.toNat_natCast, Int.natCast_pow]; rfl
    · have := (tk (P.ends.map natV) k 6 hE).2
      rw [List.length_map, List.length_take]
      have h2 : (k + 3 - k) ≤ 3 := by omega
      omega
    · rw [List.map_map]
      refine congrArg some (List.map_congr_left fun y u0 => ?_)
      show natV (16 ^ (5 - (y : Int).toNat)) = _
      rw [Int.toNat_natCast]
  · show (intsOf (((P.ends.drop k).take (k + 3 - k)).map fun x => natV (16 ^ (5 - x)))).map (fun ns => MV.int ns.sum) = _
    rw [intsOf_nat (fun x => 16 ^ (5 - x)), Option.map_some, sum_pow]; rfl
  refine (setF_eq (v := .list ((stepP nm k P).ends.map natV)) ?_).trans rfl
  have e : (stepP nm k P).ends.map natV = (P.ends.map natV).take (k + 1) ++ (P.ends.map natV).drop (k + 2) := by
    unfold stepP
    rw [List.map_append, List.map_take, List.map_drop]
  rw [e]
  exact add_list ((slice_list (xs := P.ends.map natV) (lo := none) (hi := some ((k + 1 : Nat) : Int)) rfl rfl (partF_eq (add_nat (a := k) (b := 1) rfl rfl)) (up_le hE rfl)).trans (by rw [cut_headG]))
    ((slice_list (xs := P.ends.map natV) (lo := some ((k + 2 : Nat) : Int)) (hi := none) rfl (partF_eq (add_nat (a := k) (b := 2) rfl rfl)) rfl (up_le hE rfl)).trans (by rw [cut_tailG])) (up_le (tk _ (k + 1) 6 hE).1 rfl) (up_le (tk _ (k + 2) 6 hE).2 rfl)
theorem getD_le {xs : List (List α)} {m : Nat} (h : ∀ x ∈ xs, x.length ≤ m) (i : Nat) : (xs.getD i []).length ≤ m := by
  rw [List.getD_eq_getElem?_getD]
  cases e : xs[i]? with
  | none => exact Nat.zero_le _
  | some x => exact h x (List.mem_of_getElem? e)
theorem joined_len {α : Type} {xs : List α} {n k : Nat} (hl : xs.length = n) (hk : k + 1 < n) (y : α) : (xs.take k ++ [y] ++ xs.drop (k + 2)).length = n - 1 := by
  rw [List.length_append, List.length_append, List.length_take, List.length_drop, hl, Nat.min_eq_left (by omega)]
  show k + 1 + (n - (k + 2)) = n - 1
  omega
theorem joined_mem {xs : List (List α)} {m : Nat} (h : ∀ x ∈ xs, x.length ≤ m) {k : Nat} {y : List α} (hy : y.length ≤ 2 * m + 3) : ∀ x ∈ xs.take k ++ [y] ++ xs.drop (k + 2), x.length ≤ 2 * m + 3 := fun x hx => by
  rcases List.mem_append.1 hx with hx | hx
  · rcases List.mem_append.1 hx with hx | hx
    · have := h x (List.mem_of_mem_take hx); omega
    · rw [List.mem_singleton.1 hx]; exact hy
  · have := h x (List.mem_of_mem_drop hx); omega
theorem POk.step {P : PS} {n m : Nat} (hP : POk P n m) (nm k : Nat) (hk : k + 1 < n) : POk (stepP nm k P) (n - 1) (2 * m + 3) where
  r := joined_len hP.r hk _
  l := joined_len hP.l hk _
  e := by
    show (P.ends.take (k + 1) ++ P.ends.drop (k + 2)).length = _
    rw [List.length_append, List.length_take, List.length_drop, hP.e, Nat.min_eq_left (by omega)]
    omega
  e5 := fun x hx => by
    rcases List.mem_append.1 hx with hx | hx
    · exact hP.e5 x (List.mem_of_mem_take hx)
    · exact hP.e5 x (List.mem_of_mem_drop hx)
  rl := joined_mem hP.rl (by
    have h1 := getD_le hP.rl k
    have h2 := getD_le hP.rl (k + 1)
    rw [List.length_append, List.length_append, List.length_append]
    show 1 + _ + _ + 1 ≤ _
    omega)
  ll := joined_mem hP.ll (by
    have h1 := getD_le hP.ll k
    have h2 := getD_le hP.ll (k + 1)
    rw [List.length_append, List.length_append, List.length_append, List.length_append]
    show 1 + _ + 1 + _ + 1 ≤ _
    omega)
theorem set_range {β : Type} (F : Nat → List β) (i : Nat) (t : List β) : ((List.range 5).map F).set i (F i ++ t) = (List.range 5).map fun j => F j ++ if j = i then t else [] := by
  refine List.ext_getElem? fun j => ?_
  rw [List.getElem?_set, List.getElem?_map, List.getElem?_map, List.length_map, List.length_range]
  by_cases hj : j < 5
  · rw [List.getElem?_range hj]
    by_cases h : i = j
    · subst h
      rw [if_pos rfl, if_pos hj, Option.map_some, if_pos rfl]
    · rw [if_neg h]
      show some (F j) = some (F j ++ if j = i then t else [])
      rw [if_neg (fun e : j = i => h e.symm), List.append_nil]
  · have : (List.range 5)[j]? = none := List.getElem?_eq_none_iff.2 (by rw [List.length_range]; omega)
    rw [this]
    by_cases h : i = j
    · subst h
      rw [if_pos rfl, if_neg hj]; rfl
    · rw [if_neg h]; rfl
noncomputable def facS (i₁ i₂ : Nat) (t₁ t₂ q : List Nat) (j : Nat) : List Nat := (([97 + j] ++ if j = i₁ then t₁ else []) ++ if j = i₂ then t₂ else []) ++ if j = 4 then q else []
noncomputable def prod0 (fs : List (List Nat)) : PS := ⟨fs.map fun x => [x], [[97], [98], [99], [100], [101]], [0, 1, 2, 3, 4, 5], 0⟩
noncomputable def prodP (fs : List (List Nat)) (k₀ k₁ k₂ k₃ : Nat) : PS := stepP 115 k₃ (stepP 114 k₂ (stepP 113 k₁ (stepP 112 k₀ (prod0 fs))))
theorem prod0_ok (fs : List (List Nat)) (h : fs.length = 5) : POk (prod0 fs) 5 1 where
  r := by
    show (fs.map fun x => [x]).length = 5
    rw [List.length_map, h]
  l := rfl
  e := rfl
  e5 := by show ∀ x ∈ ([0, 1, 2, 3, 4, 5] : List Nat), x ≤ 5; decide
  rl := fun x hx => by
    obtain ⟨y, _, rfl⟩ := List.mem_map.1 hx
    exact Nat.le_refl 1
  ll := by show ∀ x ∈ ([[97], [98], [99], [100], [101]] : List (List Nat)), x.length ≤ 1; decide
noncomputable def things1 : List (List (List Nat)) := [[], [[92, 41]], [[34], [40], [34]], [[92, 92]], [[92, 34]], [[34], [41], [34]], [[34], [92, 34], [41], [34]], [[92, 40]]]
theorem cell_part {c : List Nat} (i a b : Nat) (ha : 0 < a) (ha2 : a < 1073741824) (hb : 0 < b) (hi : i < c.length) (hl : c.length ≤ 100) {f : List Sl → Option MV} {ρ : List Sl} (hf : f ρ = some (.list (c.map natV))) :
    bin2 (binOp Operator.Mod) (bin2 (binOp Operator.FloorDiv) (bin2 itemOp f fun x => some (MV.int i)) fun x => some (MV.int a)) (fun x => some (MV.int b)) ρ = some (natV (c.getD i 0 / a % b)) := by
  have hx : (c.map natV)[i]? = some (natV (c.getD i 0)) := by
    rw [List.getElem?_map, List.getD_eq_getElem?_getD, List.getElem?_eq_getElem hi]; rfl
  refine bin2_eq (a := natV (c.getD i 0 / a)) (b := .int b) (bin2_eq (a := natV (c.getD i 0)) (b := .int a) (item_at (xs := c.map natV) (i := i) hf rfl (by rw [List.length_map]; omega) hx) rfl ?_) rfl ?_
  · show (if (a : Int) ≠ 0 ∧ (a : Int).natAbs < 1073741824 then some (MV.int ((c.getD i 0 : Int).fdiv a)) else none) = _
    rw [if_pos ⟨by omega, by omega⟩, Int.fdiv_eq_ediv_of_nonneg _ (by omega)]; rfl
  · show (if (b : Int) = 0 then none else some (MV.int (((c.getD i 0 / a : Nat) : Int).fmod b))) = _
    rw [if_neg (by omega), Int.fmod_eq_emod_of_nonneg _ (by omega)]; rfl
theorem thing_at {f h : List Sl → Option MV} {ρ : List Sl} {i : Nat} (hf : f ρ = some (.list (things1.map fun T => .str T.flatten))) (hh : h ρ = some (natV i)) (hi : i < 8) : bin2 itemOp f h ρ = some (.str (things1.getD i []).flatten) := by
  refine item_at hf hh (by decide) ?_
  have : i < things1.length := hi
  rw [List.getElem?_map, List.getD_eq_getElem?_getD, List.getElem?_eq_getElem this]; rfl
theorem aug_fac {F : Nat → List Nat} {i : Nat} {t : List Nat} {g f : List Sl → Option MV} {c z1 : Sl} {rest : List Sl} (hi : i < 5) (hg : g (c :: z1 :: .m (((List.range 5).map F).map .str) :: rest) = some (natV i)) (hf : f (c :: z1 :: .m (((List.range 5).map F).map .str) :: rest) = some (.str t))
    (hF : (F i).length ≤ 500) (ht : t.length ≤ 500) : augIF 2 Operator.Add g f (c :: z1 :: .m (((List.range 5).map F).map .str) :: rest) = some (.next, c :: z1 :: .m (((List.range 5).map fun j => F j ++ if j = i then t else []).map .str) :: rest) := by
  have hlim : (21000 : Nat) < lim := by decide
  refine (augIF_eq (xs := ((List.range 5).map F).map .str) (k := (i : Int)) (a := .str (F i)) (b := .str t) (c := .str (F i ++ t)) rfl hg hf ?_ ?_ ?_).trans ?_
  · rw [List.length_map, List.length_map, List.length_range]; omega
  · rw [Int.toNat_natCast, List.getElem?_map, List.getElem?_map, List.getElem?_range hi]; rfl
  · show (if (F i).length + t.length ≤ lim then some (MV.str (F i ++ t)) else none) = _
    rw [if_pos (by omega)]
  · rw [Int.toNat_natCast, ← set_range F i t, List.map_set]; rfl
theorem things1_len (i : Nat) : (things1.getD i []).flatten.length ≤ 10 := by
  by_cases h : i < 8
  · match i, h with
    | 0, _ => decide
    | 1, _ => decide
    | 2, _ => decide
    | 3, _ => decide
    | 4, _ => decide
    | 5, _ => decide
    | 6, _ => decide
    | 7, _ => decide
  · have : things1[i]? = none := List.getElem?_eq_none_iff.2 (by show 8 ≤ i; omega)
    rw [List.getD_eq_getElem?_getD, this]; exact Nat.zero_le _
theorem fn_product_is (c : List Nat) (hc : c.length = 4) :
    fn_law_product [.list (c.map natV)] = (fun P : PS => some (.tuple [.list ((((P.rows.getD 0 []).drop 1).dropLast).map .str), .str (P.lines.getD 0 []), natV P.num]))
      (prodP ((List.range 5).map (facS (c.getD 0 0 / 4 % 5) (c.getD 1 0 / 3 % 5) (things1.getD (c.getD 0 0 / 20 % 8) []).flatten (things1.getD (c.getD 1 0 / 15 % 8) []).flatten (List.replicate (c.getD 2 0 / 2 % 2) 34))) (c.getD 0 0 % 4) (c.getD 1 0 % 3) (c.getD 2 0 % 2) (c.getD 3 0 % 1)) := by
  have hlim : (21000 : Nat) < lim := by decide
  have l1 := things1_len (c.getD 0 0 / 20 % 8)
  have l2 := things1_len (c.getD 1 0 / 15 % 8)
  refine Res.run (g := ex_law_product.1) rfl ?_
  unfold ex_law_product; dsimp only
  refine Res.next (ρ₁ := [.v (.list (c.map natV)), .v (.list (things1.map fun T => .str T.flatten)), .un, .un, .un, .un, .un, .un, .un, .un]) rfl ?_
  refine Res.next (ρ₁ := [.v (.list (c.map natV)), .v (.list (things1.map fun T => .str T.flatten)), .m (((List.range 5).map fun j => [97 + j]).map .str), .un, .un, .un, .un, .un, .un, .un]) (setCF_eq (v := ((List.range 5).map fun j => [97 + j]).map .str) ((compN_map (h := fun x => x) (valI_eq rfl rfl) rfl (fun x hx => rfl) (by decide)).trans rfl)) ?_
  refine Res.next (aug_fac (F := fun j => [97 + j]) (i := c.getD 0 0 / 4 % 5) (Nat.mod_lt _ (by decide)) (cell_part 0 4 5 (by decide) (by decide) (by decide) (by omega) (by omega) rfl) (thing_at rfl (cell_part 0 20 8 (by decide) (by decide) (by decide) (by omega) (by omega) rfl) (Nat.mod_lt _ (by decide))) (Nat.le_of_ble_eq_true rfl) (up_le l1 rfl)) ?_
  refine Res.next (aug_fac (F := fun j => [97 + j] ++ if j = c.getD 0 0 / 4 % 5 then (things1.getD (c.getD 0 0 / 20 % 8) []).flatten else []) (i := c.getD 1 0 / 3 % 5) (Nat.mod_lt _ (by decide)) (cell_part 1 3 5 (by decide) (by decide) (by decide) (by omega) (by omega) rfl) (thing_at rfl (cell_part 1 15 8 (by decide) (by decide) (by decide) (by omega) (by omega) rfl) (Nat.mod_lt _ (by decide))) ?_ (up_le l2 rfl)) ?_
  · refine len2 1 10 (Nat.le_refl 1) ?_ rfl
    split
    · exact l1
    · exact Nat.zero_le _
  refine Res.next (aug_fac (F := fun j => ([97 + j] ++ if j = c.getD 0 0 / 4 % 5 then (things1.getD (c.getD 0 0 / 20 % 8) []).flatten else []) ++ if j = c.getD 1 0 / 3 % 5 then (things1.getD (c.getD 1 0 / 15 % 8) []).flatten else []) (i := 4) (t := List.replicate (c.getD 2 0 / 2 % 2) 34) (by decide) rfl ?_ ?_ ?_) ?_
  · have hm : c.getD 2 0 / 2 % 2 ≤ 1 := by omega
    refine bin2_eq (a := .str [34]) rfl (cell_part 2 2 2 (by decide) (by decide) (by decide) (by omega) (by omega) rfl) ?_
    generalize c.getD 2 0 / 2 % 2 = n at hm
    match n, hm with
    | 0, _ => rfl
    | 1, _ => rfl
  · refine len2 11 10 (len2 1 10 (Nat.le_refl 1) ?_ rfl) ?_ rfl
    · split
      · exact l1
      · exact Nat.zero_le _
    · split
      · exact l2
      · exact Nat.zero_le _
  · rw [List.length_replicate]; omega
  generalize hfs : (List.range 5).map (facS (c.getD 0 0 / 4 % 5) (c.getD 1 0 / 3 % 5) (things1.getD (c.getD 0 0 / 20 % 8) []).flatten (things1.getD (c.getD 1 0 / 15 % 8) []).flatten (List.replicate (c.getD 2 0 / 2 % 2) 34)) = fs
  have hfl : fs.length = 5 := by rw [← hfs, List.length_map, List.length_range]
  have hfs' : ((List.range 5).map fun j => (([97 + j] ++ if j = c.getD 0 0 / 4 % 5 then (things1.getD (c.getD 0 0 / 20 % 8) []).flatten else []) ++ if j = c.getD 1 0 / 3 % 5 then (things1.getD (c.getD 1 0 / 15 % 8) []).flatten else []) ++ if j = 4 then List.replicate (c.getD 2 0 / 2 % 2) 34 else []) = fs := hfs
  rw [hfs']
  have P0 := prod0_ok fs hfl
  refine Res.next (ρ₁ := [.v (.list (c.map natV)), .v (.list (things1.map fun T => .str T.flatten)), .v (.list (fs.map .str)), .v (.list ((prod0 fs).rows.map rowV)), .un, .un, .un, .un, .un, .un]) (setCF_eq (v := (prod0 fs).rows.map rowV) ?_) ?_
  · refine (compN_map (xs := fs.map .str) (h := fun x => .list [x]) (valI_eq rfl rfl) rfl (fun x hx => ?_) (by rw [List.length_map]; omega)).trans ?_
    · obtain ⟨y, _, rfl⟩ := List.mem_map.1 hx
      exact ofN_eq (listN_eq rfl (by show 1 ≤ lim; omega))
    · show _ = some ((fs.map fun x => [x]).map rowV)
      rw [List.map_map, List.map_map]; rfl
  refine Res.next (ρ₁ := [.v (.list (c.map natV)), .v (.list (things1.map fun T => .str T.flatten)), .v (.list (fs.map .str)), .v (.list ((prod0 fs).rows.map rowV)), .v (.list ((prod0 fs).lines.map .str)), .un, .un, .un, .un, .un]) (setCF_eq (v := (prod0 fs).lines.map .str) ((compN_map (h := fun x => x) (valI_eq rfl rfl) rfl (fun x hx => rfl) (by decide)).trans rfl)) ?_
  refine Res.next (ρ₁ := [.v (.list (c.map natV)), .v (.list (things1.map fun T => .str T.flatten)), .v (.list (fs.map .str)), .v (.list ((prod0 fs).rows.map rowV)), .v (.list ((prod0 fs).lines.map .str)), .v (.list ((prod0 fs).ends.map natV)), .un, .un, .un, .un]) rfl ?_
  refine Res.next (ρ₁ := [.v (.list (c.map natV)), .v (.list (things1.map fun T => .str T.flatten)), .v (.list (fs.map .str)), .v (.list ((prod0 fs).rows.map rowV)), .v (.list ((prod0 fs).lines.map .str)), .v (.list ((prod0 fs).ends.map natV)), .v (natV (prod0 fs).num), .un, .un, .un]) rfl ?_
  have t0 := turn_is c hc 0 112 (by decide) (prod0 fs) 1 (by decide) P0 (.v (.list (things1.map fun T => .str T.flatten))) (.v (.list (fs.map .str))) .un
  have P1 := P0.step 112 (c.getD 0 0 % 4) (by have := Nat.mod_lt (c.getD 0 0) (show 0 < 4 by decide); omega)
  have t1 := turn_is c hc 1 113 (by decide) _ 5 (by decide) P1 (.v (.list (things1.map fun T => .str T.flatten))) (.v (.list (fs.map .str))) (.v (natV (c.getD 0 0 % 4)))
  have P2 := P1.step 113 (c.getD 1 0 % 3) (by have := Nat.mod_lt (c.getD 1 0) (show 0 < 3 by decide); omega)
  have t2 := turn_is c hc 2 114 (by decide) _ 13 (by decide) P2 (.v (.list (things1.map fun T => .str T.flatten))) (.v (.list (fs.map .str))) (.v (natV (c.getD 1 0 % 3)))
  have P3 := P2.step 114 (c.getD 2 0 % 2) (by have := Nat.mod_lt (c.getD 2 0) (show 0 < 2 by decide); omega)
  have t3 := turn_is c hc 3 115 (by decide) _ 29 (by decide) P3 (.v (.list (things1.map fun T => .str T.flatten))) (.v (.list (fs.map .str))) (.v (natV (c.getD 2 0 % 2)))
  have P4 := P3.step 115 (c.getD 3 0 % 1) (by have := Nat.mod_lt (c.getD 3 0) (show 0 < 1 by decide); omega)
  refine Res.next (forF_eq (xs := [.tuple [natV 0, .str [112]], .tuple [natV 1, .str [113]], .tuple [natV 2, .str [114]], .tuple [natV 3, .str [115]]]) (enumI_eq rfl rfl) (forL_next rfl t0 (forL_next rfl t1 (forL_next rfl t2 (forL_next rfl t3 rfl))))) ?_
  have hP : stepP 115 (c.getD 3 0 % 1) (stepP 114 (c.getD 2 0 % 2) (stepP 113 (c.getD 1 0 % 3) (stepP 112 (c.getD 0 0 % 4) (prod0 fs)))) = prodP fs (c.getD 0 0 % 4) (c.getD 1 0 % 3) (c.getD 2 0 % 2) (c.getD 3 0 % 1) := rfl
  have P4' : POk (prodP fs (c.getD 0 0 % 4) (c.getD 1 0 % 3) (c.getD 2 0 % 2) (c.getD 3 0 % 1)) 1 61 := P4
  show Res _ [_, _, _, .v (.list ((prodP fs (c.getD 0 0 % 4) (c.getD 1 0 % 3) (c.getD 2 0 % 2) (c.getD 3 0 % 1)).rows.map rowV)), .v (.list ((prodP fs (c.getD 0 0 % 4) (c.getD 1 0 % 3) (c.getD 2 0 % 2) (c.getD 3 0 % 1)).lines.map .str)), _, .v (natV (prodP fs (c.getD 0 0 % 4) (c.getD 1 0 % 3) (c.getD 2 0 % 2) (c.getD 3 0 % 1)).num), _, _, _] _
  generalize prodP fs (c.getD 0 0 % 4) (c.getD 1 0 % 3) (c.getD 2 0 % 2) (c.getD 3 0 % 1) = P at P4'
  have g0 : (P.rows.map rowV)[0]? = some (rowV (P.rows.getD 0 [])) := by
    have : 0 < P.rows.length := by rw [P4'.r]; decide
    rw [List.getElem?_map, List.getD_eq_getElem?_getD, List.getElem?_eq_getElem this]; rfl
  have g1 : (P.lines.map MV.str)[0]? = some (.str (P.lines.getD 0 [])) := by
    have : 0 < P.lines.length := by rw [P4'.l]; decide
    rw [List.getElem?_map, List.getD_eq_getElem?_getD, List.getElem?_eq_getElem this]; rfl
  have b0 := getD_le P4'.rl 0
  refine Res.ret (tupF_eq (consF_eq (a := .list ((((P.rows.getD 0 []).drop 1).dropLast).map .str)) ?_ (consF_eq (item_at (i := 0) rfl rfl (by rw [List.length_map, P4'.l]; decide) g1) (consF_eq rfl rfl))) (by show 3 ≤ lim; omega))
  refine (slice_list (xs := (P.rows.getD 0 []).map .str) (lo := some ((1 : Nat) : Int)) (hi := some (-1)) (item_at (i := 0) rfl rfl (by rw [List.length_map, P4'.r]; decide) g0) (partF_eq rfl) (partF_eq rfl) (by rw [List.length_map]; omega)).trans ?_
  refine congrArg (fun x => some (MV.list x)) ?_
  generalize P.rows.getD 0 [] = r
  show (((r.map MV.str).drop (clipAt (r.map MV.str).length ((1 : Nat) : Int))).take (clipAt (r.map MV.str).length (-1) - clipAt (r.map MV.str).length ((1 : Nat) : Int))) = _
  rw [clip_nat, List.length_map, ← List.map_drop, ← List.map_take]
  refine congrArg (List.map MV.str) ?_
  have hc1 : clipAt r.length (-1) = r.length - 1 := by unfold clipAt; rw [if_pos (by decide)]; omega
  rw [hc1, List.dropLast_eq_take, List.length_drop]
  by_cases h : 1 ≤ r.length
  · rw [Nat.min_eq_left h]
  · have h0 : r.length = 0 := by omega
    rw [List.eq_nil_of_length_eq_zero h0]; rfl
noncomputable def pM (ps : List (List Nat)) (b : List Nat) : Bool := match ps with
  | [w] => w == b
  | ps => pMatch ps b
theorem eMatch_pM (b : List Nat) : ∀ ps : List (List Nat), ps ≠ [] → (∀ w ∈ ps, 46 ∉ w) → eMatch (joinL dots ps) b = pM ps b
  | [w], _, h => by
    unfold eMatch
    have hd : findL dots (joinL dots [w]) = none := findL_nodots _ (h w (List.mem_singleton.2 rfl))
    rw [hd, if_neg (by decide)]
    rfl
  | w :: u :: ws, _, h => eMatch_join _ _ _ _ h
noncomputable def szP (ps : List (List Nat)) : Nat := ps.flatten.length + 3 * ps.length
theorem join_len2 : ∀ ps : List (List Nat), (joinL dots ps).length ≤ szP ps
  | [] => Nat.zero_le _
  | [w] => by
    show w.length ≤ _
    simp [szP]
  | w :: u :: ws => by
    have ih := join_len2 (u :: ws)
    have e : joinL dots (w :: u :: ws) = w ++ dots ++ joinL dots (u :: ws) := rfl
    rw [e]
    simp only [szP, List.length_append, List.flatten_cons, List.length_cons] at ih ⊢
    show _ + 3 + _ ≤ _
    omega
noncomputable def preF (a : List Nat) : List Nat → Bool :=
  @List.rec Nat (fun u0 => List Nat → Bool) (fun u0 => true) (fun x u0 ih b => @List.casesOn Nat (fun u0 => Bool) b false fun y b' => cond (Nat.beq x y) (ih b') false) a
noncomputable def revF2 (a : List Nat) : List Nat → List Nat :=
  @List.rec Nat (fun u0 => List Nat → List Nat) (fun acc => acc) (fun x u0 ih acc => ih (x :: acc)) a
noncomputable def locF (y x : List Nat) : Option Nat :=
  @List.rec Nat (fun u0 => Option Nat) (@List.casesOn Nat (fun u0 => Option Nat) y (some 0) fun u0 u1 => none) (fun c x' ih => cond (preF y (c :: x')) (some 0) (@Option.casesOn Nat (fun u0 => Option Nat) ih none fun k => some (k + 1))) x
noncomputable def dropF (n : Nat) : List Nat → List Nat :=
  @Nat.rec (fun u0 => List Nat → List Nat) (fun l => l) (fun u0 ih l => @List.casesOn Nat (fun u0 => List Nat) l [] fun u0 t => ih t) n
noncomputable def takeF (n : Nat) : List Nat → List Nat :=
  @Nat.rec (fun u0 => List Nat → List Nat) (fun u0 => []) (fun u0 ih l => @List.casesOn Nat (fun u0 => List Nat) l [] fun x t => x :: ih t) n
noncomputable def lenF (l : List Nat) : Nat := @List.rec Nat (fun u0 => Nat) 0 (fun u0 u1 ih => Nat.succ ih) l
noncomputable def egrF (got : List Nat) (b : Nat) (ws : List (List Nat)) : Nat → Bool :=
  @List.rec (List Nat) (fun u0 => Nat → Bool) (fun u0 => true) (fun w u0 ih a => @Option.casesOn Nat (fun u0 => Bool) (locF w (dropF a (takeF b got))) false fun k => ih (a + k + lenF w)) ws
noncomputable def lastF (ws : List (List Nat)) : Option (List Nat) :=
  @List.rec (List Nat) (fun u0 => Option (List Nat)) none (fun w u0 ih => @Option.casesOn (List Nat) (fun u0 => Option (List Nat)) ih (some w) fun v => some v) ws
noncomputable def initF (ws : List (List Nat)) : List (List Nat) :=
  @List.rec (List Nat) (fun u0 => List (List Nat)) [] (fun w r ih => @List.casesOn (List Nat) (fun u0 => List (List Nat)) r [] fun u0 u1 => w :: ih) ws
noncomputable def eEndF (got : List Nat) (a : Nat) (l : List (List Nat)) : Bool :=
  @Option.casesOn (List Nat) (fun u0 => Bool) (lastF l) false fun w =>
    @List.casesOn Nat (fun u0 => Bool) w (cond (Nat.blt (lenF got) a) false (egrF got (lenF got) l a)) fun u0 u1 =>
      cond (preF (revF2 w []) (revF2 got [])) (cond (Nat.blt (lenF got - lenF w) a) false (egrF got (lenF got - lenF w) (initF l) a)) false
noncomputable def eqF (a : List Nat) : List Nat → Bool :=
  @List.rec Nat (fun u0 => List Nat → Bool) (fun b => @List.casesOn Nat (fun u0 => Bool) b true fun u0 u1 => false) (fun x u0 ih b => @List.casesOn Nat (fun u0 => Bool) b false fun y b' => cond (Nat.beq x y) (ih b') false) a
noncomputable def pF (ps : List (List Nat)) (b : List Nat) : Bool :=
  @List.casesOn (List Nat) (fun u0 => Bool) ps false fun w r => @List.casesOn (List Nat) (fun u0 => Bool) r (eqF w b) fun u0 u1 =>
    @List.casesOn Nat (fun u0 => Bool) w (eEndF b 0 ps) fun u0 u1 => cond (preF w b) (eEndF b (lenF w) r) false
theorem beq_is (a b : Nat) : Nat.beq a b = (a == b) := by
  by_cases h : a = b
  · subst h; rw [beq_self_eq_true]; exact Nat.beq_refl a
  · rw [beq_eq_false_iff_ne.2 h]
    exact Bool.eq_false_iff.2 fun e => h (Nat.eq_of_beq_eq_true e)
theorem preF_is : ∀ a b : List Nat, preF a b = a.isPrefixOf b
  | [], b => by cases b <;> rfl
  | x :: a, [] => rfl
  | x :: a, y :: b => by
    show cond (Nat.beq x y) (preF a b) false = ((x == y) && a.isPrefixOf b)
    rw [preF_is a b, beq_is]
    cases x == y <;> rfl
theorem revF2_is : ∀ a acc : List Nat, revF2 a acc = a.reverse ++ acc
  | [], acc => rfl
  | x :: a, acc => by
    show revF2 a (x :: acc) = _
    rw [revF2_is a, List.reverse_cons, List.append_assoc]; rfl
theorem locF_is (y : List Nat) : ∀ x : List Nat, locF y x = findL y x
  | [] => by cases y <;> rfl
  | c :: x => by
    show cond (preF y (c :: x)) (some 0) (@Option.casesOn Nat (fun u0 => Option Nat) (locF y x) none fun k => some (k + 1)) = _
    rw [locF_is y x, preF_is, findL]
    cases y.isPrefixOf (c :: x) with
    | true => rfl
    | false => cases findL y x <;> rfl
theorem dropF_is : ∀ (n : Nat) (l : List Nat), dropF n l = l.drop n
  | 0, l => rfl
  | n + 1, [] => rfl
  | n + 1, x :: l => dropF_is n l
theorem takeF_is : ∀ (n : Nat) (l : List Nat), takeF n l = l.take n
  | 0, l => rfl
  | n + 1, [] => rfl
  | n + 1, x :: l => congrArg (x :: ·) (takeF_is n l)
theorem lenF_is : ∀ l : List Nat, lenF l = l.length
  | [] => rfl
  | x :: l => congrArg Nat.succ (lenF_is l)
theorem egrF_is (got : List Nat) (b : Nat) : ∀ (ws : List (List Nat)) (a : Nat), egrF got b ws a = egr got b a ws
  | [], a => rfl
  | w :: ws, a => by
    show (@Option.casesOn Nat (fun u0 => Bool) (locF w (dropF a (takeF b got))) false fun k => egrF got b ws (a + k + lenF w)) = _
    rw [dropF_is, takeF_is, locF_is, egr, find3L]
    cases findL w ((got.take b).drop a) with
    | none => rfl
    | some k =>
      show egrF got b ws (a + k + lenF w) = egr got b (a + k + w.length) ws
      rw [egrF_is got b ws, lenF_is]
theorem lastF_is : ∀ ws : List (List Nat), lastF ws = ws.getLast?
  | [] => rfl
  | [w] => rfl
  | w :: v :: ws => by
    have ih := lastF_is (v :: ws)
    show (@Option.casesOn (List Nat) (fun u0 => Option (List Nat)) (lastF (v :: ws)) (some w) fun v => some v) = _
    rw [ih, List.getLast?_cons_cons, List.getLast?_eq_some_getLast (by simp)]
theorem initF_is : ∀ ws : List (List Nat), initF ws = ws.dropLast
  | [] => rfl
  | [w] => rfl
  | w :: v :: ws => congrArg (w :: ·) (initF_is (v :: ws))
theorem blt_is (a b : Nat) : Nat.blt a b = decide (a < b) := by
  by_cases h : a < b
  · rw [decide_eq_true h]; exact Nat.ble_eq_true_of_le h
  · rw [decide_eq_false h]
    exact Bool.eq_false_iff.2 fun e => h (Nat.le_of_ble_eq_true e)
theorem cond_not (p : Prop) [Decidable p] (x : Bool) : cond (decide p) false x = if p then false else x := by
  by_cases h : p
  · rw [decide_eq_true h, if_pos h]; rfl
  · rw [decide_eq_false h, if_neg h]; rfl
theorem eEndF_is (got : List Nat) (a : Nat) (l : List (List Nat)) : eEndF got a l = eEnd got a l := by
  unfold eEndF eEnd
  rw [lastF_is]
  cases l.getLast? with
  | none => rfl
  | some w =>
    cases w with
    | nil =>
      show cond (Nat.blt (lenF got) a) false (egrF got (lenF got) l a) = if ([] : List Nat) = [] then _ else _
      rw [if_pos rfl, lenF_is, egrF_is, blt_is, cond_not]
    | cons x w =>
      show cond (preF (revF2 (x :: w) []) (revF2 got [])) (cond (Nat.blt (lenF got - lenF (x :: w)) a) false (egrF got (lenF got - lenF (x :: w)) (initF l) a)) false = if x :: w = [] then _ else _
      rw [if_neg (by nofun), lenF_is, lenF_is, egrF_is, blt_is, initF_is, preF_is, revF2_is, revF2_is, List.append_nil, List.append_nil, cond_not]
      show _ = if (List.isPrefixOf (x :: w).reverse got.reverse) = true then _ else _
      cases List.isPrefixOf (x :: w).reverse got.reverse <;> rfl
theorem eqF_is : ∀ a b : List Nat, eqF a b = (a == b)
  | [], [] => rfl
  | [], y :: b => rfl
  | x :: a, [] => rfl
  | x :: a, y :: b => by
    show cond (Nat.beq x y) (eqF a b) false = ((x == y) && (a == b))
    rw [eqF_is a b, beq_is]
    cases x == y <;> rfl
theorem pF_is (b : List Nat) : ∀ ps : List (List Nat), pF ps b = pM ps b
  | [] => rfl
  | [w] => eqF_is w b
  | w :: u :: ws => by
    cases w with
    | nil => exact eEndF_is b 0 ([] :: u :: ws)
    | cons x w =>
      show cond (preF (x :: w) b) (eEndF b (lenF (x :: w)) (u :: ws)) false = if x :: w = [] then eEnd b 0 ((x :: w) :: u :: ws) else if (x :: w).isPrefixOf b = true then eEnd b (x :: w).length (u :: ws) else false
      rw [if_neg (by nofun), preF_is, eEndF_is, lenF_is]
      cases (x :: w).isPrefixOf b <;> rfl
theorem match_is (ps : List (List Nat)) (b : List Nat) (hn : ps ≠ []) (hd : ∀ w ∈ ps, 46 ∉ w) (hs : szP ps ≤ 1000) (hb : b.length ≤ 1000) : fn_ellipsis_match [.str (joinL dots ps), .str b] = some (.bool (pF ps b)) := by
  have hlim : (21000 : Nat) < lim := by decide
  have := join_len2 ps
  rw [pF_is, ← eMatch_pM b ps hn hd]
  exact fn_ellipsis_is _ _ (by omega) (by omega)
theorem joinL_snoc : ∀ (ps : List (List Nat)) (w : List Nat), ps ≠ [] → joinL dots (ps ++ [w]) = joinL dots ps ++ dots ++ w
  | [x], w, _ => rfl
  | x :: y :: ps, w, _ => by
    have ih := joinL_snoc (y :: ps) w (by nofun)
    show x ++ dots ++ joinL dots (y :: ps ++ [w]) = x ++ dots ++ joinL dots (y :: ps) ++ dots ++ w
    rw [ih]
    simp only [List.append_assoc]
noncomputable def s1 (c : Nat) : MV := .str [c]
structure Way where
  ps : List (List Nat)
  u : List Nat
noncomputable def wayV (w : Way) : MV := .list [.str (joinL dots w.ps), .str w.u]
structure WOk (m : Nat) (w : Way) : Prop where
  ne : w.ps ≠ []
  dot : ∀ p ∈ w.ps, 46 ∉ p
  sz : szP w.ps ≤ m
  ul : w.u.length ≤ m
theorem comp_at {i : Nat} {u : List Sl → Option Bool} {f : List Sl → Option MV} {S : Sl → List Sl} (ht : ∀ x y, tName i x (S y) = some (S (.v x))) (h : MV → MV) (p : MV → Bool) : ∀ (xs acc : List MV) (y : Sl), (∀ x ∈ xs, u (S (.v x)) = some (p x) ∧ (p x = true → f (S (.v x)) = some (h x))) → acc.length + xs.length ≤ lim →
    ∃ y', compL (tName i) u (emitB f) xs (S y) acc = some (S y', acc ++ (xs.filter p).map h)
  | [], acc, y, _, _ => ⟨y, by rw [List.filter_nil, List.map_nil, List.append_nil]; rfl⟩
  | x :: xs, acc, y, hx, hl => by
    rw [List.length_cons] at hl
    obtain ⟨h1, h2⟩ := hx x (List.mem_cons_self ..)
    rw [compL, ht]
    simp only [h1]
    cases hp : p x with
    | false =>
      obtain ⟨y', e⟩ := comp_at ht h p xs acc (.v x) (fun z hz => hx z (List.mem_cons_of_mem _ hz)) (by omega)
      refine ⟨y', ?_⟩
      rw [List.filter_cons, if_neg (by rw [hp]; decide)]
      exact e
    | true =>
      obtain ⟨y', e⟩ := comp_at ht h p xs (acc ++ [h x]) (.v x) (fun z hz => hx z (List.mem_cons_of_mem _ hz)) (by rw [List.length_append]; show _ + 1 + _ ≤ _; omega)
      refine ⟨y', ?_⟩
      have he : emitB f (S (.v x)) acc = some (S (.v x), acc ++ [h x]) := by
        unfold emitB
        rw [h2 hp, Option.bind_some, if_pos (by omega)]
      simp only [he]
      rw [e, List.filter_cons, if_pos hp, List.map_cons, List.append_assoc]; rfl
noncomputable def names4 : List Nat := [112, 113, 114, 115]
noncomputable def grow (f : Nat) (w : Way) : List Way := (names4.filter fun n => !(findL [n] w.u).isSome).map fun n => ⟨w.ps ++ [[n]] ++ [[f]], w.u ++ [n]⟩
noncomputable def wayE : List Sl → Option MV :=
  ofN (listN (consF (bin2 (binOp Operator.Add) (bin2 (binOp Operator.Add) (bin2 (binOp Operator.Add) (bin2 (binOp Operator.Add) (fun ρ => getH ρ 0) fun x => some (MV.str [46, 46, 46])) fun ρ => getH ρ 2) fun x => some (MV.str [46, 46, 46])) fun ρ => getH ρ 3)
    (consF (bin2 (binOp Operator.Add) (fun ρ => getH ρ 1) fun ρ => getH ρ 2) nilF)))
theorem grow_is (f : Nat) (w : Way) (m : Nat) (hm : m ≤ 200) (hw : WOk m w) (acc : List MV) (c : Sl) (hl : acc.length + 4 ≤ lim) :
    ∃ c', innerB (valI fun x => some (MV.str [112, 113, 114, 115])) (tName 2) (cmp2 CmpOp.NotIn (fun ρ => getH ρ 2) fun ρ => getH ρ 1) (emitB wayE) [.v (.str (joinL dots w.ps)), .v (.str w.u), c, .v (.str [f])] acc =
      some ([.v (.str (joinL dots w.ps)), .v (.str w.u), c', .v (.str [f])], acc ++ (grow f w).map wayV) := by
  have hlim : (21000 : Nat) < lim := by decide
  have hj := Nat.le_trans (Nat.le_trans (join_len2 w.ps) hw.sz) hm
  have hul := Nat.le_trans hw.ul hm
  have hx : ∀ x ∈ names4.map s1, cmp2 CmpOp.NotIn (fun ρ => getH ρ 2) (fun ρ => getH ρ 1) [.v (.str (joinL dots w.ps)), .v (.str w.u), .v x, .v (.str [f])] = some ((fun x : MV => match x with | .str n => !(findL n w.u).isSome | _ => false) x) ∧
      ((fun x : MV => match x with | .str n => !(findL n w.u).isSome | _ => false) x = true → wayE [.v (.str (joinL dots w.ps)), .v (.str w.u), .v x, .v (.str [f])] = some ((fun x : MV => match x with | .str [n] => wayV ⟨w.ps ++ [[n]] ++ [[f]], w.u ++ [n]⟩ | y => y) x)) := fun x hx => by
    obtain ⟨n, _, rfl⟩ := List.mem_map.1 hx
    refine ⟨rfl, fun u0 => ?_⟩
    refine ofN_eq (listN_eq (consF_eq (a := .str (joinL dots (w.ps ++ [[n]] ++ [[f]]))) ?_ (consF_eq (a := .str (w.u ++ [n])) (add_str (a := w.u) (b := [n]) rfl rfl (up_le hul rfl) (Nat.le_of_ble_eq_true rfl)) rfl)) (by show 2 ≤ lim; omega))
    rw [joinL_snoc _ _ (by intro h; exact absurd (congrArg List.length h) (by simp)), joinL_snoc _ _ hw.ne]
    exact add_str (add_str (add_str (add_str (a := joinL dots w.ps) (b := dots) rfl rfl (up_le hj rfl) (Nat.le_of_ble_eq_true rfl)) (b := [n]) rfl (len2 200 3 hj (Nat.le_refl 3) rfl) (Nat.le_of_ble_eq_true rfl)) (b := dots) rfl (len2 203 1 (len2 200 3 hj (Nat.le_refl 3) rfl) (Nat.le_refl 1) rfl) (Nat.le_of_ble_eq_true rfl))
      (b := [f]) rfl (len2 204 3 (len2 203 1 (len2 200 3 hj (Nat.le_refl 3) rfl) (Nat.le_refl 1) rfl) (Nat.le_refl 3) rfl) (Nat.le_of_ble_eq_true rfl)
  obtain ⟨c', e⟩ := comp_at (i := 2) (u := cmp2 CmpOp.NotIn (fun ρ => getH ρ 2) fun ρ => getH ρ 1) (f := wayE) (S := fun c => [.v (.str (joinL dots w.ps)), .v (.str w.u), c, .v (.str [f])]) (fun u0 u1 => rfl) _ _ (names4.map s1) acc c hx hl
  refine ⟨c', ?_⟩
  unfold innerB
  refine e.trans ?_
  refine congrArg (fun l => some (_, acc ++ l)) ?_
  unfold grow
  rw [List.filter_map, List.map_map, List.map_map]
  rfl
theorem grow_all (f m : Nat) (hm : m ≤ 200) : ∀ (W : List Way) (acc : List MV) (a b c : Sl), (∀ w ∈ W, WOk m w) → acc.length + 4 * W.length ≤ lim →
    ∃ a' b' c', compL (tTup [0, 1]) noIf (innerB (valI fun x => some (MV.str [112, 113, 114, 115])) (tName 2) (cmp2 CmpOp.NotIn (fun ρ => getH ρ 2) fun ρ => getH ρ 1) (emitB wayE)) (W.map wayV) [a, b, c, .v (.str [f])] acc =
      some ([a', b', c', .v (.str [f])], acc ++ (W.flatMap (grow f)).map wayV)
  | [], acc, a, b, c, _, _ => ⟨a, b, c, by rw [List.flatMap_nil, List.map_nil, List.append_nil]; rfl⟩
  | w :: W, acc, a, b, c, hW, hl => by
    rw [List.length_cons] at hl
    obtain ⟨c₁, e1⟩ := grow_is f w m hm (hW w (List.mem_cons_self ..)) acc c (by omega)
    have hg : (grow f w).length ≤ 4 := by
      unfold grow
      rw [List.length_map]
      exact List.length_filter_le _ _
    obtain ⟨a', b', c', e⟩ := grow_all f m hm W (acc ++ (grow f w).map wayV) (.v (.str (joinL dots w.ps))) (.v (.str w.u)) c₁ (fun v hv => hW v (List.mem_cons_of_mem _ hv)) (by rw [List.length_append, List.length_map]; omega)
    refine ⟨a', b', c', ?_⟩
    rw [List.map_cons, compL]
    show (match innerB (valI fun x => some (MV.str [112, 113, 114, 115])) (tName 2) (cmp2 CmpOp.NotIn (fun ρ => getH ρ 2) fun ρ => getH ρ 1) (emitB wayE) [.v (.str (joinL dots w.ps)), .v (.str w.u), c, .v (.str [f])] acc with
      | none => none
      | some (ρ₂, acc₂) => compL (tTup [0, 1]) noIf _ (W.map wayV) ρ₂ acc₂) = _
    rw [e1]
    simp only
    rw [e, List.append_assoc, List.flatMap_cons, List.map_append]
noncomputable def gapBody : List Sl → Option (Fl × List Sl) :=
(seqF
                                        (setF 15
                                          (bin2 itemOp (fun x => some (MV.str [97, 98, 99, 100, 101])) fun ρ =>
                                            getV ρ 14))
                                        (seqF
                                          (setF 16
                                            (sliceF (fun ρ => getH ρ 5)
                                              (partF
                                                (bin2 mIndex (fun ρ => getH ρ 5)
                                                  (bin2 itemOp (fun x => some (MV.str [97, 98, 99, 100, 101])) fun ρ =>
                                                    getV ρ 8)))
                                              (partF
                                                (bin2 (binOp Operator.Add)
                                                  (bin2 mIndex (fun ρ => getH ρ 5) fun ρ => getH ρ 15) fun x =>
                                                  some (MV.int 1)))))
                                          (seqF
                                            (setCF false 17
                                              (compN [Str.ofString "way", Str.ofString "used", Str.ofString "name"]
                                                [(15, Str.ofString "factor")] (listI fun ρ => getV ρ 13) (tTup [0, 1])
                                                noIf
                                                (innerB (valI fun x => some (MV.str [112, 113, 114, 115])) (tName 2)
                                                  (cmp2 CmpOp.NotIn (fun ρ => getH ρ 2) fun ρ => getH ρ 1)
                                                  (emitB
                                                    (ofN
                                                      (listN
                                                        (consF
                                                          (bin2 (binOp Operator.Add)
                                                            (bin2 (binOp Operator.Add)
                                                              (bin2 (binOp Operator.Add)
                                                                (bin2 (binOp Operator.Add) (fun ρ => getH ρ 0) fun x =>
                                                                  some (MV.str [46, 46, 46]))
                                                                fun ρ => getH ρ 2)
                                                              fun x => some (MV.str [46, 46, 46]))
                                                            fun ρ => getH ρ 3)
                                                          (consF
                                                            (bin2 (binOp Operator.Add) (fun ρ => getH ρ 1) fun ρ =>
                                                              getH ρ 2)
                                                            nilF))))))))
                                            (seqF
                                              (setCF false 13
                                                (compN [Str.ofString "pair"] [(16, Str.ofString "part")]
                                                  (valI fun ρ => getV ρ 17) (tName 0)
                                                  (cmp2 CmpOp.Is
                                                    (appF fn_ellipsis_match
                                                      (consF (bin2 itemOp (fun ρ => getH ρ 0) fun x => some (MV.int 0))
                                                        (consF (fun ρ => getV ρ 1) nilF)))
                                                    fun x => some (MV.bool true))
                                                  (emitB fun ρ => getV ρ 0)))
                                              (iteF
                                                (cmp2 CmpOp.NotEq (app1 bLen fun ρ => getH ρ 13)
                                                  (bin2 itemOp (bin2 itemOp (fun ρ => getH ρ 11) fun ρ => getV ρ 8)
                                                    (bin2 (binOp Operator.Add) (fun ρ => getH ρ 14) fun x =>
                                                      some (MV.int 1))))
                                                (retF [] fun x => some (MV.bool false)) doneF)))))
noncomputable def wayBody : List Sl → Option (Fl × List Sl) :=
(seqF
                                            (iteF
                                              (cmp2 CmpOp.IsNot
                                                (appF fn_ellipsis_match
                                                  (consF
                                                    (bin2 (binOp Operator.Add)
                                                      (bin2 (binOp Operator.Add) (fun x => some (MV.str [46, 46, 46]))
                                                        fun ρ => getH ρ 18)
                                                      fun x => some (MV.str [46, 46, 46]))
                                                    (consF (fun ρ => getV ρ 5) nilF)))
                                                fun x => some (MV.bool true))
                                              (retF [] fun x => some (MV.bool false)) doneF)
                                            (iteF
                                              (orT
                                                (cmp2 CmpOp.IsNot
                                                  (appF fn_ellipsis_match
                                                    (consF
                                                      (bin2 (binOp Operator.Add) (fun ρ => getH ρ 18) fun x =>
                                                        some (MV.str [46, 46, 46]))
                                                      (consF (fun ρ => getV ρ 5) nilF)))
                                                  fun x => some (MV.bool false))
                                                (cmp2 CmpOp.IsNot
                                                  (appF fn_ellipsis_match
                                                    (consF
                                                      (bin2 (binOp Operator.Add) (fun x => some (MV.str [46, 46, 46]))
                                                        fun ρ => getH ρ 18)
                                                      (consF (fun ρ => getV ρ 5) nilF)))
                                                  fun x => some (MV.bool false)))
                                              (retF [] fun x => some (MV.bool false)) doneF))
theorem szP_app (a b : List (List Nat)) : szP (a ++ b) = szP a + szP b := by
  unfold szP
  rw [List.flatten_append, List.length_append, List.length_append]; omega
theorem grow_ok {f m : Nat} (hf : f ≠ 46) {w w' : Way} (hw : WOk m w) (h : w' ∈ grow f w) : WOk (m + 8) w' := by
  unfold grow at h
  obtain ⟨n, hn, rfl⟩ := List.mem_map.1 h
  have hn4 : n ∈ names4 := (List.mem_filter.1 hn).1
  have hn46 : n ≠ 46 := by
    intro e; subst e
    exact absurd hn4 (by decide)
  refine ⟨by intro h; exact absurd (congrArg List.length h) (by simp), fun p hp => ?_, ?_, ?_⟩
  · rcases List.mem_append.1 hp with hp | hp
    · rcases List.mem_append.1 hp with hp | hp
      · exact hw.dot p hp
      · rw [List.mem_singleton.1 hp]
        intro h; exact hn46 (List.mem_singleton.1 h).symm
    · rw [List.mem_singleton.1 hp]
      intro h; exact hf (List.mem_singleton.1 h).symm
  · have := hw.sz
    show szP (w.ps ++ [[n]] ++ [[f]]) ≤ m + 8
    rw [szP_app, szP_app]
    show szP w.ps + 4 + 4 ≤ _
    omega
  · have := hw.ul
    show (w.u ++ [n]).length ≤ m + 8
    rw [List.length_append]
    show w.u.length + 1 ≤ _
    omega
noncomputable def nextW (line : List Nat) (a b f : Nat) (W : List Way) : List Way := (W.flatMap (grow f)).filter fun w => pF w.ps ((line.drop a).take (b + 1 - a))
theorem abc_item {h : List Sl → Option MV} {ρ : List Sl} {i : Nat} (hi : i < 5) (h1 : h ρ = some (natV i)) : bin2 itemOp (fun x => some (MV.str [97, 98, 99, 100, 101])) h ρ = some (.str [97 + i]) := by
  refine bin2_eq rfl h1 ?_
  match i, hi with
  | 0, _ => rfl
  | 1, _ => rfl
  | 2, _ => rfl
  | 3, _ => rfl
  | 4, _ => rfl
noncomputable def sidesV (sides : List (List Int)) : MV := .list (sides.map fun r => .list (r.map .int))
theorem gap_is (line : List Nat) (hline : line.length ≤ 1000) (sides : List (List Int)) (hs : sides.length ≤ 10) (hr : ∀ r ∈ sides, r.length ≤ 10) (start gap a b : Nat) (hst : start < 5) (hgap : gap < 5) (ha : findL [97 + start] line = some a) (hb : findL [97 + gap] line = some b)
    (W : List Way) (m : Nat) (hm : m ≤ 192) (hW : ∀ w ∈ W, WOk m w) (hWl : W.length ≤ 100) (r : List Int) (hsr : sides[start]? = some r) (hrg : r[gap + 1]? = some (((nextW line a b (97 + gap) W).length : Nat) : Int)) (z0 z1 z2 z3 z4 z6 z7 z9 z10 z12 z15 z16 z17 z18 z19 : Sl) :
    ∃ y15 y16 y17, gapBody [z0, z1, z2, z3, z4, .v (.str line), z6, z7, .v (natV start), z9, z10, .v (sidesV sides), z12, .v (.list (W.map wayV)), .v (natV gap), z15, z16, z17, z18, z19] =
      some (.next, [z0, z1, z2, z3, z4, .v (.str line), z6, z7, .v (natV start), z9, z10, .v (sidesV sides), z12, .v (.list ((nextW line a b (97 + gap) W).map wayV)), .v (natV gap), y15, y16, y17, z18, z19]) := by
  have hlim : (21000 : Nat) < lim := by decide
  have hgl : (W.flatMap (grow (97 + gap))).length ≤ 4 * W.length := by
    clear hW hrg
    induction W with
    | nil => exact Nat.le_refl _
    | cons w W ih =>
      rw [List.flatMap_cons, List.length_append, List.length_cons]
      have hg : (grow (97 + gap) w).length ≤ 4 := by
        unfold grow
        rw [List.length_map]
        exact List.length_filter_le _ _
      have := ih (by rw [List.length_cons] at hWl; omega)
      omega
  have hnl : (nextW line a b (97 + gap) W).length ≤ 400 := by
    have : (nextW line a b (97 + gap) W).length ≤ (W.flatMap (grow (97 + gap))).length := List.length_filter_le _ _
    omega
  refine ⟨.v (.str [97 + gap]), .v (.str ((line.drop a).take (b + 1 - a))), .v (.list ((W.flatMap (grow (97 + gap))).map wayV)), ?_⟩
  refine seqF_next (ρ₁ := [z0, z1, z2, z3, z4, .v (.str line), z6, z7, .v (natV start), z9, z10, .v (sidesV sides), z12, .v (.list (W.map wayV)), .v (natV gap), .v (.str [97 + gap]), z16, z17, z18, z19]) (setF_eq (abc_item hgap rfl)) ?_
  refine seqF_next (ρ₁ := [z0, z1, z2, z3, z4, .v (.str line), z6, z7, .v (natV start), z9, z10, .v (sidesV sides), z12, .v (.list (W.map wayV)), .v (natV gap), .v (.str [97 + gap]), .v (.str ((line.drop a).take (b + 1 - a))), z17, z18, z19]) (setF_eq ?_) ?_
  · refine sliceF_eq (x := .str line) (lo := some (a : Int)) (hi := some ((b + 1 : Nat) : Int)) rfl (partF_eq (bin2_eq (a := .str line) (b := .str [97 + start]) rfl (abc_item hst rfl) ?_)) (partF_eq (add_nat (a := b) (b := 1) (bin2_eq (a := .str line) (b := .str [97 + gap]) rfl rfl ?_) rfl)) ?_
    · show (findL [97 + start] line).map (fun k => MV.int (Int.ofNat k)) = _
      rw [ha]; rfl
    · show (findL [97 + gap] line).map (fun k => MV.int (Int.ofNat k)) = _
      rw [hb]; rfl
    · show (if line.length ≤ lim then some (MV.str (cut line (some (a : Int)) (some ((b + 1 : Nat) : Int)))) else none) = _
      rw [if_pos (by omega), cut_natG]
  obtain ⟨a', b', c', e⟩ := grow_all (97 + gap) m (by omega) W [] .un .un .un hW (by show 0 + _ ≤ _; omega)
  rw [List.nil_append] at e
  refine seqF_next (ρ₁ := [z0, z1, z2, z3, z4, .v (.str line), z6, z7, .v (natV start), z9, z10, .v (sidesV sides), z12, .v (.list (W.map wayV)), .v (natV gap), .v (.str [97 + gap]), .v (.str ((line.drop a).take (b + 1 - a))), .v (.list ((W.flatMap (grow (97 + gap))).map wayV)), z18, z19]) (setCF_eq (compN_eq (xs := W.map wayV) rfl e)) ?_
  have hpart : ((line.drop a).take (b + 1 - a)).length ≤ 1000 := by
    rw [List.length_take, List.length_drop]; omega
  refine seqF_next (ρ₁ := [z0, z1, z2, z3, z4, .v (.str line), z6, z7, .v (natV start), z9, z10, .v (sidesV sides), z12, .v (.list ((nextW line a b (97 + gap) W).map wayV)), .v (natV gap), .v (.str [97 + gap]), .v (.str ((line.drop a).take (b + 1 - a))), .v (.list ((W.flatMap (grow (97 + gap))).map wayV)), z18, z19]) (setCF_eq (v := (nextW line a b (97 + gap) W).map wayV) ?_) (iteF_f ?_ rfl)
  · refine (compN_filter (xs := (W.flatMap (grow (97 + gap))).map wayV) (h := fun x => x) (p := fun x => match x with | .list [.str t, _] => eMatch t ((line.drop a).take (b + 1 - a)) | _ => false) (valI_eq rfl rfl) rfl (fun x hx => ?_) (by rw [List.length_map]; omega)).trans ?_
    · obtain ⟨w, hw, rfl⟩ := List.mem_map.1 hx
      obtain ⟨v, hv, hvw⟩ := List.mem_flatMap.1 hw
      have hwo := grow_ok (f := 97 + gap) (by omega) (hW v hv) hvw
      have hj := Nat.le_trans (join_len2 w.ps) hwo.sz
      refine ⟨?_, fun u0 => rfl⟩
      refine cmp2_eq (a := .bool (eMatch (joinL dots w.ps) ((line.drop a).take (b + 1 - a)))) (b := .bool true) (appF_eq (consF_eq (a := .str (joinL dots w.ps)) rfl (consF_eq rfl rfl)) (fn_ellipsis_is _ _ (by omega) (by omega))) rfl ?_
      show some (eMatch (joinL dots w.ps) ((line.drop a).take (b + 1 - a)) == true) = some (eMatch (joinL dots w.ps) ((line.drop a).take (b + 1 - a)))
      cases eMatch (joinL dots w.ps) ((line.drop a).take (b + 1 - a)) <;> rfl
    · rw [List.map_id', List.filter_map]
      refine congrArg some (congrArg (List.map wayV) ?_)
      unfold nextW
      refine List.filter_congr fun w hw => ?_
      obtain ⟨v, hv, hvw⟩ := List.mem_flatMap.1 hw
      have hwo := grow_ok (f := 97 + gap) (by omega) (hW v hv) hvw
      show eMatch (joinL dots w.ps) ((line.drop a).take (b + 1 - a)) = _
      rw [eMatch_pM _ _ hwo.ne hwo.dot, pF_is]
  · refine cmp2_eq (a := natV (nextW line a b (97 + gap) W).length) (b := natV (nextW line a b (97 + gap) W).length) (app1_eq rfl ?_) (item_at (xs := r.map .int) (i := gap + 1) (item_at (xs := sides.map fun r => .list (r.map .int)) (i := start) rfl rfl (by rw [List.length_map]; omega) ?_) (add_nat (a := gap) (b := 1) rfl rfl) ?_ ?_) ?_
    · show (if ((nextW line a b (97 + gap) W).map wayV).length ≤ lim then some (MV.int ((nextW line a b (97 + gap) W).map wayV).length) else none) = _
      rw [List.length_map, if_pos (by omega)]; rfl
    · rw [List.getElem?_map, hsr]; rfl
    · rw [List.length_map]
      have := hr r (List.mem_of_getElem? hsr)
      omega
    · rw [List.getElem?_map, hrg]; rfl
    · show (some (((nextW line a b (97 + gap) W).length : Int) == ((nextW line a b (97 + gap) W).length : Int))).map (!·) = _
      rw [beq_self_eq_true]; rfl
theorem joinL_cons0 (ps : List (List Nat)) (h : ps ≠ []) : joinL dots ([] :: ps) = dots ++ joinL dots ps := by
  cases ps with
  | nil => exact absurd rfl h
  | cons y ys => rfl
theorem snoc_ne {α : Type} (xs : List α) (y : α) : xs ++ [y] ≠ [] := by
  intro h
  have := congrArg List.length h
  rw [List.length_append] at this
  exact absurd this (by simp)
structure WEnd (line : List Nat) (w : Way) : Prop where
  both : pF ([] :: (w.ps ++ [[]])) line = true
  back : pF (w.ps ++ [[]]) line = false
  front : pF ([] :: w.ps) line = false
theorem way_is (line : List Nat) (hline : line.length ≤ 1000) (w : Way) (m : Nat) (hm : m ≤ 200) (hw : WOk m w) (he : WEnd line w) (z0 z1 z2 z3 z4 z6 z7 z8 z9 z10 z11 z12 z13 z14 z15 z16 z17 u : Sl) :
    wayBody [z0, z1, z2, z3, z4, .v (.str line), z6, z7, z8, z9, z10, z11, z12, z13, z14, z15, z16, z17, .v (.str (joinL dots w.ps)), u] = some (.next, [z0, z1, z2, z3, z4, .v (.str line), z6, z7, z8, z9, z10, z11, z12, z13, z14, z15, z16, z17, .v (.str (joinL dots w.ps)), u]) := by
  have hj := Nat.le_trans (Nat.le_trans (join_len2 w.ps) hw.sz) hm
  have hsz := Nat.le_trans hw.sz hm
  have nil46 : (46 : Nat) ∉ ([] : List Nat) := List.not_mem_nil
  have d1 : ∀ p ∈ w.ps ++ [[]], 46 ∉ p := fun p hp => (List.mem_append.1 hp).elim (hw.dot p) fun q => by rw [List.mem_singleton.1 q]; exact nil46
  have d2 : ∀ p ∈ [] :: w.ps, 46 ∉ p := fun p hp => (List.mem_cons.1 hp).elim (fun q => by rw [q]; exact nil46) (hw.dot p)
  have d3 : ∀ p ∈ [] :: (w.ps ++ [[]]), 46 ∉ p := fun p hp => (List.mem_cons.1 hp).elim (fun q => by rw [q]; exact nil46) (d1 p)
  have e1 : szP (w.ps ++ [[]]) ≤ 203 := by rw [szP_app]; show _ + 3 ≤ _; omega
  have e2 : szP ([] :: w.ps) ≤ 203 := by
    have := szP_app [[]] w.ps
    have h3 : szP [[]] = 3 := rfl
    show szP ([[]] ++ w.ps) ≤ _
    omega
  have e3 : szP ([] :: (w.ps ++ [[]])) ≤ 206 := by
    have := szP_app [[]] (w.ps ++ [[]])
    have h3 : szP [[]] = 3 := rfl
    show szP ([[]] ++ (w.ps ++ [[]])) ≤ _
    omega
  have m3 := match_is _ line (by nofun) d3 (up_le e3 rfl) hline
  have m1 := match_is _ line (snoc_ne w.ps []) d1 (up_le e1 rfl) hline
  have m2 := match_is _ line (by nofun) d2 (up_le e2 rfl) hline
  rw [he.both, joinL_cons0 _ (snoc_ne w.ps []), joinL_snoc _ _ hw.ne, List.append_nil, ← List.append_assoc] at m3
  rw [he.back, joinL_snoc _ _ hw.ne, List.append_nil] at m1
  rw [he.front, joinL_cons0 _ hw.ne] at m2
  have a1 : ∀ ρ : List Sl, getH ρ 18 = some (.str (joinL dots w.ps)) → bin2 (binOp Operator.Add) (fun x => some (MV.str [46, 46, 46])) (fun ρ => getH ρ 18) ρ = some (.str (dots ++ joinL dots w.ps)) := fun ρ h => add_str (a := dots) rfl h (Nat.le_of_ble_eq_true rfl) (up_le hj rfl)
  refine seqF_next (iteF_f (cmp2_eq (a := .bool true) (b := .bool true) (appF_eq (consF_eq (add_str (b := dots) (a1 _ rfl) rfl (len2 3 200 (Nat.le_refl 3) hj rfl) (Nat.le_of_ble_eq_true rfl)) (consF_eq rfl rfl)) m3) rfl rfl) rfl) ?_
  exact iteF_f (orT_eq (b := false) (c := false) (cmp2_eq (a := .bool false) (b := .bool false) (appF_eq (consF_eq (add_str (a := joinL dots w.ps) (b := dots) rfl rfl (up_le hj rfl) (Nat.le_of_ble_eq_true rfl)) (consF_eq rfl rfl)) m1) rfl rfl)
    fun u0 => cmp2_eq (a := .bool false) (b := .bool false) (appF_eq (consF_eq (a1 _ rfl) (consF_eq rfl rfl)) m2) rfl rfl) rfl
theorem ways_is (line : List Nat) (hline : line.length ≤ 1000) (m : Nat) (hm : m ≤ 200) (z0 z1 z2 z3 z4 z6 z7 z8 z9 z10 z11 z12 z13 z14 z15 z16 z17 : Sl) : ∀ (W : List Way) (y18 y19 : Sl), (∀ w ∈ W, WOk m w ∧ WEnd line w) →
    ∃ x18 x19, forL (tTup [18, 19]) wayBody (W.map wayV) [z0, z1, z2, z3, z4, .v (.str line), z6, z7, z8, z9, z10, z11, z12, z13, z14, z15, z16, z17, y18, y19] = some (.next, [z0, z1, z2, z3, z4, .v (.str line), z6, z7, z8, z9, z10, z11, z12, z13, z14, z15, z16, z17, x18, x19])
  | [], y18, y19, _ => ⟨y18, y19, rfl⟩
  | w :: W, y18, y19, h => by
    obtain ⟨h1, h2⟩ := h w (List.mem_cons_self ..)
    obtain ⟨x18, x19, e⟩ := ways_is line hline m hm z0 z1 z2 z3 z4 z6 z7 z8 z9 z10 z11 z12 z13 z14 z15 z16 z17 W (.v (.str (joinL dots w.ps))) (.v (.str w.u)) fun v hv => h v (List.mem_cons_of_mem _ hv)
    exact ⟨x18, x19, forL_next rfl (way_is line hline w m hm h1 h2 ..) e⟩
noncomputable def chkF : List Bool → Nat → Bool
  | [], 0 => true
  | [], _ + 1 => false
  | true :: bs, d => chkF bs (d + 1)
  | false :: _, 0 => false
  | false :: bs, d + 1 => chkF bs d
noncomputable def bt (b : Bool) : List Nat := [if b then 40 else 41]
theorem bt_ne (b : Bool) : bt b ≠ [34] := by cases b <;> decide
theorem K0_bts (bs : List Bool) : K0 none (bs.map bt) = bs.map bt := K0_none _ fun t ht => by
  obtain ⟨b, _, rfl⟩ := List.mem_map.1 ht
  exact bt_ne b
theorem K0_someB : ∀ (bs : List Bool) (q : List (List Nat)), K0 (some q) (bs.map bt) = q ++ bs.map bt
  | [], q => by rw [List.map_nil, K0, List.append_nil]
  | b :: bs, q => by rw [List.map_cons, K0, if_neg (bt_ne b), K0_someB bs, List.append_assoc]; rfl
theorem dcN_step (t : List Nat) {X Y : List (List Nat)} (h : ∀ d, dcN d X = dcN d Y) : ∀ d, dcN d (t :: X) = dcN d (t :: Y) := fun d => by
  rw [dcN_cons, dcN_cons]
  split
  · exact h _
  · split
    · cases d with
      | zero => rfl
      | succ d => exact h d
    · exact h d
theorem full_bt (b : Bool) : ∃ c, bt b = [c] ∧ c ≠ 92 := ⟨if b then 40 else 41, rfl, by cases b <;> decide⟩
theorem chkF_is : ∀ (bs : List Bool) (d : Nat), (dcN d (bs.map bt) == some 0) = chkF bs d
  | [], 0 => rfl
  | [], d + 1 => rfl
  | true :: bs, d => by
    rw [List.map_cons, dcN_cons, chkF]
    exact chkF_is bs (d + 1)
  | false :: bs, 0 => rfl
  | false :: bs, d + 1 => by
    rw [List.map_cons, dcN_cons, chkF]
    exact chkF_is bs d
structure In1 (T : List (List Nat)) : Prop where
  mk ::
  full : Full T
  k : ∀ d X, dcN d (K0 none (T ++ X)) = dcN d (K0 none X)
theorem In1.app {T U : List (List Nat)} (h : In1 T) (g : In1 U) : In1 (T ++ U) := ⟨fun t ht => (List.mem_append.1 ht).elim (h.full t) (g.full t), fun d X => by rw [List.append_assoc, h.k, g.k]⟩
theorem in_nil : In1 [] := ⟨fun t ht => (by cases ht), fun d X => rfl⟩
theorem in_one (c : Nat) (h1 : c ≠ 92) (h2 : c ≠ 34) (h3 : c ≠ 40) (h4 : c ≠ 41) : In1 [[c]] := ⟨fun t ht => .inl ⟨c, List.mem_singleton.1 ht, h1⟩, fun d X => by
  rw [List.singleton_append, K0, if_neg (fun e => h2 (List.cons.inj e).1), dcN_cons, if_neg (fun e => h3 (List.cons.inj e).1), if_neg (fun e => h4 (List.cons.inj e).1)]⟩
theorem in_two (a : Nat) : In1 [[92, a]] := ⟨fun t ht => .inr ⟨a, List.mem_singleton.1 ht⟩, fun d X => by
  show dcN d ([92, a] :: K0 none X) = _
  rw [dcN_cons, if_neg (by nofun), if_neg (by nofun)]⟩
theorem in_drop (a : Nat) (h : a ≠ 92) (h2 : [a] ≠ [34]) : In1 [[34], [a], [34]] := ⟨fun t ht => by
  rcases List.mem_cons.1 ht with rfl | ht
  · exact .inl ⟨34, rfl, by decide⟩
  · rcases List.mem_cons.1 ht with rfl | ht
    · exact .inl ⟨a, rfl, h⟩
    · exact .inl ⟨34, List.mem_singleton.1 ht, by decide⟩, fun d X => by
  have e : K0 (some [[34]]) ([a] :: [34] :: X) = K0 none X := by rw [K0, if_neg h2]; rfl
  show dcN d (K0 (some [[34]]) ([a] :: [34] :: X)) = _
  rw [e]⟩
theorem in_front : In1 [[34], [92, 34], [41], [34]] := ⟨fun t ht => by
  rcases List.mem_cons.1 ht with rfl | ht
  · exact .inl ⟨34, rfl, by decide⟩
  · rcases List.mem_cons.1 ht with rfl | ht
    · exact .inr ⟨34, rfl⟩
    · rcases List.mem_cons.1 ht with rfl | ht
      · exact .inl ⟨41, rfl, by decide⟩
      · exact .inl ⟨34, List.mem_singleton.1 ht, by decide⟩, fun d X => rfl⟩
theorem in_things (i : Nat) (hi : i < 8) : In1 (things1.getD i []) := by
  match i, hi with
  | 0, _ => exact in_nil
  | 1, _ => exact in_two 41
  | 2, _ => exact in_drop 40 (by decide) (by decide)
  | 3, _ => exact in_two 92
  | 4, _ => exact in_two 34
  | 5, _ => exact in_drop 41 (by decide) (by decide)
  | 6, _ => exact in_front
  | 7, _ => exact in_two 40
noncomputable def facT (i₁ i₂ : Nat) (T₁ T₂ : List (List Nat)) (j : Nat) : List (List Nat) := ([[97 + j]] ++ if j = i₁ then T₁ else []) ++ if j = i₂ then T₂ else []
theorem in_fac {i₁ i₂ : Nat} {T₁ T₂ : List (List Nat)} (h1 : In1 T₁) (h2 : In1 T₂) (j : Nat) (hj : j < 5) : In1 (facT i₁ i₂ T₁ T₂ j) := by
  unfold facT
  refine In1.app (In1.app (in_one (97 + j) (by omega) (by omega) (by omega) (by omega)) ?_) ?_
  · split
    · exact h1
    · exact in_nil
  · split
    · exact h2
    · exact in_nil
noncomputable def brC (c : List Nat) : Option Bool := if c = [40] then some true else if c = [41] then some false else none
noncomputable def toC (F : Nat → List (List Nat)) (m : List (List Nat)) (c : List Nat) : List (List Nat) := match brC c with
  | some b => [bt b]
  | none => F (c.headD 0 - 1000) ++ if c = [1004] then m else []
noncomputable def okC : List (List Nat) → Bool
  | [] => true
  | c :: S => (match brC c with
    | some _ => true
    | none => (c.length == 1 && Nat.ble 1000 (c.headD 0) && Nat.ble (c.headD 0) 1004 && (c != [1004] || S.all fun x => (brC x).isSome))) && okC S
theorem all_br : ∀ S : List (List Nat), S.all (fun x => (brC x).isSome) = true → ∀ (F : Nat → List (List Nat)) (m : List (List Nat)), (S.map (toC F m)).flatten = (S.filterMap brC).map bt
  | [], _, F, m => rfl
  | c :: S, h, F, m => by
    rw [List.all_cons, Bool.and_eq_true] at h
    have ih := all_br S h.2 F m
    rw [List.map_cons, List.flatten_cons, ih]
    cases hb : brC c with
    | none => rw [hb] at h; cases h.1
    | some b =>
      rw [List.filterMap_cons, hb]
      unfold toC
      rw [hb]; rfl
theorem sim_codes {F : Nat → List (List Nat)} {m : List (List Nat)} (hF : ∀ j, j < 5 → In1 (F j)) (hm : m = [] ∨ m = [[34]]) : ∀ S : List (List Nat), okC S = true → ∀ d, dcN d (K0 none (S.map (toC F m)).flatten) = dcN d ((S.filterMap brC).map bt)
  | [], _ => fun d => rfl
  | c :: S, h => fun d => by
    rw [okC, Bool.and_eq_true] at h
    obtain ⟨h1, h2⟩ := h
    have ih := sim_codes hF hm S h2
    rw [List.map_cons, List.flatten_cons, List.filterMap_cons]
    cases hb : brC c with
    | some b =>
      have e : toC F m c = [bt b] := by unfold toC; rw [hb]
      rw [e]
      show dcN d (K0 none (bt b :: (S.map (toC F m)).flatten)) = dcN d (bt b :: (S.filterMap brC).map bt)
      rw [K0, if_neg (bt_ne b)]
      exact dcN_step _ ih d
    | none =>
      rw [hb] at h1
      simp only [Bool.and_eq_true] at h1
      obtain ⟨⟨⟨_, q2⟩, q3⟩, q4⟩ := h1
      have q2 := Nat.le_of_ble_eq_true q2
      have q3 := Nat.le_of_ble_eq_true q3
      have e : toC F m c = F (c.headD 0 - 1000) ++ if c = [1004] then m else [] := by unfold toC; rw [hb]
      rw [e, List.append_assoc, (hF _ (by omega)).k]
      show dcN d (K0 none ((if c = [1004] then m else []) ++ (S.map (toC F m)).flatten)) = dcN d ((S.filterMap brC).map bt)
      by_cases hc : c = [1004]
      · rw [if_pos hc]
        rw [hc] at q4
        have q4 : S.all (fun x => (brC x).isSome) = true := by simpa using q4
        rw [all_br S q4 F m]
        rcases hm with rfl | rfl
        · rw [List.nil_append, K0_bts]
        · show dcN d (K0 (some [[34]]) ((S.filterMap brC).map bt)) = _
          rw [K0_someB, List.singleton_append, dcN_cons, if_neg (by decide), if_neg (by decide)]
      · rw [if_neg hc]
        exact ih d
theorem full_codes {F : Nat → List (List Nat)} {m : List (List Nat)} (hF : ∀ j, j < 5 → In1 (F j)) (hm : m = [] ∨ m = [[34]]) : ∀ S : List (List Nat), okC S = true → Full (S.map (toC F m)).flatten
  | [], _ => fun t ht => by cases ht
  | c :: S, h => fun t ht => by
    rw [okC, Bool.and_eq_true] at h
    obtain ⟨h1, h2⟩ := h
    rw [List.map_cons, List.flatten_cons] at ht
    rcases List.mem_append.1 ht with ht | ht
    · unfold toC at ht
      cases hb : brC c with
      | some b => rw [hb] at ht; rw [List.mem_singleton.1 ht]; exact .inl (full_bt b)
      | none =>
        rw [hb] at ht h1
        simp only [Bool.and_eq_true] at h1
        obtain ⟨⟨⟨_, q2⟩, q3⟩, q4⟩ := h1
        have q2 := Nat.le_of_ble_eq_true q2
        have q3 := Nat.le_of_ble_eq_true q3
        rcases List.mem_append.1 ht with ht | ht
        · exact (hF _ (by omega)).full t ht
        · split at ht
          · rcases hm with rfl | rfl
            · cases ht
            · exact .inl ⟨34, List.mem_singleton.1 ht, by decide⟩
          · cases ht
    · exact full_codes hF hm S h2 t ht
noncomputable def takenIn : List Sl → Option (Fl × List Sl) :=
(iteF
                    (andT
                      (cmp2 CmpOp.Eq (bin2 itemOp (fun ρ => getH ρ 0) fun ρ => getV ρ 3) fun x => some (MV.str [40]))
                      (cmp2 CmpOp.Eq (bin2 itemOp (fun ρ => getH ρ 0) fun ρ => getV ρ 5) fun x => some (MV.str [41])))
                    (seqF
                      (setF 6
                        (appF fn_check_parenthesis
                          (consF
                            (bin2 mJoin (fun x => some (MV.str []))
                              (sliceF (fun ρ => getH ρ 0)
                                (partF (bin2 (binOp Operator.Add) (fun ρ => getH ρ 3) fun x => some (MV.int 1)))
                                (partF fun ρ => getV ρ 5)))
                            nilF)))
                      (iteF (cmp2 CmpOp.Is (fun ρ => getH ρ 6) fun x => some (MV.bool true))
                        (appendF 1 (ofN (listN (consF (fun ρ => getV ρ 2) (consF (fun ρ => getV ρ 4) nilF)))))
                        (iteF (cmp2 CmpOp.IsNot (fun ρ => getH ρ 6) fun x => some (MV.bool false))
                          (retF [] (ofN (listN nilF))) doneF)))
                    (iteF
                      (cmp2 CmpOp.NotIn (bin2 itemOp (fun ρ => getH ρ 0) fun ρ => getV ρ 5) fun x =>
                        some (MV.str [40, 41]))
                      (augF 4 Operator.Add fun x => some (MV.int 1)) doneF))
noncomputable def takenOut : List Sl → Option (Fl × List Sl) :=
(seqF (setF 4 fun ρ => getV ρ 2)
              (seqF
                (forF
                  (range2I (bin2 (binOp Operator.Add) (fun ρ => getH ρ 3) fun x => some (MV.int 1))
                    (app1 bLen fun ρ => getH ρ 0))
                  (tName 5)
                  (iteF
                    (andT
                      (cmp2 CmpOp.Eq (bin2 itemOp (fun ρ => getH ρ 0) fun ρ => getV ρ 3) fun x => some (MV.str [40]))
                      (cmp2 CmpOp.Eq (bin2 itemOp (fun ρ => getH ρ 0) fun ρ => getV ρ 5) fun x => some (MV.str [41])))
                    (seqF
                      (setF 6
                        (appF fn_check_parenthesis
                          (consF
                            (bin2 mJoin (fun x => some (MV.str []))
                              (sliceF (fun ρ => getH ρ 0)
                                (partF (bin2 (binOp Operator.Add) (fun ρ => getH ρ 3) fun x => some (MV.int 1)))
                                (partF fun ρ => getV ρ 5)))
                            nilF)))
                      (iteF (cmp2 CmpOp.Is (fun ρ => getH ρ 6) fun x => some (MV.bool true))
                        (appendF 1 (ofN (listN (consF (fun ρ => getV ρ 2) (consF (fun ρ => getV ρ 4) nilF)))))
                        (iteF (cmp2 CmpOp.IsNot (fun ρ => getH ρ 6) fun x => some (MV.bool false))
                          (retF [] (ofN (listN nilF))) doneF)))
                    (iteF
                      (cmp2 CmpOp.NotIn (bin2 itemOp (fun ρ => getH ρ 0) fun ρ => getV ρ 5) fun x =>
                        some (MV.str [40, 41]))
                      (augF 4 Operator.Add fun x => some (MV.int 1)) doneF)))
                (iteF
                  (cmp2 CmpOp.NotIn (bin2 itemOp (fun ρ => getH ρ 0) fun ρ => getV ρ 3) fun x => some (MV.str [40, 41]))
                  (augF 2 Operator.Add fun x => some (MV.int 1)) doneF)))
theorem okC_drop : ∀ (n : Nat) (S : List (List Nat)), okC S = true → okC (S.drop n) = true
  | 0, _, h => h
  | _ + 1, [], _ => rfl
  | n + 1, c :: S, h => by
    rw [okC, Bool.and_eq_true] at h
    exact okC_drop n S h.2
theorem okC_take : ∀ (n : Nat) (S : List (List Nat)), okC S = true → okC (S.take n) = true
  | 0, _, _ => rfl
  | _ + 1, [], _ => rfl
  | n + 1, c :: S, h => by
    rw [okC, Bool.and_eq_true] at h
    rw [List.take_succ_cons, okC, Bool.and_eq_true]
    refine ⟨?_, okC_take n S h.2⟩
    cases hb : brC c with
    | some b => rfl
    | none =>
      have h1 := h.1
      rw [hb] at h1
      simp only [Bool.and_eq_true, Bool.or_eq_true] at h1 ⊢
      refine ⟨h1.1, h1.2.imp id fun q => ?_⟩
      rw [List.all_eq_true] at q ⊢
      exact fun x hx => q x (List.mem_of_mem_take hx)
theorem okC_mem : ∀ (S : List (List Nat)), okC S = true → ∀ c ∈ S, brC c = none → ∃ j, j < 5 ∧ c = [1000 + j]
  | c :: S, h, d, hd, hb => by
    rw [okC, Bool.and_eq_true] at h
    rcases List.mem_cons.1 hd with rfl | hd
    · have h1 := h.1
      rw [hb] at h1
      simp only [Bool.and_eq_true] at h1
      obtain ⟨⟨⟨q1, q2⟩, q3⟩, _⟩ := h1
      have q1 := eq_of_beq q1
      have q2 := Nat.le_of_ble_eq_true q2
      have q3 := Nat.le_of_ble_eq_true q3
      match d, q1 with
      | [x], _ =>
        have a1 : 1000 ≤ x := q2
        have a2 : x ≤ 1004 := q3
        exact ⟨x - 1000, by omega, by rw [show 1000 + (x - 1000) = x by omega]⟩
    · exact okC_mem S h.2 d hd hb
noncomputable def txC (F : Nat → List (List Nat)) (m : List (List Nat)) (c : List Nat) : List Nat := (toC F m c).flatten
theorem txC_br {F : Nat → List (List Nat)} {m : List (List Nat)} {c : List Nat} {b : Bool} (h : brC c = some b) : txC F m c = bt b := by
  unfold txC toC
  rw [h]
  show [bt b].flatten = _
  rw [List.flatten_cons, List.flatten_nil, List.append_nil]
theorem txC_fac {F : Nat → List (List Nat)} {m : List (List Nat)} {c : List Nat} (hH : ∀ j, ∃ r, (F j).flatten = (97 + j) :: r) (h : brC c = none) (hc : ∃ j, j < 5 ∧ c = [1000 + j]) : ∃ j r, txC F m c = (97 + j) :: r := by
  obtain ⟨j, _, rfl⟩ := hc
  obtain ⟨r, hr⟩ := hH (1000 + j - 1000)
  unfold txC toC
  rw [h]
  show ∃ j' r', (F (1000 + j - 1000) ++ _).flatten = _
  rw [List.flatten_append, hr]
  exact ⟨_, _, rfl⟩
theorem brC_cases (c : List Nat) : (c = [40] ∧ brC c = some true) ∨ (c = [41] ∧ brC c = some false) ∨ (c ≠ [40] ∧ c ≠ [41] ∧ brC c = none) := by
  unfold brC
  by_cases h : c = [40]
  · exact .inl ⟨h, by rw [if_pos h]⟩
  · by_cases h2 : c = [41]
    · exact .inr (.inl ⟨h2, by rw [if_neg h, if_pos h2]⟩)
    · exact .inr (.inr ⟨h, h2, by rw [if_neg h, if_neg h2]⟩)
structure RowOk (F : Nat → List (List Nat)) (m : List (List Nat)) (S : List (List Nat)) : Prop where
  fok : ∀ j, j < 5 → In1 (F j)
  hok : ∀ j, ∃ r, (F j).flatten = (97 + j) :: r
  mok : m = [] ∨ m = [[34]]
  ok : okC S = true
  len : S.length ≤ 40
  tl : ∀ c, (txC F m c).length ≤ 40
variable {F : Nat → List (List Nat)} {m S : List (List Nat)}
noncomputable def rowC (F : Nat → List (List Nat)) (m S : List (List Nat)) : List MV := S.map fun c => .str (txC F m c)
theorem rowC_item (R : RowOk F m S) {f h : List Sl → Option MV} {ρ : List Sl} {i : Nat} {c : List Nat} (h1 : f ρ = some (.list (rowC F m S))) (h2 : h ρ = some (natV i)) (hc : S[i]? = some c) : bin2 itemOp f h ρ = some (.str (txC F m c)) := by
  have := R.len
  refine item_at h1 h2 (by unfold rowC; rw [List.length_map]; omega) ?_
  unfold rowC
  rw [List.getElem?_map, hc]; rfl
theorem txC_eq (R : RowOk F m S) {c : List Nat} (hc : c ∈ S) (b : Bool) : cmpOp .Eq (.str (txC F m c)) (.str (bt b)) = some (c == bt b) := by
  show some (txC F m c == bt b) = _
  refine congrArg some ?_
  rcases brC_cases c with ⟨e, h⟩ | ⟨e, h⟩ | ⟨e1, e2, h⟩
  · rw [txC_br h, e]; cases b <;> rfl
  · rw [txC_br h, e]; cases b <;> rfl
  · obtain ⟨j, r, e⟩ := txC_fac (m := m) R.hok h (okC_mem S R.ok c hc h)
    rw [e]
    have n1 : ((97 + j) :: r == bt b) = false := by
      refine beq_eq_false_iff_ne.2 fun q => ?_
      have := (List.cons.inj q).1
      cases b <;> simp at this <;> omega
    rw [n1]
    cases b
    · exact (beq_eq_false_iff_ne.2 e2).symm
    · exact (beq_eq_false_iff_ne.2 e1).symm
theorem txC_in (R : RowOk F m S) {c : List Nat} (hc : c ∈ S) : cmpOp .NotIn (.str (txC F m c)) (.str [40, 41]) = some (brC c).isNone := by
  show some (!(findL (txC F m c) [40, 41]).isSome) = _
  refine congrArg some ?_
  rcases brC_cases c with ⟨e, h⟩ | ⟨e, h⟩ | ⟨e1, e2, h⟩
  · rw [txC_br h, h]; rfl
  · rw [txC_br h, h]; rfl
  · obtain ⟨j, r, e⟩ := txC_fac (m := m) R.hok h (okC_mem S R.ok c hc h)
    rw [e, h]
    have p1 : ((97 + j) :: r).isPrefixOf [40, 41] = false := by
      show ((97 + j == 40) && _) = false
      rw [beq_eq_false_iff_ne.2 (by omega)]; rfl
    have p2 : ((97 + j) :: r).isPrefixOf [41] = false := by
      show ((97 + j == 41) && _) = false
      rw [beq_eq_false_iff_ne.2 (by omega)]; rfl
    rw [findL, p1, findL, p2]; rfl
theorem flat_txC (S : List (List Nat)) : (S.map (txC F m)).flatten = (S.map (toC F m)).flatten.flatten := by
  induction S with
  | nil => rfl
  | cons c S ih => rw [List.map_cons, List.map_cons, List.flatten_cons, List.flatten_cons, List.flatten_append, ih]; rfl
theorem flat_le (R : RowOk F m S) : ∀ T : List (List Nat), (T.map (txC F m)).flatten.length ≤ 40 * T.length
  | [] => Nat.le_refl _
  | c :: T => by
    have := flat_le R T
    have := R.tl c
    rw [List.map_cons, List.flatten_cons, List.length_append, List.length_cons]
    omega
noncomputable def segC (S : List (List Nat)) (p q : Nat) : List (List Nat) := (S.drop (p + 1)).take (q - (p + 1))
theorem check_seg (R : RowOk F m S) (p q : Nat) : fn_check_parenthesis [.str ((segC S p q).map (txC F m)).flatten] = some (.bool (chkF ((segC S p q).filterMap brC) 0)) := by
  have hlim : (21000 : Nat) < lim := by decide
  have hok : okC (segC S p q) = true := okC_take _ _ (okC_drop _ _ R.ok)
  have hl := flat_le R (segC S p q)
  have hsl : (segC S p q).length ≤ 40 := by
    have := R.len
    unfold segC
    rw [List.length_take, List.length_drop]; omega
  have := fn_check_is ((segC S p q).map (toC F m)).flatten (full_codes R.fok R.mok _ hok) (by rw [← flat_txC]; omega)
  rw [← flat_txC, sim_codes R.fok R.mok _ hok, chkF_is] at this
  exact this
noncomputable def pairV (x : Nat × Nat) : MV := .list [natV x.1, natV x.2]
noncomputable def inStep (S : List (List Nat)) (p first : Nat) (st : Nat × List (Nat × Nat)) (q : Nat) : Nat × List (Nat × Nat) :=
  if (S.getD p [] == [40]) && (S.getD q [] == [41]) then (if chkF ((segC S p q).filterMap brC) 0 then (st.1, st.2 ++ [(first, st.1)]) else st)
  else if (brC (S.getD q [])).isNone then (st.1 + 1, st.2) else st
noncomputable def outStep (S : List (List Nat)) (st : Nat × List (Nat × Nat)) (p : Nat) : Nat × List (Nat × Nat) :=
  (if (brC (S.getD p [])).isNone then st.1 + 1 else st.1, (((List.range (S.length - (p + 1))).map (p + 1 + ·)).foldl (inStep S p st.1) (st.1, st.2)).2)
noncomputable def takenB (S : List (List Nat)) : List (Nat × Nat) := ((List.range S.length).foldl (outStep S) (0, [(0, 5)])).2
theorem getC {S : List (List Nat)} {i : Nat} (h : i < S.length) : S[i]? = some (S.getD i []) ∧ S.getD i [] ∈ S := by
  have e : S[i]? = some (S.getD i []) := by rw [List.getD_eq_getElem?_getD, List.getElem?_eq_getElem h]; rfl
  exact ⟨e, List.mem_of_getElem? e⟩
theorem inStep_len (S : List (List Nat)) (p first q : Nat) (st : Nat × List (Nat × Nat)) : (inStep S p first st q).2.length ≤ st.2.length + 1 := by
  unfold inStep
  split
  · split
    · rw [List.length_append]; exact Nat.le_refl _
    · exact Nat.le_succ _
  · split <;> exact Nat.le_succ _
theorem takenIn_is (R : RowOk F m S) (p q first : Nat) (hp : p < S.length) (hq : q < S.length) (st : Nat × List (Nat × Nat)) (hl : st.2.length ≤ 20000) (z6 : Sl) :
    ∃ y6, takenIn [.v (.list (rowC F m S)), .m (st.2.map pairV), .v (natV first), .v (natV p), .v (natV st.1), .v (natV q), z6] = some (.next, [.v (.list (rowC F m S)), .m ((inStep S p first st q).2.map pairV), .v (natV first), .v (natV p), .v (natV (inStep S p first st q).1), .v (natV q), y6]) := by
  have hlim : (21000 : Nat) < lim := by decide
  obtain ⟨ep, mp⟩ := getC hp
  obtain ⟨eq, mq⟩ := getC hq
  have hlen := R.len
  have t1 : cmp2 CmpOp.Eq (bin2 itemOp (fun ρ => getH ρ 0) fun ρ => getV ρ 3) (fun x => some (MV.str [40])) [Sl.v (.list (rowC F m S)), .m (st.2.map pairV), .v (natV first), .v (natV p), .v (natV st.1), .v (natV q), z6] = some (S.getD p [] == [40]) :=
    cmp2_eq (rowC_item R rfl rfl ep) rfl (txC_eq R mp true)
  have t2 : cmp2 CmpOp.Eq (bin2 itemOp (fun ρ => getH ρ 0) fun ρ => getV ρ 5) (fun x => some (MV.str [41])) [Sl.v (.list (rowC F m S)), .m (st.2.map pairV), .v (natV first), .v (natV p), .v (natV st.1), .v (natV q), z6] = some (S.getD q [] == [41]) :=
    cmp2_eq (rowC_item R rfl rfl eq) rfl (txC_eq R mq false)
  have t3 := andT_eq t1 fun u0 => t2
  have t4 : cmp2 CmpOp.NotIn (bin2 itemOp (fun ρ => getH ρ 0) fun ρ => getV ρ 5) (fun x => some (MV.str [40, 41])) [Sl.v (.list (rowC F m S)), .m (st.2.map pairV), .v (natV first), .v (natV p), .v (natV st.1), .v (natV q), z6] = some (brC (S.getD q [])).isNone :=
    cmp2_eq (rowC_item R rfl rfl eq) rfl (txC_in R mq)
  have hsegL : ((segC S p q).map (txC F m)).flatten.length ≤ 1600 := by
    have h1 := flat_le R (segC S p q)
    have h2 : (segC S p q).length ≤ 40 := by
      unfold segC
      rw [List.length_take, List.length_drop]; omega
    omega
  unfold inStep
  by_cases hb : ((S.getD p [] == [40]) && (S.getD q [] == [41])) = true
  · rw [if_pos hb]
    refine ⟨.v (.bool (chkF ((segC S p q).filterMap brC) 0)), ?_⟩
    rw [hb] at t3
    refine iteF_t t3 ?_
    refine seqF_next (ρ₁ := [.v (.list (rowC F m S)), .m (st.2.map pairV), .v (natV first), .v (natV p), .v (natV st.1), .v (natV q), .v (.bool (chkF ((segC S p q).filterMap brC) 0))]) (setF_eq (appF_eq (consF_eq (a := .str ((segC S p q).map (txC F m)).flatten) ?_ rfl) (check_seg R p q))) ?_
    · refine bin2_eq (a := .str []) (b := .list (((segC S p q).map (txC F m)).map .str)) rfl ((slice_list (xs := rowC F m S) (lo := some ((p + 1 : Nat) : Int)) (hi := some (q : Int)) rfl (partF_eq (add_nat (a := p) (b := 1) rfl rfl)) (partF_eq (i := (q : Int)) rfl) (by unfold rowC; rw [List.length_map]; omega)).trans ?_) ?_
      · rw [cut_natG]
        unfold rowC segC
        rw [← List.map_drop, ← List.map_take, List.map_map]; rfl
      · show ((strsOf (((segC S p q).map (txC F m)).map .str)).bind fun l => if fitJ [] l then some (MV.str (joinL [] l)) else none) = _
        rw [strsOf_map, Option.bind_some, joinL_nil, if_pos]
        unfold fitJ
        rw [decide_eq_true_iff, sum_len]
        show _ + _ * 0 ≤ _
        omega
    · cases hc : chkF ((segC S p q).filterMap brC) 0 with
      | true =>
        rw [if_pos rfl]
        refine iteF_t rfl ((appendF_eq (i := 1) (xs := st.2.map pairV) (v := pairV (first, st.1)) rfl rfl (by rw [List.length_map]; omega)).trans ?_)
        rw [List.map_append]; rfl
      | false =>
        rw [if_neg (by decide)]
        exact iteF_f rfl (iteF_f rfl rfl)
  · rw [if_neg hb]
    rw [Bool.eq_false_iff.2 hb] at t3
    refine ⟨z6, iteF_f t3 ?_⟩
    cases hn : (brC (S.getD q [])).isNone with
    | true =>
      rw [if_pos rfl]
      rw [hn] at t4
      exact iteF_t t4 rfl
    | false =>
      rw [if_neg (by decide)]
      rw [hn] at t4
      exact iteF_f t4 rfl
theorem takenIn_loop (R : RowOk F m S) (p first : Nat) (hp : p < S.length) : ∀ (qs : List Nat) (st : Nat × List (Nat × Nat)) (z5 z6 : Sl), (∀ q ∈ qs, q < S.length) → st.2.length + qs.length ≤ 20000 →
    ∃ y5 y6, forL (tName 5) takenIn (qs.map natV) [.v (.list (rowC F m S)), .m (st.2.map pairV), .v (natV first), .v (natV p), .v (natV st.1), z5, z6] =
      some (.next, [.v (.list (rowC F m S)), .m ((qs.foldl (inStep S p first) st).2.map pairV), .v (natV first), .v (natV p), .v (natV (qs.foldl (inStep S p first) st).1), y5, y6]) ∧ (qs.foldl (inStep S p first) st).2.length ≤ st.2.length + qs.length
  | [], st, z5, z6, _, _ => ⟨z5, z6, rfl, Nat.le_refl _⟩
  | q :: qs, st, z5, z6, hq, hl => by
    rw [List.length_cons] at hl
    obtain ⟨y6, e⟩ := takenIn_is R p q first hp (hq q (List.mem_cons_self ..)) st (by omega) z6
    have h1 := inStep_len S p first q st
    obtain ⟨x5, x6, e2, h2⟩ := takenIn_loop R p first hp qs (inStep S p first st q) (.v (natV q)) y6 (fun x hx => hq x (List.mem_cons_of_mem _ hx)) (by omega)
    refine ⟨x5, x6, forL_next rfl e e2, ?_⟩
    rw [List.foldl_cons, List.length_cons]
    omega
theorem range2_is {f h : List Sl → Option MV} {ρ : List Sl} {a b : Nat} (h1 : f ρ = some (natV a)) (h2 : h ρ = some (natV b)) (ha : a ≤ 1000) (hb : b ≤ 1000) : range2I f h ρ = some (((List.range (b - a)).map (a + ·)).map natV) := by
  unfold range2I
  rw [h1, h2]
  show (if (r62 (a : Int) && r62 (b : Int)) = true then some (intsL (a : Int) ((b : Int) - (a : Int)).toNat) else none) = _
  have r1 : ∀ n : Nat, n ≤ 1000 → r62 (n : Int) = true := fun n hn => by
    unfold r62
    rw [Bool.and_eq_true, decide_eq_true_iff, decide_eq_true_iff]; omega
  rw [r1 a ha, r1 b hb]
  rw [if_pos (show (true && true) = true from rfl)]
  have e : ((b : Int) - (a : Int)).toNat = b - a := by omega
  rw [e]
  unfold intsL
  rw [List.map_map]; rfl
theorem len_row (R : RowOk F m S) {f : List Sl → Option MV} {ρ : List Sl} (h : f ρ = some (.list (rowC F m S))) : app1 bLen f ρ = some (natV S.length) := by
  have hlim : (21000 : Nat) < lim := by decide
  have := R.len
  refine app1_eq h ?_
  show (if (rowC F m S).length ≤ lim then some (MV.int (rowC F m S).length) else none) = _
  unfold rowC
  rw [List.length_map, if_pos (by omega)]; rfl
theorem takenOut_loop (R : RowOk F m S) : ∀ (ps : List Nat) (st : Nat × List (Nat × Nat)) (z3 z4 z5 z6 : Sl), (∀ p ∈ ps, p < S.length) → st.2.length + 40 * ps.length ≤ 20000 →
    ∃ y3 y4 y5 y6, forL (tName 3) takenOut (ps.map natV) [.v (.list (rowC F m S)), .m (st.2.map pairV), .v (natV st.1), z3, z4, z5, z6] =
      some (.next, [.v (.list (rowC F m S)), .m ((ps.foldl (outStep S) st).2.map pairV), .v (natV (ps.foldl (outStep S) st).1), y3, y4, y5, y6])
  | [], st, z3, z4, z5, z6, _, _ => ⟨z3, z4, z5, z6, rfl⟩
  | p :: ps, st, z3, z4, z5, z6, hp, hl => by
    rw [List.length_cons] at hl
    have hlen := R.len
    have hp1 := hp p (List.mem_cons_self ..)
    obtain ⟨ep, mp⟩ := getC hp1
    obtain ⟨y5, y6, e, h1⟩ := takenIn_loop R p st.1 hp1 ((List.range (S.length - (p + 1))).map (p + 1 + ·)) (st.1, st.2) z5 z6 (fun q hq => by
      obtain ⟨k, hk, rfl⟩ := List.mem_map.1 hq
      have := List.mem_range.1 hk
      omega) (by rw [List.length_map, List.length_range]; show st.2.length + _ ≤ _; omega)
    have h2 : (outStep S st p).2.length ≤ st.2.length + 40 := by
      unfold outStep
      rw [List.length_map, List.length_range] at h1
      exact Nat.le_trans h1 (by show st.2.length + _ ≤ _; omega)
    obtain ⟨x3, x4, x5, x6, e2⟩ := takenOut_loop R ps (outStep S st p) (.v (natV p)) (.v (natV (((List.range (S.length - (p + 1))).map (p + 1 + ·)).foldl (inStep S p st.1) (st.1, st.2)).1)) y5 y6 (fun x hx => hp x (List.mem_cons_of_mem _ hx)) (by omega)
    refine ⟨x3, x4, x5, x6, forL_next (ρ₁ := [.v (.list (rowC F m S)), .m (st.2.map pairV), .v (natV st.1), .v (natV p), z4, z5, z6]) rfl ?_ e2⟩
    refine seqF_next (ρ₁ := [.v (.list (rowC F m S)), .m (st.2.map pairV), .v (natV st.1), .v (natV p), .v (natV st.1), z5, z6]) rfl ?_
    refine seqF_next (forF_eq (range2_is (a := p + 1) (b := S.length) (add_nat (a := p) (b := 1) rfl rfl) (len_row R rfl) (by omega) (by omega)) e) ?_
    have t4 : cmp2 CmpOp.NotIn (bin2 itemOp (fun ρ => getH ρ 0) fun ρ => getV ρ 3) (fun x => some (MV.str [40, 41])) [Sl.v (.list (rowC F m S)), .m ((((List.range (S.length - (p + 1))).map (p + 1 + ·)).foldl (inStep S p st.1) (st.1, st.2)).2.map pairV), .v (natV st.1), .v (natV p), .v (natV (((List.range (S.length - (p + 1))).map (p + 1 + ·)).foldl (inStep S p st.1) (st.1, st.2)).1), y5, y6] = some (brC (S.getD p [])).isNone :=
      cmp2_eq (rowC_item R rfl rfl ep) rfl (txC_in R mp)
    unfold outStep
    cases hn : (brC (S.getD p [])).isNone with
    | true =>
      rw [hn] at t4
      exact iteF_t t4 rfl
    | false =>
      rw [hn] at t4
      exact iteF_f t4 rfl
theorem fn_taken_is (R : RowOk F m S) {v : MV} (hv : bSortedL (.list ((takenB S).map pairV)) = some v) : fn_law_taken [.list (rowC F m S)] = some v := by
  have hlen := R.len
  refine Res.run (g := ex_law_taken.1) rfl ?_
  unfold ex_law_taken; dsimp only
  refine Res.next (ρ₁ := [.v (.list (rowC F m S)), .m ([(0, 5)].map pairV), .un, .un, .un, .un, .un]) rfl ?_
  refine Res.next (ρ₁ := [.v (.list (rowC F m S)), .m ([(0, 5)].map pairV), .v (natV 0), .un, .un, .un, .un]) rfl ?_
  obtain ⟨y3, y4, y5, y6, e⟩ := takenOut_loop R (List.range S.length) (0, [(0, 5)]) .un .un .un .un (fun p hp => List.mem_range.1 hp) (by rw [List.length_range]; show 1 + _ ≤ _; omega)
  have hr : rangeI (app1 bLen fun ρ => getH ρ 0) [Sl.v (.list (rowC F m S)), .m ([(0, 5)].map pairV), .v (natV 0), .un, .un, .un, .un] = some ((List.range S.length).map natV) := by
    have := rangeI_eq (f := app1 bLen fun ρ => getH ρ 0) (n := S.length) (len_row R rfl) (ρ := [Sl.v (.list (rowC F m S)), .m ([(0, 5)].map pairV), .v (natV 0), .un, .un, .un, .un]) (by omega)
    rw [this]
    unfold intsL
    refine congrArg some (List.map_congr_left fun k u0 => ?_)
    rw [Int.zero_add]; rfl
  refine Res.next (forF_eq hr e) (Res.ret (app1_eq rfl hv))
noncomputable def codes5 : List (List Nat) := (List.range 5).map fun j => [1000 + j]
noncomputable def mapPS (σ : List Nat → List Nat) (P : PS) : PS := ⟨P.rows.map fun r => r.map σ, P.lines, P.ends, P.num⟩
theorem getD_mapσ (σ : List Nat → List Nat) (rows : List (List (List Nat))) (k : Nat) : (rows.map fun r => r.map σ).getD k [] = (rows.getD k []).map σ := by
  rw [List.getD_eq_getElem?_getD, List.getD_eq_getElem?_getD, List.getElem?_map]
  cases rows[k]? <;> rfl
theorem stepP_map {σ : List Nat → List Nat} (h1 : σ [40] = [40]) (h2 : σ [41] = [41]) (nm k : Nat) (P : PS) : stepP nm k (mapPS σ P) = mapPS σ (stepP nm k P) := by
  have e : (P.rows.map fun r => r.map σ).take k ++ [[[40]] ++ (P.rows.map fun r => r.map σ).getD k [] ++ (P.rows.map fun r => r.map σ).getD (k + 1) [] ++ [[41]]] ++ (P.rows.map fun r => r.map σ).drop (k + 2) =
      (P.rows.take k ++ [[[40]] ++ P.rows.getD k [] ++ P.rows.getD (k + 1) [] ++ [[41]]] ++ P.rows.drop (k + 2)).map fun r : List (List Nat) => r.map σ := by
    rw [getD_mapσ, getD_mapσ, List.map_append, List.map_append, List.map_take, List.map_drop, List.map_cons, List.map_nil, List.map_append, List.map_append, List.map_append, List.map_cons, List.map_cons, List.map_nil, h1, h2]
  exact congrArg (fun r : List (List (List Nat)) => (⟨r, (stepP nm k P).lines, (stepP nm k P).ends, (stepP nm k P).num⟩ : PS)) e
theorem prodP_map {σ : List Nat → List Nat} (h1 : σ [40] = [40]) (h2 : σ [41] = [41]) (fs : List (List Nat)) (k₀ k₁ k₂ k₃ : Nat) : prodP (fs.map σ) k₀ k₁ k₂ k₃ = mapPS σ (prodP fs k₀ k₁ k₂ k₃) := by
  have e0 : prod0 (fs.map σ) = mapPS σ (prod0 fs) := by
    unfold prod0 mapPS
    rw [List.map_map, List.map_map]; rfl
  unfold prodP
  rw [e0, stepP_map h1 h2, stepP_map h1 h2, stepP_map h1 h2, stepP_map h1 h2]
theorem txC_code (F : Nat → List (List Nat)) (m : List (List Nat)) (j : Nat) : txC F m [1000 + j] = (F j).flatten ++ (if j = 4 then m.flatten else []) := by
  have hb : brC [1000 + j] = none := by
    unfold brC
    rw [if_neg (fun e => by have := (List.cons.inj e).1; omega), if_neg (fun e => by have := (List.cons.inj e).1; omega)]
  unfold txC toC
  rw [hb]
  show (F (1000 + j - 1000) ++ if [1000 + j] = [1004] then m else []).flatten = _
  rw [List.flatten_append, Nat.add_sub_cancel_left]
  refine congrArg _ ?_
  by_cases h : j = 4
  · subst h; rfl
  · rw [if_neg h, if_neg (fun e => h (by have := (List.cons.inj e).1; omega))]; rfl
theorem facT_flat (i₁ i₂ : Nat) (T₁ T₂ : List (List Nat)) (j : Nat) : (facT i₁ i₂ T₁ T₂ j).flatten = ([97 + j] ++ if j = i₁ then T₁.flatten else []) ++ if j = i₂ then T₂.flatten else [] := by
  unfold facT
  rw [List.flatten_append, List.flatten_append]
  have e : ∀ (i : Nat) (T : List (List Nat)), (if j = i then T else []).flatten = if j = i then T.flatten else [] := fun i T => by split <;> rfl
  rw [e, e]; rfl
theorem facS_codes (i₁ i₂ : Nat) (T₁ T₂ m : List (List Nat)) : (List.range 5).map (facS i₁ i₂ T₁.flatten T₂.flatten m.flatten) = codes5.map (txC (facT i₁ i₂ T₁ T₂) m) := by
  unfold codes5
  rw [List.map_map]
  refine List.map_congr_left fun j u0 => ?_
  show facS i₁ i₂ T₁.flatten T₂.flatten m.flatten j = txC (facT i₁ i₂ T₁ T₂) m [1000 + j]
  rw [txC_code, facT_flat]; rfl
noncomputable def markC (n : Nat) : List (List Nat) := List.replicate n [34]
theorem markC_flat (n : Nat) : (markC n).flatten = List.replicate n 34 := by
  unfold markC
  induction n with
  | zero => rfl
  | succ n ih => rw [List.replicate_succ, List.flatten_cons, ih]; rfl
noncomputable def caseP (k₀ k₁ k₂ : Nat) : PS := prodP codes5 k₀ k₁ k₂ 0
noncomputable def rowS (P : PS) : List (List Nat) := ((P.rows.getD 0 []).drop 1).dropLast
theorem fn_product_codes (c : List Nat) (hc : c.length = 4) :
    fn_law_product [.list (c.map natV)] = some (.tuple [.list (rowC (facT (c.getD 0 0 / 4 % 5) (c.getD 1 0 / 3 % 5) (things1.getD (c.getD 0 0 / 20 % 8) []) (things1.getD (c.getD 1 0 / 15 % 8) [])) (markC (c.getD 2 0 / 2 % 2)) (rowS (caseP (c.getD 0 0 % 4) (c.getD 1 0 % 3) (c.getD 2 0 % 2)))),
      .str ((caseP (c.getD 0 0 % 4) (c.getD 1 0 % 3) (c.getD 2 0 % 2)).lines.getD 0 []), natV (caseP (c.getD 0 0 % 4) (c.getD 1 0 % 3) (c.getD 2 0 % 2)).num]) := by
  rw [fn_product_is c hc, ← markC_flat, facS_codes, prodP_map (by rw [txC_br (b := true) rfl]; rfl) (by rw [txC_br (b := false) rfl]; rfl), Nat.mod_one]
  refine congrArg (fun r => some (MV.tuple [.list r, _, _])) ?_
  show ((((mapPS _ (caseP _ _ _)).rows.getD 0 []).drop 1).dropLast).map MV.str = _
  unfold mapPS rowC rowS
  rw [getD_mapσ, ← List.map_drop, ← List.map_dropLast, List.map_map]; rfl
theorem facT_len (i₁ i₂ a b : Nat) (j : Nat) : (facT i₁ i₂ (things1.getD a []) (things1.getD b []) j).flatten.length ≤ 21 := by
  have l1 := things1_len a
  have l2 := things1_len b
  rw [facT_flat]
  refine len2 11 10 (len2 1 10 (Nat.le_refl 1) ?_ rfl) ?_ rfl
  · split
    · exact l1
    · exact Nat.zero_le _
  · split
    · exact l2
    · exact Nat.zero_le _
theorem row_ok (i₁ i₂ a b n : Nat) (ha : a < 8) (hb : b < 8) (hn : n < 2) {S : List (List Nat)} (hS : okC S = true) (hl : S.length ≤ 40) : RowOk (facT i₁ i₂ (things1.getD a []) (things1.getD b [])) (markC n) S where
  fok := fun j hj => in_fac (in_things a ha) (in_things b hb) j hj
  hok := fun j => by
    rw [facT_flat]
    exact ⟨_, rfl⟩
  mok := match n, hn with
    | 0, _ => .inl rfl
    | 1, _ => .inr rfl
  ok := hS
  len := hl
  tl := fun c => by
    unfold txC toC
    cases brC c with
    | some d => cases d <;> exact Nat.le_of_ble_eq_true rfl
    | none =>
      show (facT i₁ i₂ _ _ (c.headD 0 - 1000) ++ if c = [1004] then markC n else []).flatten.length ≤ 40
      rw [List.flatten_append]
      refine len2 21 1 (facT_len ..) ?_ rfl
      split
      · rw [markC_flat, List.length_replicate]; omega
      · exact Nat.zero_le _
theorem fdiv_nat {f h : List Sl → Option MV} {ρ : List Sl} {a b : Nat} (h1 : f ρ = some (natV a)) (h2 : h ρ = some (natV b)) (hb : 0 < b) (hb2 : b < 1073741824) : bin2 (binOp Operator.FloorDiv) f h ρ = some (natV (a / b)) := by
  refine bin2_eq h1 h2 ?_
  show (if (b : Int) ≠ 0 ∧ (b : Int).natAbs < 1073741824 then some (MV.int ((a : Int).fdiv b)) else none) = _
  rw [if_pos ⟨by omega, by omega⟩, Int.fdiv_eq_ediv_of_nonneg _ (by omega)]; rfl
theorem mod_nat {f h : List Sl → Option MV} {ρ : List Sl} {a b : Nat} (h1 : f ρ = some (natV a)) (h2 : h ρ = some (natV b)) (hb : 0 < b) : bin2 (binOp Operator.Mod) f h ρ = some (natV (a % b)) := by
  refine bin2_eq h1 h2 ?_
  show (if (b : Int) = 0 then none else some (MV.int ((a : Int).fmod b))) = _
  rw [if_neg (by omega), Int.fmod_eq_emod_of_nonneg _ (by omega)]; rfl
theorem sub_nat {f h : List Sl → Option MV} {ρ : List Sl} {a b : Nat} (h1 : f ρ = some (natV a)) (h2 : h ρ = some (natV b)) (hb : b ≤ a) : bin2 (binOp Operator.Sub) f h ρ = some (natV (a - b)) := by
  refine bin2_eq h1 h2 ?_
  show some (MV.int ((a : Int) - (b : Int))) = some (MV.int ((a - b : Nat) : Int))
  refine congrArg (fun x => some (MV.int x)) ?_
  omega
theorem pow_nat {f h : List Sl → Option MV} {ρ : List Sl} {a b : Nat} (h1 : f ρ = some (natV a)) (h2 : h ρ = some (natV b)) (ha : a ≤ 1000) (hb : b ≤ 1000) : bin2 (binOp Operator.Pow) f h ρ = some (natV (a ^ b)) := by
  have hs : small (a : Int) = true := by
    unfold small
    rw [Bool.and_eq_true, decide_eq_true_iff, decide_eq_true_iff]; omega
  refine bin2_eq h1 h2 ?_
  refine (powV_int a b).trans ?_
  rw [if_pos ⟨hs, by omega, by omega⟩, Int.toNat_natCast]
  show _ = some (MV.int ((a ^ b : Nat) : Int))
  rw [Int.natCast_pow]
theorem range6 {f : List Sl → Option MV} {ρ : List Sl} (h : f ρ = some (.int 6)) : rangeI f ρ = some ((List.range 6).map natV) := by
  have := rangeI_eq (f := f) (n := 6) h (by decide)
  rw [this]; rfl
theorem item_r6 {f h : List Sl → Option MV} {ρ : List Sl} {L : Nat → Int} {g : Nat} (hg : g < 6) (h1 : f ρ = some (.list ((List.range 6).map fun g => .int (L g)))) (h2 : h ρ = some (natV g)) : bin2 itemOp f h ρ = some (.int (L g)) := by
  refine item_at h1 h2 (by rw [List.length_map, List.length_range]; decide) ?_
  rw [List.getElem?_map, List.getElem?_range hg]; rfl
noncomputable def liftN (c : Nat) (g : Nat) : Int := 11 - ((c / 4 / 13 ^ (5 - g) % 13 : Nat) : Int)
theorem liftN_le (c g : Nat) : -1 ≤ liftN c g ∧ liftN c g ≤ 11 := by
  unfold liftN
  have := Nat.mod_lt (c / 4 / 13 ^ (5 - g)) (show 0 < 13 by decide)
  generalize c / 4 / 13 ^ (5 - g) % 13 = x at *
  omega
theorem liftN_0 (c : Nat) (h : c < 10 ^ 6) : liftN c 0 = 11 := by
  unfold liftN
  have : c / 4 / 13 ^ (5 - 0) = 0 := by
    show c / 4 / 371293 = 0
    omega
  rw [this]; rfl
theorem comp_r6 {vars : List Str} {caps : List (Nat × Str)} {g : List Sl → Option (List MV)} {f : List Sl → Option MV} {ρ r : List Sl} {s₀ : Sl} (k : Nat → MV) (h1 : g ρ = some ((List.range 6).map natV)) (hc : capR vars caps ρ = s₀ :: r) (hx : ∀ i, i < 6 → f (.v (natV i) :: r) = some (k i)) :
    compN vars caps g (tName 0) noIf (emitB f) ρ = some ((List.range 6).map k) := by
  have hlim : (21000 : Nat) < lim := by decide
  refine (compN_map (h := fun x => match x with | .int i => k i.toNat | y => y) h1 hc (fun x hx' => ?_) (by rw [List.length_map, List.length_range]; omega)).trans ?_
  · obtain ⟨i, hi, rfl⟩ := List.mem_map.1 hx'
    rw [hx i (List.mem_range.1 hi)]
    show some (k i) = some (k (i : Int).toNat)
    rw [Int.toNat_natCast]
  · rw [List.map_map]
    refine congrArg some (List.map_congr_left fun i u0 => ?_)
    show k (i : Int).toNat = k i
    rw [Int.toNat_natCast]
theorem lift_is {c : List Nat} (hc : c.length = 4) {g : Nat} (hg : g < 6) :
    (bin2 (binOp Operator.Sub) (fun x => some (MV.int 11)) (bin2 (binOp Operator.Mod) (bin2 (binOp Operator.FloorDiv) (bin2 (binOp Operator.FloorDiv) (bin2 itemOp (fun ρ => getH ρ 1) fun x => some (MV.int 2)) fun x => some (MV.int 4))
      (bin2 (binOp Operator.Pow) (fun x => some (MV.int 13)) (bin2 (binOp Operator.Sub) (fun x => some (MV.int 5)) fun ρ => getH ρ 0))) fun x => some (MV.int 13))) [.v (natV g), .v (.list (c.map natV))] = some (.int (liftN (c.getD 2 0) g)) := by
  have hp : 13 ^ (5 - g) ≤ 13 ^ 5 := Nat.pow_le_pow_right (by decide) (by omega)
  have h0 : 0 < 13 ^ (5 - g) := Nat.pow_pos (by decide)
  have hx : (c.map natV)[2]? = some (natV (c.getD 2 0)) := by
    have : 2 < c.length := by omega
    rw [List.getElem?_map, List.getD_eq_getElem?_getD, List.getElem?_eq_getElem this]; rfl
  have h13 : (13 : Nat) ^ 5 = 371293 := by decide
  exact bin2_eq (a := .int 11) rfl (mod_nat (b := 13) (fdiv_nat (fdiv_nat (b := 4) (item_at (xs := c.map natV) (i := 2) rfl rfl (by rw [List.length_map]; omega) hx) rfl (by decide) (by decide)) (pow_nat (a := 13) rfl (sub_nat (a := 5) (b := g) rfl rfl (by omega)) (by decide) (by omega)) h0 (by omega)) rfl (by decide)) rfl
theorem small_of {i : Int} (h : -1000000000 ≤ i ∧ i ≤ 1000000000) : small i = true := by
  unfold small
  rw [Bool.and_eq_true, decide_eq_true_iff, decide_eq_true_iff]; omega
theorem mul_int {f h : List Sl → Option MV} {ρ : List Sl} {a b : Int} (h1 : f ρ = some (.int a)) (h2 : h ρ = some (.int b)) (ha : -1000000000 ≤ a ∧ a ≤ 1000000000) : bin2 (binOp Operator.Mult) f h ρ = some (.int (a * b)) := by
  refine bin2_eq h1 h2 ?_
  show (if small a then some (MV.int (a * b)) else none) = _
  rw [if_pos (small_of ha)]
theorem part_sum {L : Nat → Int} (hL : ∀ g, -1 ≤ L g ∧ L g ≤ 11) {g : Nat} (hg : g < 6) :
    (bin2 (binOp Operator.Mult) (bin2 itemOp (fun ρ => getH ρ 1) fun ρ => getV ρ 0) (bin2 (binOp Operator.Pow) (fun x => some (MV.int 16)) (bin2 (binOp Operator.Sub) (fun x => some (MV.int 5)) fun ρ => getH ρ 0)))
      [.v (natV g), .v (.list ((List.range 6).map fun g => .int (L g)))] = some (.int (L g * ((16 ^ (5 - g) : Nat) : Int))) := by
  have := hL g
  exact mul_int (item_r6 hg rfl rfl) (pow_nat (a := 16) rfl (sub_nat (a := 5) (b := g) rfl rfl (by omega)) (by decide) (by omega)) (by omega)
noncomputable def digN (a : Nat → Nat) (L : Nat → Int) (g : Nat) : Nat := ((a g : Int) + L g).toNat
structure Digs (a : Nat → Nat) (L : Nat → Int) : Prop where
  a4 : ∀ g, g < 6 → 1 ≤ a g ∧ a g ≤ 4
  l : ∀ g, -1 ≤ L g ∧ L g ≤ 11
  l0 : L 0 = 11
variable {a : Nat → Nat} {L : Nat → Int}
theorem dig_ok (x : Nat) (l : Int) (h1 : 1 ≤ x) (h2 : x ≤ 4) (h3 : -1 ≤ l) (h4 : l ≤ 11) : 0 ≤ x + l ∧ x + l < 16 := by omega
theorem Digs.eq (h : Digs a L) {g : Nat} (hg : g < 6) : ((digN a L g : Nat) : Int) = a g + L g ∧ digN a L g < 16 := by
  obtain ⟨h1, h2⟩ := dig_ok _ _ (h.a4 g hg).1 (h.a4 g hg).2 (h.l g).1 (h.l g).2
  have e : ((digN a L g : Nat) : Int) = a g + L g := Int.toNat_of_nonneg h1
  exact ⟨e, Int.ofNat_lt.1 (show ((digN a L g : Nat) : Int) < ((16 : Nat) : Int) from e ▸ h2)⟩
theorem dN (h : Digs a L) (g : Nat) (hg : g < 6) : digN a L g < 16 := (h.eq hg).2
noncomputable def numN (d : Nat → Nat) : Nat := ((((d 0 * 16 + d 1) * 16 + d 2) * 16 + d 3) * 16 + d 4) * 16 + d 5
theorem hor16 (x y a l : Int) : (x + y) * 16 + (a + l) = (x * 16 + a) + (y * 16 + l) := by omega
theorem sum16 (a b c d e f : Int) : a * 1048576 + (b * 65536 + (c * 4096 + (d * 256 + (e * 16 + (f * 1 + 0))))) = ((((a * 16 + b) * 16 + c) * 16 + d) * 16 + e) * 16 + f := by omega
theorem Digs.num (h : Digs a L) : ((numN a : Nat) : Int) + ((List.range 6).map fun g => L g * ((16 ^ (5 - g) : Nat) : Int)).sum = ((numN (digN a L) : Nat) : Int) := by
  have e (g : Nat) (hg : g < 6) : ((digN a L g : Nat) : Int) = a g + L g := (h.eq hg).1
  refine (congrArg _ (sum16 (L 0) (L 1) (L 2) (L 3) (L 4) (L 5))).trans ?_
  show (((((((a 0 : Int) * 16 + a 1) * 16 + a 2) * 16 + a 3) * 16 + a 4) * 16 + a 5) + _ : Int) = ((((((digN a L 0 : Nat) : Int) * 16 + (digN a L 1 : Nat)) * 16 + (digN a L 2 : Nat)) * 16 + (digN a L 3 : Nat)) * 16 + (digN a L 4 : Nat)) * 16 + (digN a L 5 : Nat)
  rw [← hor16, ← hor16, ← hor16, ← hor16, ← hor16, e 0 (by decide), e 1 (by decide), e 2 (by decide), e 3 (by decide), e 4 (by decide), e 5 (by decide)]
theorem Digs.d0 (h : Digs a L) : digN a L 0 ≠ 0 := by
  have h1 := h.a4 0 (by decide)
  have h2 := h.l0
  unfold digN
  omega
theorem Digs.lt (h : Digs a L) : ∀ d ∈ (List.range 6).map (digN a L), d < 16 := fun d hd => by
  obtain ⟨g, hg, rfl⟩ := List.mem_map.1 hd
  exact (h.eq (List.mem_range.1 hg)).2
theorem Digs.hex (h : Digs a L) : hexD 100 (numN (digN a L)) = (List.range 6).map (digN a L) := by
  have hl := h.lt
  exact hexD_lead 94 (digN a L 0) [digN a L 1, digN a L 2, digN a L 3, digN a L 4, digN a L 5] (hl _ (List.mem_cons_self ..)) h.d0 fun d hd => hl d (List.mem_cons_of_mem _ hd)
theorem div16 (x d : Nat) (h : d < 16) : (x * 16 + d) / 16 = x := by omega
theorem lt16 (x d n : Nat) (h : d < 16) (hx : x < n) : x * 16 + d < n * 16 := by omega
theorem four (n : Nat) (h : n < 4) : n = 0 ∨ n = 1 ∨ n = 2 ∨ n = 3 := by omega
theorem Digs.front (h : Digs a L) (start : Nat) (hs : start < 4) : hexD 100 (numN (digN a L) / 16 ^ (start + 3)) = ((List.range 6).map (digN a L)).take (3 - start) := by
  have d0 := h.d0
  have l0 := dN h 0 (by decide)
  have l1 := dN h 1 (by decide)
  have l2 := dN h 2 (by decide)
  have e : numN (digN a L) / 16 ^ (start + 3) = ((digN a L 0 * 16 + digN a L 1) * 16 + digN a L 2) / 16 ^ start := by
    rw [Nat.add_comm, Nat.pow_add, ← Nat.div_div_eq_div_mul]
    refine congrArg (· / 16 ^ start) ?_
    show numN (digN a L) / (16 * 16 * 16) = _
    rw [← Nat.div_div_eq_div_mul, ← Nat.div_div_eq_div_mul]
    unfold numN
    rw [div16 _ _ (dN h 5 (by decide)), div16 _ _ (dN h 4 (by decide)), div16 _ _ (dN h 3 (by decide))]
  rw [e]
  rcases four start hs with rfl | rfl | rfl | rfl
  · rw [Nat.pow_zero, Nat.div_one]
    exact hexD_lead 97 (digN a L 0) [digN a L 1, digN a L 2] l0 d0 fun d hd => by
      rcases List.mem_cons.1 hd with rfl | hd
      · exact l1
      · rw [List.mem_singleton.1 hd]; exact l2
  · rw [Nat.pow_one, div16 _ _ l2]
    exact hexD_lead 98 (digN a L 0) [digN a L 1] l0 d0 fun d hd => by
      rw [List.mem_singleton.1 hd]; exact l1
  · show hexD 100 (_ / (16 * 16)) = _
    rw [← Nat.div_div_eq_div_mul, div16 _ _ l2, div16 _ _ l1]
    exact hexD_one 99 _ l0 d0
  · show hexD 100 (_ / (16 * 16 * 16)) = _
    rw [← Nat.div_div_eq_div_mul, ← Nat.div_div_eq_div_mul, div16 _ _ l2, div16 _ _ l1, Nat.div_eq_of_lt l0]
    exact hexD_zero 100
theorem Digs.numlt (h : Digs a L) : numN (digN a L) < 16777216 :=
  lt16 _ _ 1048576 (dN h 5 (by decide)) (lt16 _ _ 65536 (dN h 4 (by decide)) (lt16 _ _ 4096 (dN h 3 (by decide)) (lt16 _ _ 256 (dN h 2 (by decide)) (lt16 _ _ 16 (dN h 1 (by decide)) (dN h 0 (by decide))))))
theorem b65_nat (d : Nat) (h : d < 16) : (b65 d).toNat = 65 + d := by
  have : ∀ d : _root_.Fin 16, (b65 d.1).toNat = 65 + d.1 := by decide
  exact this ⟨d, h⟩
theorem fig_is (h : Digs a L) {g : Nat} (hg : g < 6) :
    (bin2 (binOp Operator.Sub) (bin2 (binOp Operator.Sub) (bin2 itemOp (fun ρ => getH ρ 2) fun ρ => getV ρ 0) fun x => some (MV.int 65)) (bin2 itemOp (fun ρ => getH ρ 1) fun ρ => getV ρ 0))
      [.v (natV g), .v (.list ((List.range 6).map fun g => .int (L g))), .v (.bytes (((List.range 6).map (digN a L)).map b65))] = some (natV (a g)) := by
  have hlim : (21000 : Nat) < lim := by decide
  obtain ⟨h1, h2⟩ := h.eq hg
  refine bin2_eq (a := .int (digN a L g)) (b := .int (L g)) (bin2_eq (a := .int ((65 + digN a L g : Nat) : Int)) (b := .int 65) (bin2_eq (a := .bytes (((List.range 6).map (digN a L)).map b65)) (b := natV g) rfl rfl ?_) rfl ?_) (item_r6 hg rfl rfl) ?_
  · show (if 0 ≤ (g : Int) then (idx (((List.range 6).map (digN a L)).map b65).length (g : Int)).bind fun k => ((((List.range 6).map (digN a L)).map b65)[k]?).map fun x => MV.int x.toNat else none) = _
    rw [if_pos (by omega), List.length_map, List.length_map, List.length_range, idx_ok hg (by omega), Option.bind_some, List.getElem?_map, List.getElem?_map, List.getElem?_range hg]
    show some (MV.int (b65 (digN a L g)).toNat) = _
    rw [b65_nat _ h2]
  · show some (MV.int (((65 + digN a L g : Nat) : Int) - 65)) = _
    refine congrArg (fun x => some (MV.int x)) ?_
    omega
  · show some (MV.int (((digN a L g : Nat) : Int) - L g)) = some (MV.int (a g : Int))
    refine congrArg (fun x => some (MV.int x)) ?_
    omega
noncomputable def onesE : List Sl → Option (List MV) :=
  compN [Str.ofString "i", Str.ofString "j"] [(11, Str.ofString "sides")] (rangeI fun x => some (MV.int 4)) (tName 0) noIf
    (innerB (range2I (bin2 (binOp Operator.Add) (fun ρ => getH ρ 0) fun x => some (MV.int 2)) fun x => some (MV.int 6)) (tName 1)
      (cmp2 CmpOp.Eq (bin2 itemOp (bin2 itemOp (fun ρ => getH ρ 2) fun ρ => getV ρ 0) fun ρ => getV ρ 1) fun x => some (MV.int 1))
      (emitB (ofN (listN (consF (fun ρ => getV ρ 0) (consF (fun ρ => getV ρ 1) nilF))))))
noncomputable def cntT : List Sl → Option Bool :=
  (orT
    (cmp2 CmpOp.NotEq (bin2 itemOp (fun ρ => getH ρ 10) fun x => some (MV.int 0))
    (app1 bLen
    (ofN
    (compN [Str.ofString "i", Str.ofString "j"] [] (listI fun ρ => getV ρ 12)
    (tTup [0, 1]) (cmp2 CmpOp.Eq (fun ρ => getH ρ 0) fun x => some (MV.int 0))
    (emitB fun x => some (MV.int 1))))))
    (cmp2 CmpOp.NotEq (bin2 itemOp (fun ρ => getH ρ 10) fun x => some (MV.int 5))
    (app1 bLen
    (ofN
    (compN [Str.ofString "i", Str.ofString "j"] [] (listI fun ρ => getV ρ 12)
    (tTup [0, 1]) (cmp2 CmpOp.Eq (fun ρ => getH ρ 1) fun x => some (MV.int 5))
    (emitB fun x => some (MV.int 1)))))))
noncomputable def endW (line : List Nat) (w : Way) : Bool := pF ([] :: (w.ps ++ [[]])) line && (!pF (w.ps ++ [[]]) line && !pF ([] :: w.ps) line)
noncomputable def runW (line : List Nat) (a : Nat) (r : List Int) : List Nat → List Way → Bool
  | [], W => W.all (endW line)
  | g :: gs, W => match findL [97 + g] line with
    | some b => Nat.ble W.length 100 && (r[g + 1]? == some (((nextW line a b (97 + g) W).length : Nat) : Int) && runW line a r gs (nextW line a b (97 + g) W))
    | none => false
noncomputable def chkW (line : List Nat) (r : List Int) (start : Nat) : Bool := match findL [97 + start] line with
  | some a => runW line a r ((List.range (5 - (start + 1))).map (start + 1 + ·)) [⟨[[97 + start]], []⟩]
  | none => false
theorem WOk.mono {m n : Nat} {w : Way} (h : WOk m w) (hm : m ≤ n) : WOk n w := ⟨h.ne, h.dot, Nat.le_trans h.sz hm, Nat.le_trans h.ul hm⟩
theorem nextW_ok {line : List Nat} {a b f m : Nat} (hf : f ≠ 46) {W : List Way} (hW : ∀ w ∈ W, WOk m w) : ∀ w ∈ nextW line a b f W, WOk (m + 8) w := fun w hw => by
  obtain ⟨v, hv, hvw⟩ := List.mem_flatMap.1 (List.mem_filter.1 hw).1
  exact grow_ok hf (hW v hv) hvw
inductive GapsP (line : List Nat) (xs : List MV) (S : Sl → Sl → Sl → Sl → Sl → List Sl) (s : List Sl) : Prop
  | mk (W : List Way) (x14 x15 x16 x17 : Sl) (e : forL (tName 14) gapBody xs s = some (.next, S (.v (.list (W.map wayV))) x14 x15 x16 x17)) (h : ∀ w ∈ W, WOk 192 w ∧ WEnd line w)
theorem gaps_is (line : List Nat) (hline : line.length ≤ 1000) (sides : List (List Int)) (hs : sides.length ≤ 10) (hr : ∀ r ∈ sides, r.length ≤ 10) (start a : Nat) (hst : start < 5) (ha : findL [97 + start] line = some a) (r : List Int) (hsr : sides[start]? = some r)
    (z0 z1 z2 z3 z4 z6 z7 z9 z10 z12 z18 z19 : Sl) : ∀ (gs : List Nat) (W : List Way) (m : Nat) (y14 y15 y16 y17 : Sl), runW line a r gs W = true → (∀ g ∈ gs, g < 5) → m + 8 * gs.length ≤ 192 → (∀ w ∈ W, WOk m w) →
      GapsP line (gs.map natV) (fun x x14 x15 x16 x17 => [z0, z1, z2, z3, z4, .v (.str line), z6, z7, .v (natV start), z9, z10, .v (sidesV sides), z12, x, x14, x15, x16, x17, z18, z19])
        [z0, z1, z2, z3, z4, .v (.str line), z6, z7, .v (natV start), z9, z10, .v (sidesV sides), z12, .v (.list (W.map wayV)), y14, y15, y16, y17, z18, z19]
  | [], W, m, y14, y15, y16, y17, h, _, hm, hW => .mk W y14 y15 y16 y17 rfl fun w hw => ⟨(hW w hw).mono (by omega), by
      have := List.all_eq_true.1 h w hw
      unfold endW at this
      simp only [Bool.and_eq_true, Bool.not_eq_true'] at this
      exact ⟨this.1, this.2.1, this.2.2⟩⟩
  | g :: gs, W, m, y14, y15, y16, y17, h, hg, hm, hW => by
    rw [List.length_cons] at hm
    rw [runW] at h
    cases hb : findL [97 + g] line with
    | none => rw [hb] at h; cases h
    | some b =>
      rw [hb] at h
      simp only [Bool.and_eq_true] at h
      obtain ⟨h1, h2, h3⟩ := h
      have h1 := Nat.le_of_ble_eq_true h1
      have h2 := eq_of_beq h2
      obtain ⟨y5, y6, y7, e⟩ := gap_is line hline sides hs hr start g a b hst (hg g (List.mem_cons_self ..)) ha hb W m (by omega) hW h1 r hsr h2 z0 z1 z2 z3 z4 z6 z7 z9 z10 z12 y15 y16 y17 z18 z19
      obtain ⟨W', x14, x15, x16, x17, e2, h4⟩ := gaps_is line hline sides hs hr start a hst ha r hsr z0 z1 z2 z3 z4 z6 z7 z9 z10 z12 z18 z19 gs (nextW line a b (97 + g) W) (m + 8) (.v (natV g)) y5 y6 y7 h3 (fun x hx => hg x (List.mem_cons_of_mem _ hx)) (by omega) (nextW_ok (by omega) hW)
      exact .mk W' x14 x15 x16 x17 (forL_next rfl e e2) h4
noncomputable def decO (r : Option MV) : Option (List (List Int)) := r.bind fun x => match x with
  | .list xs => intsLL xs
  | _ => none
theorem decO_spec {r : Option MV} {js : List (List Int)} (h : decO r = some js) : r = some (sidesV js) := by
  cases r with
  | none => cases h
  | some x =>
    cases x with
    | list xs => rw [intsLL_inv (show intsLL xs = some js from h)]; rfl
    | _ => cases h
noncomputable def pairI (p : Nat × Nat) : List Int := [(p.1 : Int), (p.2 : Int)]
theorem decP_spec {r : Option MV} {ps : List (Nat × Nat)} (h : decO r = some (ps.map pairI)) : r = some (.list (ps.map pairV)) := by
  rw [decO_spec h]
  unfold sidesV
  rw [List.map_map]; rfl
theorem onesE_at (v : MV) (z0 z1 z2 z3 z4 z5 z6 z7 z8 z9 z10 z12 z13 z14 z15 z16 z17 z18 z19 : Sl) : onesE [z0, z1, z2, z3, z4, z5, z6, z7, z8, z9, z10, .v v, z12, z13, z14, z15, z16, z17, z18, z19] = onesE [.un, .un, .un, .un, .un, .un, .un, .un, .un, .un, .un, .v v, .un, .un, .un, .un, .un, .un, .un, .un] := by
  unfold onesE compN
  rfl
theorem cntT_at (v w : MV) (z0 z1 z2 z3 z4 z5 z6 z7 z8 z9 z11 z13 z14 z15 z16 z17 z18 z19 : Sl) : cntT [z0, z1, z2, z3, z4, z5, z6, z7, z8, z9, .v v, z11, .v w, z13, z14, z15, z16, z17, z18, z19] = cntT [.un, .un, .un, .un, .un, .un, .un, .un, .un, .un, .v v, .un, .v w, .un, .un, .un, .un, .un, .un, .un] := by
  unfold cntT orT cmp2 app1 ofN compN
  rfl
structure Case (P : PS) (a : Nat → Nat) (sides : List (List Int)) (ones : List (Nat × Nat)) : Prop where
  ok : okC (rowS P) = true
  len : (rowS P).length ≤ 40
  a4 : ∀ g, g < 6 → 1 ≤ a g ∧ a g ≤ 4
  num : P.num = numN a
  sd : decO (fn_law_sides [.list ((List.range 6).map fun g => natV (a g))]) = some sides
  sl : sides.length = 5
  sr : ∀ r ∈ sides, r.length ≤ 10
  srt : decO (bSortedL (.list ((takenB (rowS P)).map pairV))) = some (ones.map pairI)
  one : decO ((onesE [.un, .un, .un, .un, .un, .un, .un, .un, .un, .un, .un, .v (sidesV sides), .un, .un, .un, .un, .un, .un, .un, .un]).map .list) = some (ones.map pairI)
  ne : cmpOp .NotEq (.list (ones.map pairV)) (.list (ones.map pairV)) = some false
  cnt : cntT [.un, .un, .un, .un, .un, .un, .un, .un, .un, .un, .v (.list ((List.range 6).map fun g => natV (a g))), .un, .v (.list (ones.map pairV)), .un, .un, .un, .un, .un, .un, .un] = some false
  ll : (P.lines.getD 0 []).length ≤ 1000
  s3 : pF [[115], [115], [115]] (P.lines.getD 0 []) = true
  s4 : pF [[115], [115], [115], [115]] (P.lines.getD 0 []) = false
  wy : ∀ start, start < 4 → chkW (P.lines.getD 0 []) (sides.getD start []) start = true
noncomputable def sideR (s b : Int) : List Int → List Int
  | [] => []
  | f :: fs => (f * s - b) :: sideR (f * s - b) s fs
noncomputable def sidesG (f1 f2 f3 f4 : Int) : List (List Int) := [0 :: 1 :: sideR 1 0 [f1, f2, f3, f4], 0 :: 0 :: 1 :: sideR 1 0 [f2, f3, f4], 0 :: 0 :: 0 :: 1 :: sideR 1 0 [f3, f4], 0 :: 0 :: 0 :: 0 :: 1 :: sideR 1 0 [f4], [0, 0, 0, 0, 0, 1]]
noncomputable def aC (k₀ k₁ k₂ g : Nat) : Nat := (caseP k₀ k₁ k₂).num / 16 ^ (5 - g) % 16
noncomputable def sidesC (k₀ k₁ k₂ : Nat) : List (List Int) := sidesG (aC k₀ k₁ k₂ 1) (aC k₀ k₁ k₂ 2) (aC k₀ k₁ k₂ 3) (aC k₀ k₁ k₂ 4)
noncomputable def onesC (sides : List (List Int)) : List (Nat × Nat) := (List.range 4).flatMap fun i => ((List.range (4 - i)).map (i + 2 + ·)).flatMap fun j => if (sides.getD i []).getD j 0 == 1 then [(i, j)] else []
theorem all_ok : ∀ k₀, k₀ < 4 → ∀ k₁, k₁ < 3 → ∀ k₂, k₂ < 2 → okC (rowS (caseP k₀ k₁ k₂)) = true := by decide +kernel
theorem all_len : ∀ k₀, k₀ < 4 → ∀ k₁, k₁ < 3 → ∀ k₂, k₂ < 2 → (rowS (caseP k₀ k₁ k₂)).length ≤ 40 := by decide +kernel
theorem all_a4 : ∀ k₀, k₀ < 4 → ∀ k₁, k₁ < 3 → ∀ k₂, k₂ < 2 → ∀ g, g < 6 → 1 ≤ (aC k₀ k₁ k₂) g ∧ (aC k₀ k₁ k₂) g ≤ 4 := by decide +kernel
theorem all_num : ∀ k₀, k₀ < 4 → ∀ k₁, k₁ < 3 → ∀ k₂, k₂ < 2 → (caseP k₀ k₁ k₂).num = numN (aC k₀ k₁ k₂) := by decide +kernel
theorem all_sd : ∀ k₀, k₀ < 4 → ∀ k₁, k₁ < 3 → ∀ k₂, k₂ < 2 → decO (fn_law_sides [.list ((List.range 6).map fun g => natV ((aC k₀ k₁ k₂) g))]) = some (sidesC k₀ k₁ k₂) := by decide +kernel
theorem all_sl : ∀ k₀, k₀ < 4 → ∀ k₁, k₁ < 3 → ∀ k₂, k₂ < 2 → (sidesC k₀ k₁ k₂).length = 5 := by decide +kernel
theorem all_sr : ∀ k₀, k₀ < 4 → ∀ k₁, k₁ < 3 → ∀ k₂, k₂ < 2 → ∀ r ∈ sidesC k₀ k₁ k₂, r.length ≤ 10 := by decide +kernel
theorem all_srt : ∀ k₀, k₀ < 4 → ∀ k₁, k₁ < 3 → ∀ k₂, k₂ < 2 → decO (bSortedL (.list ((takenB (rowS (caseP k₀ k₁ k₂))).map pairV))) = some ((onesC (sidesC k₀ k₁ k₂)).map pairI) := by decide +kernel
theorem all_one : ∀ k₀, k₀ < 4 → ∀ k₁, k₁ < 3 → ∀ k₂, k₂ < 2 → decO ((onesE [.un, .un, .un, .un, .un, .un, .un, .un, .un, .un, .un, .v (sidesV (sidesC k₀ k₁ k₂)), .un, .un, .un, .un, .un, .un, .un, .un]).map .list) = some ((onesC (sidesC k₀ k₁ k₂)).map pairI) := by decide +kernel
theorem all_ne : ∀ k₀, k₀ < 4 → ∀ k₁, k₁ < 3 → ∀ k₂, k₂ < 2 → cmpOp .NotEq (.list ((onesC (sidesC k₀ k₁ k₂)).map pairV)) (.list ((onesC (sidesC k₀ k₁ k₂)).map pairV)) = some false := by decide +kernel
theorem all_cnt : ∀ k₀, k₀ < 4 → ∀ k₁, k₁ < 3 → ∀ k₂, k₂ < 2 → cntT [.un, .un, .un, .un, .un, .un, .un, .un, .un, .un, .v (.list ((List.range 6).map fun g => natV ((aC k₀ k₁ k₂) g))), .un, .v (.list ((onesC (sidesC k₀ k₁ k₂)).map pairV)), .un, .un, .un, .un, .un, .un, .un] = some false := by decide +kernel
theorem all_ll : ∀ k₀, k₀ < 4 → ∀ k₁, k₁ < 3 → ∀ k₂, k₂ < 2 → ((caseP k₀ k₁ k₂).lines.getD 0 []).length ≤ 1000 := by decide +kernel
theorem all_s3 : ∀ k₀, k₀ < 4 → ∀ k₁, k₁ < 3 → ∀ k₂, k₂ < 2 → pF [[115], [115], [115]] ((caseP k₀ k₁ k₂).lines.getD 0 []) = true := by decide +kernel
theorem all_s4 : ∀ k₀, k₀ < 4 → ∀ k₁, k₁ < 3 → ∀ k₂, k₂ < 2 → pF [[115], [115], [115], [115]] ((caseP k₀ k₁ k₂).lines.getD 0 []) = false := by decide +kernel
theorem all_wy : ∀ k₀, k₀ < 4 → ∀ k₁, k₁ < 3 → ∀ k₂, k₂ < 2 → ∀ start, start < 4 → chkW ((caseP k₀ k₁ k₂).lines.getD 0 []) ((sidesC k₀ k₁ k₂).getD start []) start = true := by decide +kernel
theorem case_all (k₀ k₁ k₂ : Nat) (h0 : k₀ < 4) (h1 : k₁ < 3) (h2 : k₂ < 2) : Case (caseP k₀ k₁ k₂) (aC k₀ k₁ k₂) (sidesC k₀ k₁ k₂) (onesC (sidesC k₀ k₁ k₂)) where
  ok := all_ok k₀ h0 k₁ h1 k₂ h2
  len := all_len k₀ h0 k₁ h1 k₂ h2
  a4 := all_a4 k₀ h0 k₁ h1 k₂ h2
  num := all_num k₀ h0 k₁ h1 k₂ h2
  sd := all_sd k₀ h0 k₁ h1 k₂ h2
  sl := all_sl k₀ h0 k₁ h1 k₂ h2
  sr := all_sr k₀ h0 k₁ h1 k₂ h2
  srt := all_srt k₀ h0 k₁ h1 k₂ h2
  one := all_one k₀ h0 k₁ h1 k₂ h2
  ne := all_ne k₀ h0 k₁ h1 k₂ h2
  cnt := all_cnt k₀ h0 k₁ h1 k₂ h2
  ll := all_ll k₀ h0 k₁ h1 k₂ h2
  s3 := all_s3 k₀ h0 k₁ h1 k₂ h2
  s4 := all_s4 k₀ h0 k₁ h1 k₂ h2
  wy := all_wy k₀ h0 k₁ h1 k₂ h2
noncomputable def cellsBody (n : Nat) : List Sl → Option (Fl × List Sl) :=
  augIF 1 Operator.Add (bin2 (binOp Operator.Mod) (fun ρ => getH ρ 2) fun x => some (MV.int n)) fun ρ => getH ρ 3
theorem cells_loop (n : Nat) (hn : 0 < n) (hn2 : n ≤ 100) (scr : Sl) (rest : List Sl) : ∀ (xs : List Int) (j : Nat) (cs : List Int) (p x : Sl), cs.length = n →
    ∃ (cs' : List Int) (p' x' : Sl), cs'.length = n ∧ forL (tTup [2, 3]) (cellsBody n) (((xs.map MV.int).zipIdx j).map fun p => .tuple [.int p.2, p.1]) (scr :: .m (cs.map MV.int) :: p :: x :: rest) = some (.next, scr :: .m (cs'.map MV.int) :: p' :: x' :: rest)
  | [], j, cs, p, x, h => ⟨cs, p, x, h, rfl⟩
  | y :: xs, j, cs, p, x, h => by
    have hlim : (21000 : Nat) < lim := by decide
    have hj : j % n < cs.length := by rw [h]; exact Nat.mod_lt _ hn
    obtain ⟨cs', p', x', h1, e⟩ := cells_loop n hn hn2 scr rest xs (j + 1) (cs.set (j % n) (cs[j % n] + y)) (.v (.int j)) (.v (.int y)) (by rw [List.length_set, h])
    refine ⟨cs', p', x', h1, ?_⟩
    rw [List.map_cons, List.zipIdx_cons, List.map_cons]
    refine forL_next (ρ₁ := scr :: .m (cs.map MV.int) :: .v (.int j) :: .v (.int y) :: rest) rfl ((augIF_eq (xs := cs.map MV.int) (k := ((j % n : Nat) : Int)) (a := .int cs[j % n]) (b := .int y) (c := .int (cs[j % n] + y)) rfl ?_ rfl ?_ ?_ rfl).trans ?_) e
    · refine bin2_eq (a := .int j) (b := .int n) rfl rfl ?_
      show (if (n : Int) = 0 then none else some (MV.int ((j : Int).fmod n))) = _
      rw [if_neg (by omega), Int.fmod_eq_emod_of_nonneg _ (by omega)]; rfl
    · rw [List.length_map]; omega
    · rw [Int.toNat_natCast, List.getElem?_map, List.getElem?_eq_getElem hj]; rfl
    · rw [Int.toNat_natCast, List.map_set]; rfl
theorem cells_mod (cs : List Int) (hl : cs.length ≤ 100) {vars : List Str} {ρ r : List Sl} {s₀ : Sl} (hc : capR vars [] ρ = s₀ :: r) {g : List Sl → Option (List MV)} (hg : g ρ = some (cs.map MV.int)) :
    ∃ c : List Nat, c.length = cs.length ∧ (∀ x ∈ c, x < 10 ^ 6) ∧
      compN vars [] g (tName 0) noIf (emitB (bin2 (binOp Operator.Mod) (fun ρ => getH ρ 0) (bin2 (binOp Operator.Pow) (fun x => some (MV.int 10)) fun x => some (MV.int 6)))) ρ = some (c.map natV) := by
  have hlim : (21000 : Nat) < lim := by decide
  refine ⟨cs.map fun i => (i % 1000000).toNat, List.length_map .., fun x hx => ?_, ?_⟩
  · obtain ⟨i, _, rfl⟩ := List.mem_map.1 hx
    omega
  · refine (compN_map (h := fun x => match x with | .int i => .int (i % 1000000) | y => y) hg hc (fun x hx => ?_) (by rw [List.length_map]; omega)).trans ?_
    · obtain ⟨i, _, rfl⟩ := List.mem_map.1 hx
      refine bin2_eq (a := .int i) (b := .int 1000000) rfl (bin2_eq (a := .int 10) (b := .int 6) rfl rfl rfl) ?_
      show (if (1000000 : Int) = 0 then none else some (MV.int (i.fmod 1000000))) = _
      rw [if_neg (by decide), Int.fmod_eq_emod_of_nonneg _ (by decide)]
    · rw [List.map_map, List.map_map]
      refine congrArg some (List.map_congr_left fun i u0 => ?_)
      show MV.int (i % 1000000) = MV.int (((i % 1000000).toNat : Nat) : Int)
      rw [Int.toNat_of_nonneg (by omega)]
theorem law_last {P : PS} {a : Nat → Nat} {sides : List (List Int)} {ones : List (Nat × Nat)} (K : Case P a sides ones) (start : Nat) (hst : start < 4) (z0 z1 z2 z3 z4 z6 z7 z9 z10 z12 z14 z15 z16 z17 z18 z19 : Sl) :
    ∃ W : List Way, GapsP (P.lines.getD 0 []) (((List.range (5 - (start + 1))).map (start + 1 + ·)).map natV) (fun x x14 x15 x16 x17 => [z0, z1, z2, z3, z4, .v (.str (P.lines.getD 0 [])), z6, z7, .v (natV start), z9, z10, .v (sidesV sides), z12, x, x14, x15, x16, x17, z18, z19])
        [z0, z1, z2, z3, z4, .v (.str (P.lines.getD 0 [])), z6, z7, .v (natV start), z9, z10, .v (sidesV sides), z12, .v (.list [.list [.str [97 + start], .str []]]), z14, z15, z16, z17, z18, z19] := by
  refine ⟨[], ?_⟩
  have h := K.wy start hst
  unfold chkW at h
  cases ha : findL [97 + start] (P.lines.getD 0 []) with
  | none => rw [ha] at h; cases h
  | some k =>
    rw [ha] at h
    have hs : sides[start]? = some (sides.getD start []) := by
      have : start < sides.length := by rw [K.sl]; omega
      rw [List.getD_eq_getElem?_getD, List.getElem?_eq_getElem this]; rfl
    refine gaps_is _ K.ll sides (by rw [K.sl]; decide) K.sr start k (by omega) ha _ hs z0 z1 z2 z3 z4 z6 z7 z9 z10 z12 z18 z19 _ _ 8 z14 z15 z16 z17 h (fun g hg => ?_) ?_ fun w hw => ?_
    · obtain ⟨i, hi, rfl⟩ := List.mem_map.1 hg
      have := List.mem_range.1 hi
      omega
    · rw [List.length_map, List.length_range]; omega
    · rw [List.mem_singleton.1 hw]
      refine ⟨by nofun, fun p hp => ?_, Nat.le_of_ble_eq_true rfl, Nat.zero_le _⟩
      rw [List.mem_singleton.1 hp, List.mem_singleton]; omega
theorem fn_law_is (ns : List Int) : fn_law [.list (ns.map .int)] = some (.bool true) := by
  have hlim : (21000 : Nat) < lim := by decide
  refine Res.run (g := ex_law.1) rfl ?_
  unfold ex_law; dsimp only
  refine Res.next (ρ₁ := [.v (.list (ns.map .int)), .m ([24, 100, 649726, 4].map MV.int), .un, .un, .un, .un, .un, .un, .un, .un, .un, .un, .un, .un, .un, .un, .un, .un, .un, .un]) rfl ?_
  obtain ⟨cs, p, x, hcs, e⟩ := cells_loop 4 (by decide) (by decide) (.v (.list (ns.map .int))) [.un, .un, .un, .un, .un, .un, .un, .un, .un, .un, .un, .un, .un, .un, .un, .un] ns 0 [24, 100, 649726, 4] .un .un rfl
  refine Res.next (forF_eq (enumI_eq rfl rfl) e) ?_
  obtain ⟨c, hc, hc6, e2⟩ := cells_mod cs (by omega) (vars := [Str.ofString "cell"]) (ρ := [.v (.list (ns.map .int)), .v (.list (cs.map MV.int)), p, x, .un, .un, .un, .un, .un, .un, .un, .un, .un, .un, .un, .un, .un, .un, .un, .un]) (g := valI fun ρ => getV ρ 1) rfl (valI_eq rfl rfl)
  rw [hcs] at hc
  refine Res.next (ρ₁ := [.v (.list (ns.map .int)), .v (.list (c.map natV)), p, x, .un, .un, .un, .un, .un, .un, .un, .un, .un, .un, .un, .un, .un, .un, .un, .un]) (setF_eq (i := 1) (ρ := [.v (.list (ns.map .int)), .v (.list (cs.map MV.int)), p, x, .un, .un, .un, .un, .un, .un, .un, .un, .un, .un, .un, .un, .un, .un, .un, .un]) (ofN_eq e2)) ?_
  have e3 := fn_product_codes c hc
  have K := case_all (c.getD 0 0 % 4) (c.getD 1 0 % 3) (c.getD 2 0 % 2) (Nat.mod_lt _ (by decide)) (Nat.mod_lt _ (by decide)) (Nat.mod_lt _ (by decide))
  generalize caseP (c.getD 0 0 % 4) (c.getD 1 0 % 3) (c.getD 2 0 % 2) = P at e3 K
  generalize aC (c.getD 0 0 % 4) (c.getD 1 0 % 3) (c.getD 2 0 % 2) = a at K
  generalize onesC (sidesC (c.getD 0 0 % 4) (c.getD 1 0 % 3) (c.getD 2 0 % 2)) = ones at K
  generalize sidesC (c.getD 0 0 % 4) (c.getD 1 0 % 3) (c.getD 2 0 % 2) = sides at K
  have R := row_ok (c.getD 0 0 / 4 % 5) (c.getD 1 0 / 3 % 5) (c.getD 0 0 / 20 % 8) (c.getD 1 0 / 15 % 8) (c.getD 2 0 / 2 % 2) (Nat.mod_lt _ (by decide)) (Nat.mod_lt _ (by decide)) (Nat.mod_lt _ (by decide)) K.ok K.len
  have htk := fn_taken_is R (decP_spec K.srt)
  generalize hrow : MV.list (rowC (facT (c.getD 0 0 / 4 % 5) (c.getD 1 0 / 3 % 5) (things1.getD (c.getD 0 0 / 20 % 8) []) (things1.getD (c.getD 1 0 / 15 % 8) [])) (markC (c.getD 2 0 / 2 % 2)) (rowS P)) = row at e3 htk
  refine Res.next (ρ₁ := [.v (.list (ns.map .int)), .v (.list (c.map natV)), p, x, .v row, .v (.str (P.lines.getD 0 [])), .v (natV P.num), .un, .un, .un, .un, .un, .un, .un, .un, .un, .un, .un, .un, .un]) (setTF_eq (appF_eq (consF_eq rfl rfl) e3) rfl rfl) ?_
  have hc2 : c.getD 2 0 < 10 ^ 6 := by
    refine hc6 _ ?_
    have : 2 < c.length := by omega
    rw [List.getD_eq_getElem?_getD, List.getElem?_eq_getElem this]
    exact List.getElem_mem ..
  refine Res.next (ρ₁ := [.v (.list (ns.map .int)), .v (.list (c.map natV)), p, x, .v row, .v (.str (P.lines.getD 0 [])), .v (natV P.num), .v (.list ((List.range 6).map fun g => .int (liftN (c.getD 2 0) g))), .un, .un, .un, .un, .un, .un, .un, .un, .un, .un, .un, .un]) (setF_eq (ofN_eq (comp_r6 (fun g => .int (liftN (c.getD 2 0) g)) (range6 rfl) rfl fun g hg => lift_is hc hg))) ?_
  have D : Digs a (liftN (c.getD 2 0)) := ⟨K.a4, liftN_le _, liftN_0 _ hc2⟩
  generalize liftN (c.getD 2 0) = L at D
  have hsum : bSum (.list ((List.range 6).map fun g => .int (L g * ((16 ^ (5 - g) : Nat) : Int)))) = some (.int ((List.range 6).map fun g => L g * ((16 ^ (5 - g) : Nat) : Int)).sum) := rfl
  have hnum : (P.num : Int) + ((List.range 6).map fun g => L g * ((16 ^ (5 - g) : Nat) : Int)).sum = ((numN (digN a L) : Nat) : Int) := by rw [K.num]; exact D.num
  refine Res.next (ρ₁ := [.v (.list (ns.map .int)), .v (.list (c.map natV)), p, x, .v row, .v (.str (P.lines.getD 0 [])), .v (natV (numN (digN a L))), .v (.list ((List.range 6).map fun g => .int (L g))), .un, .un, .un, .un, .un, .un, .un, .un, .un, .un, .un, .un])
    (augF_eq (c := natV (numN (digN a L))) (a := natV P.num) rfl (app1_eq (ofN_eq (comp_r6 (fun g => .int (L g * ((16 ^ (5 - g) : Nat) : Int))) (range6 rfl) rfl fun g hg => part_sum D.l hg)) hsum) ?_) ?_
  · show some (MV.int ((P.num : Int) + _)) = _
    rw [hnum]; rfl
  have hlt := D.numlt
  have hhex := D.hex
  have hfront := D.front
  have hN0 : numN (digN a L) < 16 ^ 100 := Nat.lt_of_lt_of_le hlt (by decide)
  have c3 : (c.map natV)[3]? = some (natV (c.getD 3 0)) := by
    have : 3 < c.length := by omega
    rw [List.getElem?_map, List.getD_eq_getElem?_getD, List.getElem?_eq_getElem this]; rfl
  have hst : c.getD 3 0 % 4 < 4 := Nat.mod_lt _ (by decide)
  refine Res.next (ρ₁ := [.v (.list (ns.map .int)), .v (.list (c.map natV)), p, x, .v row, .v (.str (P.lines.getD 0 [])), .v (natV (numN (digN a L))), .v (.list ((List.range 6).map fun g => .int (L g))), .v (natV (c.getD 3 0 % 4)), .un, .un, .un, .un, .un, .un, .un, .un, .un, .un, .un])
    (setF_eq (mod_nat (b := 4) (item_at (xs := c.map natV) (i := 3) rfl rfl (by rw [List.length_map]; omega) c3) rfl (by decide))) ?_
  have hpar := cell_part (c := c) 3 4 2 (by decide) (by decide) (by decide) (by omega) (by omega) (f := fun ρ => getH ρ 1) (ρ := [.v (.list (ns.map .int)), .v (.list (c.map natV)), p, x, .v row, .v (.str (P.lines.getD 0 [])), .v (natV (numN (digN a L))), .v (.list ((List.range 6).map fun g => .int (L g))), .v (natV (c.getD 3 0 % 4)), .un, .un, .un, .un, .un, .un, .un, .un, .un, .un, .un]) rfl
  have hpl : c.getD 3 0 / 4 % 2 < 2 := Nat.mod_lt _ (by decide)
  generalize c.getD 3 0 / 4 % 2 = s at hpar hpl
  generalize c.getD 3 0 % 4 = start at hst hpar
  generalize hNN : numN (digN a L) = N at *
  have habs : ((N : Int) * (1 - (s : Int) * 2)).natAbs = N := by
    match s, hpl with
    | 0, _ => omega
    | 1, _ => omega
  have hI := fn_Int2AP_is ((N : Int) * (1 - (s : Int) * 2)) (by rw [habs]; exact hN0)
  rw [habs, hhex] at hI
  have hspar : -1000000000 ≤ (s : Int) ∧ (s : Int) ≤ 1000000000 := by omega
  refine Res.next (ρ₁ := [.v (.list (ns.map .int)), .v (.list (c.map natV)), p, x, .v row, .v (.str (P.lines.getD 0 [])), .v (natV N), .v (.list ((List.range 6).map fun g => .int (L g))), .v (natV start), .v (.bytes (((List.range 6).map (digN a L)).map b65)), .un, .un, .un, .un, .un, .un, .un, .un, .un, .un])
    (setF_eq (appF_eq (consF_eq (mul_int (a := (N : Int)) rfl (bin2_eq (a := .int 1) rfl (mul_int (a := (s : Int)) (b := 2) hpar rfl hspar) rfl) (by omega)) rfl) hI)) ?_
  have hI2 := fn_Int2AP_is ((N / 16 ^ (start + 3) : Nat) : Int) (by rw [Int.natAbs_natCast]; exact Nat.lt_of_le_of_lt (Nat.div_le_self ..) hN0)
  rw [Int.natAbs_natCast, hfront start hst] at hI2
  have hpw : 16 ^ (start + 3) ≤ 16 ^ 6 := Nat.pow_le_pow_right (by decide) (by omega)
  have hpw2 : 0 < 16 ^ (start + 3) := Nat.pow_pos (by decide)
  have h166 : (16 : Nat) ^ 6 = 16777216 := by decide
  refine Res.next (iteF_f (orT_eq (b := false) (c := false) (cmp2_eq (a := .int 6) (b := .int 6) (app1_eq rfl rfl) rfl rfl) fun u0 => cmp2_eq (a := .bytes ((((List.range 6).map (digN a L)).take (3 - start)).map b65)) (b := .bytes ((((List.range 6).map (digN a L)).take (3 - start)).map b65))
    (appF_eq (consF_eq (fdiv_nat (a := N) (b := 16 ^ (start + 3)) rfl (pow_nat (a := 16) rfl (add_nat (a := start) (b := 3) rfl rfl) (by decide) (by omega)) hpw2 (by omega)) rfl) hI2) (sliceF_eq (x := .bytes (((List.range 6).map (digN a L)).map b65)) (lo := none) (hi := some ((3 - start : Nat) : Int)) rfl rfl (partF_eq (sub_nat (a := 3) (b := start) rfl rfl (by omega))) ?_) ?_) rfl) ?_
  · show (if (((List.range 6).map (digN a L)).map b65).length ≤ lim then some (MV.bytes (cut (((List.range 6).map (digN a L)).map b65) none (some ((3 - start : Nat) : Int)))) else none) = _
    rw [List.length_map, List.length_map, List.length_range, if_pos (by omega), cut_headG, ← List.map_take]
  · show (some ((((List.range 6).map (digN a L)).take (3 - start)).map b65 == (((List.range 6).map (digN a L)).take (3 - start)).map b65)).map (!·) = _
    rw [beq_self_eq_true]; rfl
  refine Res.next (ρ₁ := [.v (.list (ns.map .int)), .v (.list (c.map natV)), p, x, .v row, .v (.str (P.lines.getD 0 [])), .v (natV N), .v (.list ((List.range 6).map fun g => .int (L g))), .v (natV start), .v (.bytes (((List.range 6).map (digN a L)).map b65)), .v (.list ((List.range 6).map fun g => natV (a g))), .un, .un, .un, .un, .un, .un, .un, .un, .un])
    (setCF_eq (comp_r6 (fun g => natV (a g)) (range6 rfl) rfl fun g hg => fig_is D hg)) ?_
  refine Res.next (ρ₁ := [.v (.list (ns.map .int)), .v (.list (c.map natV)), p, x, .v row, .v (.str (P.lines.getD 0 [])), .v (natV N), .v (.list ((List.range 6).map fun g => .int (L g))), .v (natV start), .v (.bytes (((List.range 6).map (digN a L)).map b65)), .v (.list ((List.range 6).map fun g => natV (a g))), .v (sidesV sides), .un, .un, .un, .un, .un, .un, .un, .un])
    (setF_eq (appF_eq (consF_eq rfl rfl) (decO_spec K.sd))) ?_
  have hone : ∀ ρ : List Sl, onesE ρ = onesE [.un, .un, .un, .un, .un, .un, .un, .un, .un, .un, .un, .v (sidesV sides), .un, .un, .un, .un, .un, .un, .un, .un] → onesE ρ = some (ones.map pairV) := fun ρ h => by
    have h1 := decP_spec K.one
    rw [Option.map_eq_some_iff] at h1
    obtain ⟨y, h2, h3⟩ := h1
    cases h3
    rw [h, h2]
  refine Res.next (ρ₁ := [.v (.list (ns.map .int)), .v (.list (c.map natV)), p, x, .v row, .v (.str (P.lines.getD 0 [])), .v (natV N), .v (.list ((List.range 6).map fun g => .int (L g))), .v (natV start), .v (.bytes (((List.range 6).map (digN a L)).map b65)), .v (.list ((List.range 6).map fun g => natV (a g))), .v (sidesV sides), .v (.list (ones.map pairV)), .un, .un, .un, .un, .un, .un, .un])
    (setCF_eq (v := ones.map pairV) (hone _ (onesE_at ..))) ?_
  refine Res.next (iteF_f (cmp2_eq (a := .list (ones.map pairV)) (b := .list (ones.map pairV)) (appF_eq (consF_eq rfl rfl) htk) rfl K.ne) rfl) ?_
  refine Res.next (iteF_f ((cntT_at ..).trans K.cnt) rfl) ?_
  refine Res.next (ρ₁ := [.v (.list (ns.map .int)), .v (.list (c.map natV)), p, x, .v row, .v (.str (P.lines.getD 0 [])), .v (natV N), .v (.list ((List.range 6).map fun g => .int (L g))), .v (natV start), .v (.bytes (((List.range 6).map (digN a L)).map b65)), .v (.list ((List.range 6).map fun g => natV (a g))), .v (sidesV sides), .v (.list (ones.map pairV)), .v (.list [.list [.str [97 + start], .str []]]), .un, .un, .un, .un, .un, .un])
    (setF_eq (ofN_eq (listN_eq (consF_eq (ofN_eq (listN_eq (consF_eq (abc_item (by omega) rfl) rfl) (by show 2 ≤ lim; omega))) rfl) (by show 1 ≤ lim; omega)))) ?_
  obtain ⟨_, W, x14, x15, x16, x17, e4, hW⟩ := law_last K start hst (.v (.list (ns.map .int))) (.v (.list (c.map natV))) p x (.v row) (.v (natV N)) (.v (.list ((List.range 6).map fun g => .int (L g)))) (.v (.bytes (((List.range 6).map (digN a L)).map b65))) (.v (.list ((List.range 6).map fun g => natV (a g)))) (.v (.list (ones.map pairV))) .un .un .un .un .un .un
  refine Res.next (forF_eq (range2_is (a := start + 1) (b := 5) (add_nat (a := start) (b := 1) rfl rfl) rfl (by omega) (by decide)) e4) ?_
  have m3 := match_is [[115], [115], [115]] (P.lines.getD 0 []) (by nofun) (by decide) (by decide) K.ll
  have m4 := match_is [[115], [115], [115], [115]] (P.lines.getD 0 []) (by nofun) (by decide) (by decide) K.ll
  rw [K.s3] at m3
  rw [K.s4] at m4
  refine Res.next (iteF_f (orT_eq (b := false) (c := false) (cmp2_eq (a := .bool true) (b := .bool true) (appF_eq (consF_eq rfl (consF_eq rfl rfl)) m3) rfl rfl) fun u0 => cmp2_eq (a := .bool false) (b := .bool false) (appF_eq (consF_eq rfl (consF_eq rfl rfl)) m4) rfl rfl) rfl) ?_
  obtain ⟨x18, x19, e5⟩ := ways_is (P.lines.getD 0 []) K.ll 192 (by decide) (.v (.list (ns.map .int))) (.v (.list (c.map natV))) p x (.v row) (.v (natV N)) (.v (.list ((List.range 6).map fun g => .int (L g)))) (.v (natV start)) (.v (.bytes (((List.range 6).map (digN a L)).map b65))) (.v (.list ((List.range 6).map fun g => natV (a g)))) (.v (sidesV sides)) (.v (.list (ones.map pairV)))
    (.v (.list (W.map wayV))) x14 x15 x16 x17 W .un .un hW
  refine Res.next (forF_eq rfl e5) (Res.ret rfl)
end Mine
end
section
open PySem PySem.W PySem.W.X PyProof.Rows
set_option maxRecDepth 100000
set_option maxHeartbeats 0
namespace Mine
noncomputable def recAt (p : Program) (n : Nat) : DefRec := match p.main.body[n]? with
  | some (.FunctionDef x a b _ _ _ sc _ _ pos) => ⟨x, a, b, sc, pos⟩
  | _ => ⟨"", ⟨[], [], none, [], [], none, []⟩, [], { kind := .module, names := [], isGenerator := false, isCoroutine := false }, default⟩
section
variable {p : Program} {loose : List Str} {mean : ExcName → Option Value} {mg mb : Str → Option Value} {h : Heap} {prog : Program} {w : World}
noncomputable def cfgOf (prog : Program) (w : World) (h : Heap) (mg mb : Str → Option Value) : Cfg := ⟨prog, w, h, mg, mb⟩
theorem cfg_ok (T : Top p loose mean mg mb h) : (cfgOf prog w h mg mb).Ok := ⟨T.g, T.b, T.nolimit⟩
theorem fnRec_of (T : Top p loose mean mg mb h) {d : DefRec} (hd : d ∈ recsOf p) {x : Str} {Φ : Fs} {params : List Str} {body : List Stmt} {gen : Bool} (h1 : d.name = x) (h2 : d.scope = Φ.sc) (h3 : d.body = body)
    (h4 : d.scope.isCoroutine = false) (h5 : d.scope.isGenerator = gen) (hb : ∀ pm cd doc (vals : List Value), vals.length = params.length → bindArgs (Calls.docDef d.name d.params d.body d.scope pm cd doc) ⟨vals, []⟩ = pure (params.zip vals)) :
    FnRec (cfgOf prog w h mg mb) x Φ params body gen := by
  obtain ⟨a, o, pm, code, doc, e1, e2, e3, e4⟩ := T.fn d hd
  subst h1
  exact ⟨a, o, _, e1, e2, e3, h2, rfl, rfl, rfl, by rw [← h3]; rfl, e4, h4, h5, hb pm code doc⟩
theorem glo_of (T : Top p loose mean mg mb h) (names : List Str) (hn : (recsOf p).map (·.name) = names) (lits : List Str) (hl : (litsOf p).map (·.1) = lits) (hc : (clssOf p loose).map (·.name) = []) (hlo : loose = []) {x : Str} {v : Value}
    (h1 : x ∉ startupNames) (h2 : x ∉ names) (h3 : x ∉ lits) (h4 : x ≠ "__name__") (h5 : bootBuiltins x = some v) : Glo (cfgOf prog w h mg mb) x v := by
  refine .inr ⟨T.free x h1 ?_ ?_ ?_ ?_, (T.builtins x h4).trans h5⟩
  · rw [hlo]; exact List.not_mem_nil
  · rw [hn]; exact h2
  · rw [hl]; exact h3
  · rw [hc]; exact List.not_mem_nil
theorem bi_of (T : Top p loose mean mg mb h) (names : List Str) (hn : (recsOf p).map (·.name) = names) (lits : List Str) (hl : (litsOf p).map (·.1) = lits) (hc : (clssOf p loose).map (·.name) = []) (hlo : loose = [])
    (hx : (["abs", "int", "divmod", "len", "ord", "chr", "sum", "bytes", "max", "range", "enumerate", "sorted"] : List Str).all (fun x => !startupNames.contains x && !names.contains x && !lits.contains x && x != "__name__") = true) : Bi (cfgOf prog w h mg mb) := by
  have G : ∀ x ∈ (["abs", "int", "divmod", "len", "ord", "chr", "sum", "bytes", "max", "range", "enumerate", "sorted"] : List Str), ∀ v, bootBuiltins x = some v → Glo (cfgOf prog w h mg mb) x v := fun x hxm v hv => by
    have := List.all_eq_true.1 hx x hxm
    rw [Bool.and_eq_true, Bool.and_eq_true, Bool.and_eq_true] at this
    have nc : ∀ l : List Str, (!l.contains x) = true → x ∉ l := fun l h hm => by
      rw [List.contains_iff_mem.2 hm] at h; cases h
    exact glo_of T names hn lits hl hc hlo (nc _ this.1.1.1) (nc _ this.1.1.2) (nc _ this.1.2) (bne_iff_ne.1 this.2) hv
  exact ⟨G _ (.head _) _ rfl, G _ (.tail _ (.head _)) _ rfl, G _ (.tail _ (.tail _ (.head _))) _ rfl, G _ (.tail _ (.tail _ (.tail _ (.head _)))) _ rfl, G _ (.tail _ (.tail _ (.tail _ (.tail _ (.head _))))) _ rfl, G _ (.tail _ (.tail _ (.tail _ (.tail _ (.tail _ (.head _)))))) _ rfl, G _ (.tail _ (.tail _ (.tail _ (.tail _ (.tail _ (.tail _ (.head _))))))) _ rfl, G _ (.tail _ (.tail _ (.tail _ (.tail _ (.tail _ (.tail _ (.tail _ (.head _)))))))) _ rfl, G _ (.tail _ (.tail _ (.tail _ (.tail _ (.tail _ (.tail _ (.tail _ (.tail _ (.head _))))))))) _ rfl, G _ (.tail _ (.tail _ (.tail _ (.tail _ (.tail _ (.tail _ (.tail _ (.tail _ (.tail _ (.head _)))))))))) _ rfl, G _ (.tail _ (.tail _ (.tail _ (.tail _ (.tail _ (.tail _ (.tail _ (.tail _ (.tail _ (.tail _ (.head _))))))))))) _ rfl, G _ (.tail _ (.tail _ (.tail _ (.tail _ (.tail _ (.tail _ (.tail _ (.tail _ (.tail _ (.tail _ (.tail _ (.head _)))))))))))) _ rfl⟩
theorem marker_of (T : Top p loose mean mg mb h) {x : Str} {cs : List Nat} (hv : valOf p x = some (.str ⟨cs.toArray⟩)) : ∃ t, Glo (cfgOf prog w h mg mb) x (.str ⟨cs.toArray⟩ t) := by
  obtain ⟨v, h1, h2⟩ := T.const x _ hv
  cases h2 h with
  | str _ t => exact ⟨t, .inl h1⟩
end
theorem vals0 : ∀ vals : List Value, vals.length = 0 → vals = []
  | [], _ => rfl
theorem valsS {n : Nat} : ∀ vals : List Value, vals.length = n + 1 → ∃ a r, vals = a :: r ∧ r.length = n
  | a :: r, h => ⟨a, r, rfl, Nat.succ.inj h⟩
theorem vals1 {P : List Value → Prop} (h : ∀ a, P [a]) (vals : List Value) (hl : vals.length = 1) : P vals := by
  obtain ⟨a, r, rfl, hr⟩ := valsS vals hl
  rw [vals0 r hr]; exact h a
theorem vals2 {P : List Value → Prop} (h : ∀ a b, P [a, b]) (vals : List Value) (hl : vals.length = 2) : P vals := by
  obtain ⟨a, r, rfl, hr⟩ := valsS vals hl
  exact vals1 (P := fun r => P (a :: r)) (fun b => h a b) r hr
theorem ints_rep {h : Heap} {K : Addr → Prop} : ∀ {vs : List Value} {ns : List Int}, IntsAre vs ns → RepAll h K vs (ns.map .int)
  | _, _, .nil => .nil
  | _, _, .cons n t r => .cons (.int n t) (ints_rep r)
theorem end_law {prog : Program} {w : World} {mg mb : Str → Option Value} {s₁ : Shared} {fn : List MV → Option MV} {ℓ : Nat} (S : FnS (cfgOf prog w s₁.heap mg mb) ℓ "law" fn) (hℓ : ℓ ≤ 20) {fa a : Addr} (hm : mg "law" = some (.ref fa)) {items : List Value} {ns : List Int}
    (ha : s₁.heap.get? a = some { cls := .type "list", data := .seq items.toArray }) (hI : IntsAre items ns) (hg : s₁.gens = #[]) (hf : fn [.list (ns.map .int)] = some (.bool true))
    {c : ClaimW} {cl : Str → Option Addr} {mean : ExcName → Option Value} {args : List WData} (hr : ∀ cls, c.raises args cls = false) (hp : c.post args (.bool true) args = true) :
    wpAny (model prog w) callerA (call (.ref fa) [.ref a]) (fun v s' => GoodWG c cl mean args s₁ (.ok (.ret v)) s') (fun e s' => GoodWG c cl mean args s₁ (.error e) s') s₁ := by
  obtain ⟨b, o, fd, h1, h2, h3, go⟩ := S
  have e : b = fa := by
    have : some (Value.ref b) = some (Value.ref fa) := h1.symm.trans hm
    injection this with this
    injection this
  subst e
  have hb : AllBare s₁.gens := by rw [hg]; exact AllBare.empty
  have R : Rm callerA ℓ := ⟨rfl, by show 1 + claimMargin + ℓ ≤ 900; have : claimMargin ≤ 800 := by decide
                                    omega, by show 4 + 16 * ℓ ≤ 9000; omega⟩
  have := go callerA R s₁ No [.ref a] [.list (ns.map .int)] (.bool true) (fun u0 u1 e => e) (Nat.le_refl _) hb (fun a ha => ha.elim) (.cons (.list ⟨0, ha⟩ (fun h => h) (ints_rep hI)) .nil) hf
  refine wp_any (wp_mono this fun v s' hv => ?_)
  obtain ⟨r, G⟩ := hv
  cases r with
  | bool =>
    exact ⟨.inl ⟨_, _, [], rfl, hr, ReadsW.bool true, hp, fun u0 => ⟨List.nodup_nil, fun u0 hm => (nomatch hm)⟩⟩, .of_keep fun b o e => G.get e, G.os, G.bare hb⟩
theorem law_S1 {p : Program} {loose : List Str} {mean : ExcName → Option Value} {mg mb : Str → Option Value} {h : Heap} {w : World} (T : Top p loose mean mg mb h)
    (hr : recsOf p = recsOf PySem.Challenge.pw_wb0025_01) (hl : (litsOf p).map (·.1) = [("ELLIPSIS_MARKER" : Str)]) (hc : (clssOf p loose).map (·.name) = []) (hlo : loose = [])
    (hv : valOf p ("ELLIPSIS_MARKER" : Str) = some (.str ⟨#[46, 46, 46]⟩)) : FnS (cfgOf PySem.Challenge.pw_wb0025_01 w h mg mb) 9 "law" fn_law := by
  have hN : (recsOf p).map (·.name) = [("Int2AP" : Str), ("_ellipsis_match" : Str), ("_iter_escaped_chars" : Str), ("_strip_quoted_realnames" : Str), ("_check_parenthesis" : Str), ("_law_product" : Str), ("_law_sides" : Str), ("_law_taken" : Str), ("law" : Str)] := by rw [hr]; rfl
  have B : Bi (cfgOf PySem.Challenge.pw_wb0025_01 w h mg mb) := bi_of T _ hN _ hl hc hlo (by decide +kernel)
  have hC : (cfgOf PySem.Challenge.pw_wb0025_01 w h mg mb).Ok := cfg_ok T
  have M : ∀ i n, (recsOf PySem.Challenge.pw_wb0025_01)[i]? = some (recAt PySem.Challenge.pw_wb0025_01 n) → recAt PySem.Challenge.pw_wb0025_01 n ∈ recsOf p := fun i n e => by
    rw [hr]; exact List.mem_of_getElem? e
  have R1 : FnRec (cfgOf PySem.Challenge.pw_wb0025_01 w h mg mb) "_iter_escaped_chars" phi_iter [("addr" : Str)] body_iter true := fnRec_of T (M 2 6 rfl) rfl rfl rfl rfl rfl fun pm cd doc => vals1 fun u0 => rfl
  have R2 : FnRec (cfgOf PySem.Challenge.pw_wb0025_01 w h mg mb) "_strip_quoted_realnames" phi_strip_quoted_realnames [("addr" : Str)] body_strip_quoted_realnames false := fnRec_of T (M 3 7 rfl) rfl rfl rfl rfl rfl fun pm cd doc => vals1 fun u0 => rfl
  have R3 : FnRec (cfgOf PySem.Challenge.pw_wb0025_01 w h mg mb) "_check_parenthesis" phi_check_parenthesis [("addr" : Str)] body_check_parenthesis false := fnRec_of T (M 4 8 rfl) rfl rfl rfl rfl rfl fun pm cd doc => vals1 fun u0 => rfl
  have R4 : FnRec (cfgOf PySem.Challenge.pw_wb0025_01 w h mg mb) "_ellipsis_match" phi_ellipsis_match [("want" : Str), ("got" : Str)] body_ellipsis_match false := fnRec_of T (M 1 4 rfl) rfl rfl rfl rfl rfl fun pm cd doc => vals2 fun u0 u1 => rfl
  have R5 : FnRec (cfgOf PySem.Challenge.pw_wb0025_01 w h mg mb) "Int2AP" phi_Int2AP [("num" : Str)] body_Int2AP false := fnRec_of T (M 0 1 rfl) rfl rfl rfl rfl rfl fun pm cd doc => vals1 fun u0 => rfl
  have R6 : FnRec (cfgOf PySem.Challenge.pw_wb0025_01 w h mg mb) "_law_product" phi_law_product [("cells" : Str)] body_law_product false := fnRec_of T (M 5 10 rfl) rfl rfl rfl rfl rfl fun pm cd doc => vals1 fun u0 => rfl
  have R7 : FnRec (cfgOf PySem.Challenge.pw_wb0025_01 w h mg mb) "_law_sides" phi_law_sides [("figures" : Str)] body_law_sides false := fnRec_of T (M 6 11 rfl) rfl rfl rfl rfl rfl fun pm cd doc => vals1 fun u0 => rfl
  have R8 : FnRec (cfgOf PySem.Challenge.pw_wb0025_01 w h mg mb) "_law_taken" phi_law_taken [("row" : Str)] body_law_taken false := fnRec_of T (M 7 12 rfl) rfl rfl rfl rfl rfl fun pm cd doc => vals1 fun u0 => rfl
  have R9 : FnRec (cfgOf PySem.Challenge.pw_wb0025_01 w h mg mb) "law" phi_law [("script" : Str)] body_law false := fnRec_of T (M 8 13 rfl) rfl rfl rfl rfl rfl fun pm cd doc => vals1 fun u0 => rfl
  have S1 := fnG_iter _ hC B R1
  have S2 := fnS_strip_quoted_realnames _ hC B S1 R2
  have S3 := fnS_check_parenthesis _ hC B S2 S1 R3
  have S4 := fnS_ellipsis_match _ hC B (marker_of T hv) R4
  have S5 := fnS_Int2AP _ hC B R5
  have S6 := fnS_law_product _ hC B R6
  have S7 := fnS_law_sides _ hC B R7
  have S8 := fnS_law_taken _ hC B S3 R8
  exact fnS_law _ hC B S6 S5 S7 S8 S4 R9
end Mine
end
open PySem PySem.W PySem.W.X PyProof.Rows
open PySem.W.X PySem.W.ZRun
set_option maxRecDepth 100000 in
set_option maxHeartbeats 0 in
theorem PySem.Challenge.cw_wb0025_01_holds : PySem.Challenge.rw_wb0025_01.Holds := by
  w_on; o_law; z_head; (case hw => w_witness2)
  k_fill
  intro w s₀ s₁ mg mb G y fa o pm cd doc dV kV ho hd hcd hD hmg hg args vals as L hpre hlay hrd hwl hlo
  z_open y L KX ZH ZN ZT
  refine Ground.open G ?_
  intro T B D TE TW
  wrow_args hpre hlay hrd hwl hlo
  refine Mine.end_law (Mine.law_S1 T (by rfl) (by rfl) (by rfl) (by rfl) (by rfl)) (by decide) hmg (script_obj L (by assumption)) (by assumption) hg (Mine.fn_law_is _) (fun u0 => rfl) ?_
  first | rfl | wrow_post
