import PyProof.Rows.All
import Wide.All
import OpenK.AllK
import Wide.FinOn
import PySem.Challenge.RW_ez0200_01
set_option Elab.async false
section
open PySem PySem.W PyProof.Rows PySem.Calls
set_option maxRecDepth 100000
namespace Mine

/-! the text's pieces, by their place -/
def S (i : Nat) : Stmt := (PySem.Challenge.pw_ez0200_01.main.body[i]?).getD (.Pass default)
def dBody : Stmt → List Stmt
  | .FunctionDef _ _ b .. => b
  | .ClassDef (body := b) .. => b
  | _ => []
def dArgs : Stmt → Arguments
  | .FunctionDef (args := a) .. => a
  | _ => default
def dScope : Stmt → Scope
  | .FunctionDef (scope := a) .. => a
  | _ => default
def dName : Stmt → Str
  | .FunctionDef (name := a) .. => a
  | .ClassDef (name := a) .. => a
  | _ => default
/-- a method: statement j of class i -/
def SM (i j : Nat) : Stmt := ((dBody (S i))[j]?).getD (.Pass default)

structure Cst where
  g : Array GenState
  d : Drawn
  o : OsState
abbrev mk (c : Cst) (h : Heap) (t : Nat) : Shared := ⟨h, c.g, c.d, t + 1, c.o⟩
abbrev NE : Value → Shared → Prop := fun _ _ => False
/-- every object of h stands in h' as it was -/
def Keep (h h' : Heap) : Prop := ∀ b o, h.get? b = some o → h'.get? b = some o
theorem Keep.refl (h : Heap) : Keep h h := fun _ _ e => e
theorem Keep.trans {a b c : Heap} (x : Keep a b) (y : Keep b c) : Keep a c := fun p o e => y p o (x p o e)
theorem Keep.push (h : Heap) (o : Obj) : Keep h (h.push o) := fun _ _ e => Heap.get?_push_of_some o e
theorem Keep.size {a b : Heap} (x : Keep a b) {p : Addr} {o : Obj} (e : a.get? p = some o) : p < b.objs.size := Heap.lt_size (x p o e)

/-- what stands in a function's frame -/
structure Loc (env : Env) (h : Heap) (l : List (Str × Option Value)) : Prop where
  fn : env.scope.kind = .function
  names : ∀ p ∈ l, env.kindOf p.1 = some .local ∧ (p.1 == ("__debug__" : Str)) = false
  nd : (l.map (·.1)).Nodup
  ns : ∃ m, h.Ns env.locals m ∧ ∀ p ∈ l, m p.1 = p.2

theorem Loc.keep {env : Env} {h h' : Heap} {l} (x : Loc env h l) (e : ∀ o, h.get? env.locals = some o → h'.get? env.locals = some o) : Loc env h' l :=
  ⟨x.fn, x.names, x.nd, let ⟨m, hn, hm⟩ := x.ns; ⟨m, hn.at' e, hm⟩⟩
theorem Loc.keeps {env : Env} {h h' : Heap} {l} (x : Loc env h l) (k : Keep h h') : Loc env h' l := x.keep fun o e => k _ o e
theorem Loc.lt {env : Env} {h : Heap} {l} (x : Loc env h l) : env.locals < h.objs.size := let ⟨_, hn, _⟩ := x.ns; hn.lt

theorem Loc.store {env : Env} {h h' : Heap} {l₁ l₂ : List (Str × Option Value)} {x : Str} {o : Option Value} {v : Value} {m : Str → Option Value}
    (L : Loc env h (l₁ ++ (x, o) :: l₂)) (hm : ∀ p ∈ l₁ ++ (x, o) :: l₂, m p.1 = p.2) (hn : h'.Ns env.locals (fun y => if y = x then some v else m y)) : Loc env h' (l₁ ++ (x, some v) :: l₂) := by
  have nd := L.nd
  rw [List.map_append, List.map_cons] at nd
  refine ⟨L.fn, fun p hp => ?_, by rw [List.map_append, List.map_cons]; exact nd, _, hn, fun p hp => ?_⟩
  · rcases List.mem_append.mp hp with q | q
    · exact L.names p (List.mem_append_left _ q)
    · rcases List.mem_cons.mp q with rfl | q
      · exact L.names (x, o) (List.mem_append_right _ (.head _))
      · exact L.names p (List.mem_append_right _ (.tail _ q))
  · have ne : ∀ q : Str × Option Value, q ∈ l₁ ∨ q ∈ l₂ → q.1 ≠ x := by
      intro q hq e
      have nd' := (List.nodup_append.mp nd)
      rcases hq with hq | hq
      · exact nd'.2.2 _ (List.mem_map_of_mem hq) _ (.head _) e
      · exact (List.nodup_cons.mp nd'.2.1).1 (List.mem_map.mpr ⟨q, hq, e⟩)
    rcases List.mem_append.mp hp with q | q
    · rw [if_neg (ne p (.inl q))]; exact hm p (List.mem_append_left _ q)
    · rcases List.mem_cons.mp q with rfl | q
      · rw [if_pos rfl]
      · rw [if_neg (ne p (.inr q))]; exact hm p (List.mem_append_right _ (.tail _ q))

/-- a function's frame above the heap it was called on; P: what else stands, untouched by the frame -/
def Stb (L : Addr) (P : Heap → Prop) : Prop := ∀ h h', (∀ b o, b ≠ L → h.get? b = some o → h'.get? b = some o) → P h → P h'
theorem Stb.true {L : Addr} : Stb L (fun _ => True) := fun _ _ _ x => x
theorem Stb.and {L : Addr} {P Q : Heap → Prop} (p : Stb L P) (q : Stb L Q) : Stb L (fun h => P h ∧ Q h) := fun h h' k x => ⟨p h h' k x.1, q h h' k x.2⟩
theorem Stb.ex {L : Addr} {α : Sort _} {P : α → Heap → Prop} (p : ∀ a, Stb L (P a)) : Stb L (fun h => ∃ a, P a h) := fun h h' k ⟨a, x⟩ => ⟨a, p a h h' k x⟩
theorem Stb.all {L : Addr} {α : Sort _} {P : α → Heap → Prop} (p : ∀ a, Stb L (P a)) : Stb L (fun h => ∀ a, P a h) := fun h h' k x a => p a h h' k (x a)
theorem Stb.const {L : Addr} {p : Prop} : Stb L (fun _ => p) := fun _ _ _ x => x
theorem Stb.at {L a : Addr} {P : Heap → Prop} (hne : a ≠ L) (p : ∀ h h' : Heap, (∀ o, h.get? a = some o → h'.get? a = some o) → P h → P h') : Stb L P :=
  fun h h' k x => p h h' (fun o e => k a o hne e) x

structure Fn (env : Env) (hB : Heap) (P : Heap → Prop) (h : Heap) (l : List (Str × Option Value)) : Prop where
  loc : Loc env h l
  keep : Keep hB h
  above : hB.objs.size ≤ env.locals
  inv : P h
  stb : Stb env.locals P

theorem Fn.ext {env : Env} {hB h h' : Heap} {P : Heap → Prop} {l} (F : Fn env hB P h l) (k : Keep h h') : Fn env hB P h' l :=
  ⟨F.loc.keeps k, F.keep.trans k, F.above, F.stb h h' (fun b o _ e => k b o e) F.inv, F.stb⟩
theorem Fn.push {env : Env} {hB h : Heap} {P : Heap → Prop} {l} (F : Fn env hB P h l) (o : Obj) : Fn env hB P (h.push o) l := F.ext (Keep.push h o)
theorem Fn.to {env : Env} {hB h h' : Heap} {P P' : Heap → Prop} {l} (F : Fn env hB P h l) (kB : ∀ b o, hB.get? b = some o → h.get? b = some o → h'.get? b = some o) (kL : ∀ o, h.get? env.locals = some o → h'.get? env.locals = some o)
    (i : P' h') (s : Stb env.locals P') : Fn env hB P' h' l := ⟨F.loc.keep kL, fun b o e => kB b o e (F.keep b o e), F.above, i, s⟩
/-- another word about the same heap -/
theorem Fn.say {env : Env} {hB h : Heap} {P P' : Heap → Prop} {l} (F : Fn env hB P h l) (i : P' h) (s : Stb env.locals P') : Fn env hB P' h l := ⟨F.loc, F.keep, F.above, i, s⟩
/-- an object above the base, no frame, is changed -/
theorem Fn.upd {env : Env} {hB h h' : Heap} {P P' : Heap → Prop} {l} {a : Addr} (F : Fn env hB P h l) (ha : hB.objs.size ≤ a) (hL : a ≠ env.locals) (s : ∀ b o, b ≠ a → h.get? b = some o → h'.get? b = some o) (i : P' h') (st : Stb env.locals P') : Fn env hB P' h' l :=
  F.to (fun b o e e' => s b o (Nat.ne_of_lt (Nat.lt_of_lt_of_le (Heap.lt_size e) ha)) e') (fun o e => s _ o hL.symm e) i st

section
variable {M : Model} {A : Around} {E : Value → Shared → Prop} {env : Env} {hB h : Heap} {P : Heap → Prop} {c : Cst} {t : Nat} {l : List (Str × Option Value)}

theorem nm {x : Str} {pos : Pos} {v : Value} {Q : Value → Shared → Prop} (F : Fn env hB P h l) (hx : (x, some v) ∈ l) (k : Q v (mk c h t)) :
    wpAny M A (eval (.Name x pos) env) Q E (mk c h t) :=
  let ⟨_, hn, hm⟩ := F.loc.ns
  wpAny_Name (wpAny_loadName_local F.loc.fn (F.loc.names _ hx).1 hn (hm _ hx) k) (F.loc.names _ hx).2
theorem ldn {x : Str} {v : Value} {Q : Value → Shared → Prop} (F : Fn env hB P h l) (hx : (x, some v) ∈ l) (k : Q v (mk c h t)) :
    wpAny M A (loadName env x) Q E (mk c h t) :=
  let ⟨_, hn, hm⟩ := F.loc.ns
  wpAny_loadName_local F.loc.fn (F.loc.names _ hx).1 hn (hm _ hx) k

theorem st_at {l₁ l₂ : List (Str × Option Value)} {x : Str} {o : Option Value} {v : Value} {Q : Unit → Shared → Prop} (F : Fn env hB P h (l₁ ++ (x, o) :: l₂))
    (k : ∀ h' t', Fn env hB P h' (l₁ ++ (x, some v) :: l₂) → Heap.SameBut env.locals h h' → Q () (mk c h' t')) : wpAny M A (storeName env x v) Q E (mk c h t) := by
  obtain ⟨m, hn, hm⟩ := F.loc.ns
  refine wpAny_storeName_local (F.loc.names (x, o) (List.mem_append_right _ (.head _))).1 hn (fun h' hn' hs => k h' _ ⟨F.loc.store hm hn', fun b ob e => hs.extBut b ob (Nat.ne_of_lt (Nat.lt_of_lt_of_le (Heap.lt_size e) F.above)) (F.keep b ob e), F.above, F.stb h h' hs.extBut F.inv, F.stb⟩ hs) ?_
  rw [F.loc.fn]; rfl
theorem st0 {o : Option Value} {r} {x : Str} {v : Value} {Q : Unit → Shared → Prop} (F : Fn env hB P h ((x, o) :: r))
    (k : ∀ h' t', Fn env hB P h' ((x, some v) :: r) → Heap.SameBut env.locals h h' → Q () (mk c h' t')) : wpAny M A (storeName env x v) Q E (mk c h t) := st_at (l₁ := []) F k
theorem st1 {a0} {o : Option Value} {r} {x : Str} {v : Value} {Q : Unit → Shared → Prop} (F : Fn env hB P h (a0 :: (x, o) :: r))
    (k : ∀ h' t', Fn env hB P h' (a0 :: (x, some v) :: r) → Heap.SameBut env.locals h h' → Q () (mk c h' t')) : wpAny M A (storeName env x v) Q E (mk c h t) := st_at (l₁ := [a0]) F k
theorem st2 {a0 a1} {o : Option Value} {r} {x : Str} {v : Value} {Q : Unit → Shared → Prop} (F : Fn env hB P h (a0 :: a1 :: (x, o) :: r))
    (k : ∀ h' t', Fn env hB P h' (a0 :: a1 :: (x, some v) :: r) → Heap.SameBut env.locals h h' → Q () (mk c h' t')) : wpAny M A (storeName env x v) Q E (mk c h t) := st_at (l₁ := [a0, a1]) F k
theorem st3 {a0 a1 a2} {o : Option Value} {r} {x : Str} {v : Value} {Q : Unit → Shared → Prop} (F : Fn env hB P h (a0 :: a1 :: a2 :: (x, o) :: r))
    (k : ∀ h' t', Fn env hB P h' (a0 :: a1 :: a2 :: (x, some v) :: r) → Heap.SameBut env.locals h h' → Q () (mk c h' t')) : wpAny M A (storeName env x v) Q E (mk c h t) := st_at (l₁ := [a0, a1, a2]) F k
theorem st4 {a0 a1 a2 a3} {o : Option Value} {r} {x : Str} {v : Value} {Q : Unit → Shared → Prop} (F : Fn env hB P h (a0 :: a1 :: a2 :: a3 :: (x, o) :: r))
    (k : ∀ h' t', Fn env hB P h' (a0 :: a1 :: a2 :: a3 :: (x, some v) :: r) → Heap.SameBut env.locals h h' → Q () (mk c h' t')) : wpAny M A (storeName env x v) Q E (mk c h t) := st_at (l₁ := [a0, a1, a2, a3]) F k
theorem st5 {a0 a1 a2 a3 a4} {o : Option Value} {r} {x : Str} {v : Value} {Q : Unit → Shared → Prop} (F : Fn env hB P h (a0 :: a1 :: a2 :: a3 :: a4 :: (x, o) :: r))
    (k : ∀ h' t', Fn env hB P h' (a0 :: a1 :: a2 :: a3 :: a4 :: (x, some v) :: r) → Heap.SameBut env.locals h h' → Q () (mk c h' t')) : wpAny M A (storeName env x v) Q E (mk c h t) := st_at (l₁ := [a0, a1, a2, a3, a4]) F k
theorem st6 {a0 a1 a2 a3 a4 a5} {o : Option Value} {r} {x : Str} {v : Value} {Q : Unit → Shared → Prop} (F : Fn env hB P h (a0 :: a1 :: a2 :: a3 :: a4 :: a5 :: (x, o) :: r))
    (k : ∀ h' t', Fn env hB P h' (a0 :: a1 :: a2 :: a3 :: a4 :: a5 :: (x, some v) :: r) → Heap.SameBut env.locals h h' → Q () (mk c h' t')) : wpAny M A (storeName env x v) Q E (mk c h t) := st_at (l₁ := [a0, a1, a2, a3, a4, a5]) F k
theorem st7 {a0 a1 a2 a3 a4 a5 a6} {o : Option Value} {r} {x : Str} {v : Value} {Q : Unit → Shared → Prop} (F : Fn env hB P h (a0 :: a1 :: a2 :: a3 :: a4 :: a5 :: a6 :: (x, o) :: r))
    (k : ∀ h' t', Fn env hB P h' (a0 :: a1 :: a2 :: a3 :: a4 :: a5 :: a6 :: (x, some v) :: r) → Heap.SameBut env.locals h h' → Q () (mk c h' t')) : wpAny M A (storeName env x v) Q E (mk c h t) := st_at (l₁ := [a0, a1, a2, a3, a4, a5, a6]) F k
theorem st8 {a0 a1 a2 a3 a4 a5 a6 a7} {o : Option Value} {r} {x : Str} {v : Value} {Q : Unit → Shared → Prop} (F : Fn env hB P h (a0 :: a1 :: a2 :: a3 :: a4 :: a5 :: a6 :: a7 :: (x, o) :: r))
    (k : ∀ h' t', Fn env hB P h' (a0 :: a1 :: a2 :: a3 :: a4 :: a5 :: a6 :: a7 :: (x, some v) :: r) → Heap.SameBut env.locals h h' → Q () (mk c h' t')) : wpAny M A (storeName env x v) Q E (mk c h t) := st_at (l₁ := [a0, a1, a2, a3, a4, a5, a6, a7]) F k
theorem st9 {a0 a1 a2 a3 a4 a5 a6 a7 a8} {o : Option Value} {r} {x : Str} {v : Value} {Q : Unit → Shared → Prop} (F : Fn env hB P h (a0 :: a1 :: a2 :: a3 :: a4 :: a5 :: a6 :: a7 :: a8 :: (x, o) :: r))
    (k : ∀ h' t', Fn env hB P h' (a0 :: a1 :: a2 :: a3 :: a4 :: a5 :: a6 :: a7 :: a8 :: (x, some v) :: r) → Heap.SameBut env.locals h h' → Q () (mk c h' t')) : wpAny M A (storeName env x v) Q E (mk c h t) := st_at (l₁ := [a0, a1, a2, a3, a4, a5, a6, a7, a8]) F k
theorem st10 {a0 a1 a2 a3 a4 a5 a6 a7 a8 a9} {o : Option Value} {r} {x : Str} {v : Value} {Q : Unit → Shared → Prop} (F : Fn env hB P h (a0 :: a1 :: a2 :: a3 :: a4 :: a5 :: a6 :: a7 :: a8 :: a9 :: (x, o) :: r))
    (k : ∀ h' t', Fn env hB P h' (a0 :: a1 :: a2 :: a3 :: a4 :: a5 :: a6 :: a7 :: a8 :: a9 :: (x, some v) :: r) → Heap.SameBut env.locals h h' → Q () (mk c h' t')) : wpAny M A (storeName env x v) Q E (mk c h t) := st_at (l₁ := [a0, a1, a2, a3, a4, a5, a6, a7, a8, a9]) F k
theorem st11 {a0 a1 a2 a3 a4 a5 a6 a7 a8 a9 a10} {o : Option Value} {r} {x : Str} {v : Value} {Q : Unit → Shared → Prop} (F : Fn env hB P h (a0 :: a1 :: a2 :: a3 :: a4 :: a5 :: a6 :: a7 :: a8 :: a9 :: a10 :: (x, o) :: r))
    (k : ∀ h' t', Fn env hB P h' (a0 :: a1 :: a2 :: a3 :: a4 :: a5 :: a6 :: a7 :: a8 :: a9 :: a10 :: (x, some v) :: r) → Heap.SameBut env.locals h h' → Q () (mk c h' t')) : wpAny M A (storeName env x v) Q E (mk c h t) := st_at (l₁ := [a0, a1, a2, a3, a4, a5, a6, a7, a8, a9, a10]) F k
theorem st12 {a0 a1 a2 a3 a4 a5 a6 a7 a8 a9 a10 a11} {o : Option Value} {r} {x : Str} {v : Value} {Q : Unit → Shared → Prop} (F : Fn env hB P h (a0 :: a1 :: a2 :: a3 :: a4 :: a5 :: a6 :: a7 :: a8 :: a9 :: a10 :: a11 :: (x, o) :: r))
    (k : ∀ h' t', Fn env hB P h' (a0 :: a1 :: a2 :: a3 :: a4 :: a5 :: a6 :: a7 :: a8 :: a9 :: a10 :: a11 :: (x, some v) :: r) → Heap.SameBut env.locals h h' → Q () (mk c h' t')) : wpAny M A (storeName env x v) Q E (mk c h t) := st_at (l₁ := [a0, a1, a2, a3, a4, a5, a6, a7, a8, a9, a10, a11]) F k
theorem st13 {a0 a1 a2 a3 a4 a5 a6 a7 a8 a9 a10 a11 a12} {o : Option Value} {r} {x : Str} {v : Value} {Q : Unit → Shared → Prop} (F : Fn env hB P h (a0 :: a1 :: a2 :: a3 :: a4 :: a5 :: a6 :: a7 :: a8 :: a9 :: a10 :: a11 :: a12 :: (x, o) :: r))
    (k : ∀ h' t', Fn env hB P h' (a0 :: a1 :: a2 :: a3 :: a4 :: a5 :: a6 :: a7 :: a8 :: a9 :: a10 :: a11 :: a12 :: (x, some v) :: r) → Heap.SameBut env.locals h h' → Q () (mk c h' t')) : wpAny M A (storeName env x v) Q E (mk c h t) := st_at (l₁ := [a0, a1, a2, a3, a4, a5, a6, a7, a8, a9, a10, a11, a12]) F k
theorem st14 {a0 a1 a2 a3 a4 a5 a6 a7 a8 a9 a10 a11 a12 a13} {o : Option Value} {r} {x : Str} {v : Value} {Q : Unit → Shared → Prop} (F : Fn env hB P h (a0 :: a1 :: a2 :: a3 :: a4 :: a5 :: a6 :: a7 :: a8 :: a9 :: a10 :: a11 :: a12 :: a13 :: (x, o) :: r))
    (k : ∀ h' t', Fn env hB P h' (a0 :: a1 :: a2 :: a3 :: a4 :: a5 :: a6 :: a7 :: a8 :: a9 :: a10 :: a11 :: a12 :: a13 :: (x, some v) :: r) → Heap.SameBut env.locals h h' → Q () (mk c h' t')) : wpAny M A (storeName env x v) Q E (mk c h t) := st_at (l₁ := [a0, a1, a2, a3, a4, a5, a6, a7, a8, a9, a10, a11, a12, a13]) F k
theorem st15 {a0 a1 a2 a3 a4 a5 a6 a7 a8 a9 a10 a11 a12 a13 a14} {o : Option Value} {r} {x : Str} {v : Value} {Q : Unit → Shared → Prop} (F : Fn env hB P h (a0 :: a1 :: a2 :: a3 :: a4 :: a5 :: a6 :: a7 :: a8 :: a9 :: a10 :: a11 :: a12 :: a13 :: a14 :: (x, o) :: r))
    (k : ∀ h' t', Fn env hB P h' (a0 :: a1 :: a2 :: a3 :: a4 :: a5 :: a6 :: a7 :: a8 :: a9 :: a10 :: a11 :: a12 :: a13 :: a14 :: (x, some v) :: r) → Heap.SameBut env.locals h h' → Q () (mk c h' t')) : wpAny M A (storeName env x v) Q E (mk c h t) := st_at (l₁ := [a0, a1, a2, a3, a4, a5, a6, a7, a8, a9, a10, a11, a12, a13, a14]) F k
theorem st16 {a0 a1 a2 a3 a4 a5 a6 a7 a8 a9 a10 a11 a12 a13 a14 a15} {o : Option Value} {r} {x : Str} {v : Value} {Q : Unit → Shared → Prop} (F : Fn env hB P h (a0 :: a1 :: a2 :: a3 :: a4 :: a5 :: a6 :: a7 :: a8 :: a9 :: a10 :: a11 :: a12 :: a13 :: a14 :: a15 :: (x, o) :: r))
    (k : ∀ h' t', Fn env hB P h' (a0 :: a1 :: a2 :: a3 :: a4 :: a5 :: a6 :: a7 :: a8 :: a9 :: a10 :: a11 :: a12 :: a13 :: a14 :: a15 :: (x, some v) :: r) → Heap.SameBut env.locals h h' → Q () (mk c h' t')) : wpAny M A (storeName env x v) Q E (mk c h t) := st_at (l₁ := [a0, a1, a2, a3, a4, a5, a6, a7, a8, a9, a10, a11, a12, a13, a14, a15]) F k
theorem st17 {a0 a1 a2 a3 a4 a5 a6 a7 a8 a9 a10 a11 a12 a13 a14 a15 a16} {o : Option Value} {r} {x : Str} {v : Value} {Q : Unit → Shared → Prop} (F : Fn env hB P h (a0 :: a1 :: a2 :: a3 :: a4 :: a5 :: a6 :: a7 :: a8 :: a9 :: a10 :: a11 :: a12 :: a13 :: a14 :: a15 :: a16 :: (x, o) :: r))
    (k : ∀ h' t', Fn env hB P h' (a0 :: a1 :: a2 :: a3 :: a4 :: a5 :: a6 :: a7 :: a8 :: a9 :: a10 :: a11 :: a12 :: a13 :: a14 :: a15 :: a16 :: (x, some v) :: r) → Heap.SameBut env.locals h h' → Q () (mk c h' t')) : wpAny M A (storeName env x v) Q E (mk c h t) := st_at (l₁ := [a0, a1, a2, a3, a4, a5, a6, a7, a8, a9, a10, a11, a12, a13, a14, a15, a16]) F k
theorem st18 {a0 a1 a2 a3 a4 a5 a6 a7 a8 a9 a10 a11 a12 a13 a14 a15 a16 a17} {o : Option Value} {r} {x : Str} {v : Value} {Q : Unit → Shared → Prop} (F : Fn env hB P h (a0 :: a1 :: a2 :: a3 :: a4 :: a5 :: a6 :: a7 :: a8 :: a9 :: a10 :: a11 :: a12 :: a13 :: a14 :: a15 :: a16 :: a17 :: (x, o) :: r))
    (k : ∀ h' t', Fn env hB P h' (a0 :: a1 :: a2 :: a3 :: a4 :: a5 :: a6 :: a7 :: a8 :: a9 :: a10 :: a11 :: a12 :: a13 :: a14 :: a15 :: a16 :: a17 :: (x, some v) :: r) → Heap.SameBut env.locals h h' → Q () (mk c h' t')) : wpAny M A (storeName env x v) Q E (mk c h t) := st_at (l₁ := [a0, a1, a2, a3, a4, a5, a6, a7, a8, a9, a10, a11, a12, a13, a14, a15, a16, a17]) F k
theorem st19 {a0 a1 a2 a3 a4 a5 a6 a7 a8 a9 a10 a11 a12 a13 a14 a15 a16 a17 a18} {o : Option Value} {r} {x : Str} {v : Value} {Q : Unit → Shared → Prop} (F : Fn env hB P h (a0 :: a1 :: a2 :: a3 :: a4 :: a5 :: a6 :: a7 :: a8 :: a9 :: a10 :: a11 :: a12 :: a13 :: a14 :: a15 :: a16 :: a17 :: a18 :: (x, o) :: r))
    (k : ∀ h' t', Fn env hB P h' (a0 :: a1 :: a2 :: a3 :: a4 :: a5 :: a6 :: a7 :: a8 :: a9 :: a10 :: a11 :: a12 :: a13 :: a14 :: a15 :: a16 :: a17 :: a18 :: (x, some v) :: r) → Heap.SameBut env.locals h h' → Q () (mk c h' t')) : wpAny M A (storeName env x v) Q E (mk c h t) := st_at (l₁ := [a0, a1, a2, a3, a4, a5, a6, a7, a8, a9, a10, a11, a12, a13, a14, a15, a16, a17, a18]) F k
theorem st20 {a0 a1 a2 a3 a4 a5 a6 a7 a8 a9 a10 a11 a12 a13 a14 a15 a16 a17 a18 a19} {o : Option Value} {r} {x : Str} {v : Value} {Q : Unit → Shared → Prop} (F : Fn env hB P h (a0 :: a1 :: a2 :: a3 :: a4 :: a5 :: a6 :: a7 :: a8 :: a9 :: a10 :: a11 :: a12 :: a13 :: a14 :: a15 :: a16 :: a17 :: a18 :: a19 :: (x, o) :: r))
    (k : ∀ h' t', Fn env hB P h' (a0 :: a1 :: a2 :: a3 :: a4 :: a5 :: a6 :: a7 :: a8 :: a9 :: a10 :: a11 :: a12 :: a13 :: a14 :: a15 :: a16 :: a17 :: a18 :: a19 :: (x, some v) :: r) → Heap.SameBut env.locals h h' → Q () (mk c h' t')) : wpAny M A (storeName env x v) Q E (mk c h t) := st_at (l₁ := [a0, a1, a2, a3, a4, a5, a6, a7, a8, a9, a10, a11, a12, a13, a14, a15, a16, a17, a18, a19]) F k
theorem st21 {a0 a1 a2 a3 a4 a5 a6 a7 a8 a9 a10 a11 a12 a13 a14 a15 a16 a17 a18 a19 a20} {o : Option Value} {r} {x : Str} {v : Value} {Q : Unit → Shared → Prop} (F : Fn env hB P h (a0 :: a1 :: a2 :: a3 :: a4 :: a5 :: a6 :: a7 :: a8 :: a9 :: a10 :: a11 :: a12 :: a13 :: a14 :: a15 :: a16 :: a17 :: a18 :: a19 :: a20 :: (x, o) :: r))
    (k : ∀ h' t', Fn env hB P h' (a0 :: a1 :: a2 :: a3 :: a4 :: a5 :: a6 :: a7 :: a8 :: a9 :: a10 :: a11 :: a12 :: a13 :: a14 :: a15 :: a16 :: a17 :: a18 :: a19 :: a20 :: (x, some v) :: r) → Heap.SameBut env.locals h h' → Q () (mk c h' t')) : wpAny M A (storeName env x v) Q E (mk c h t) := st_at (l₁ := [a0, a1, a2, a3, a4, a5, a6, a7, a8, a9, a10, a11, a12, a13, a14, a15, a16, a17, a18, a19, a20]) F k
end
theorem mk_toks {α : Type} {M : Model} {A : Around} {x : Sem α} {Q : α → Shared → Prop} {E : Value → Shared → Prop} {c : Cst} {h : Heap} {t n : Nat} (k : wpAny M A x Q E (mk c h (t + n))) : wpAny M A x Q E ⟨h, c.g, c.d, t + 1 + n, c.o⟩ := by
  rw [Nat.add_right_comm]; exact k
section
variable {prog : Program} {w : World} {A : Around} {c : Cst} {h : Heap} {t : Nat} {I : Addr} {fp wr : List Addr} {n : Nat} {P : Nat → Value → Prop} {St : Nat → Heap → Prop} {E : Value → Shared → Prop} {Q : Option Value → Shared → Prop}
theorem walks_item (W : Walks prog w A I fp wr n P St) {i : Nat} (hi : i < n) (st : St i h)
    (k : ∀ v h' tk, P i v → St (i + 1) h' → (∀ b o, b ∉ wr → h.get? b = some o → h'.get? b = some o) → Q (some v) (mk c h' tk)) : wpAny (model prog w) A (pyNext (.ref I)) Q E (mk c h t) :=
  wpAny_with_toks (n := t + 1) (s := mk c h t) (Nat.le_refl _) (W.item i _ _ _ hi st fun v h' tk hp st' hk htk => by
    obtain ⟨tk', rfl⟩ : ∃ m, tk = m + 1 := ⟨tk - 1, by have : t + 1 ≤ tk := htk; omega⟩
    exact k v h' tk' hp st' hk)
theorem walks_done (W : Walks prog w A I fp wr n P St) (st : St n h)
    (k : ∀ h' tk, (∀ b o, b ∉ wr → h.get? b = some o → h'.get? b = some o) → Q none (mk c h' tk)) : wpAny (model prog w) A (pyNext (.ref I)) Q E (mk c h t) :=
  wpAny_with_toks (n := t + 1) (s := mk c h t) (Nat.le_refl _) (W.done _ _ _ st fun h' tk hk htk => by
    obtain ⟨tk', rfl⟩ : ∃ m, tk = m + 1 := ⟨tk - 1, by have : t + 1 ≤ tk := htk; omega⟩
    exact k h' tk' hk)
end
end Mine
end
section
open PySem PySem.W PyProof.Rows PySem.Calls
set_option maxRecDepth 100000
namespace Mine
section
variable {prog : Program} {w : World} {A : Around} {env : Env} {c : Cst} {h : Heap} {t : Nat} {s : Shared}

theorem while_rule {test : Expr} {body : List Stmt} {pos : Pos} {Q : Flow → Shared → Prop} (J : Nat → Shared → Prop) (n₀ : Nat) (h0 : J n₀ s)
    (turn : ∀ n s, J n s → wpAny (model prog w) A (isTrue test env (eval test env)) (fun b s₂ =>
      if b = true then wpAny (model prog w) A (execs body env) (fun f s₃ => match f with
        | .next | .cont => ∃ m, m < n ∧ J m s₃
        | .brk => Q .next s₃
        | .ret v => Q (.ret v) s₃) NE s₂ else Q .next s₂) NE s) :
    wpAny (model prog w) A (exec (.While test body [] pos) env) Q NE s := by
  refine wpAny_While (codeAny_whileLoop J (fun n s' hJ => ?_) n₀ h0)
  refine wpAny_noRaise (wpAny_mono (turn n s' hJ) (fun b s₂ h₂ => ?_) fun _ _ x => x)
  cases b with
  | false => exact wpAny_execs_nil h₂
  | true => exact wpAny_noRaise (wpAny_mono h₂ (fun f s₃ h₃ => by cases f <;> exact h₃) fun _ _ x => x)

/-- a for: J k, k the number of turns left -/
theorem for_rule {target iter : Expr} {body : List Stmt} {pos : Pos} {Q : Flow → Shared → Prop}
    (hi : wpAny (model prog w) A (eval iter env) (fun x s₁ => wpAny (model prog w) A (pyIter x) (fun it s₂ =>
      ∃ J : Nat → Shared → Prop, (∃ n₀, J n₀ s₂) ∧ ∀ n s, J n s → wpAny (model prog w) A (pyNext it) (fun r s₁ => match r with
        | none => Q .next s₁
        | some v => wpAny (model prog w) A (letOwnedTupleGo target it v) (fun _ s₁' => wpAny (model prog w) A (assign target env v) (fun _ s₂ =>
            wpAny (model prog w) A (execs body env) (fun f s₃ => match f with
              | .next | .cont => ∃ m, m < n ∧ J m s₃
              | .brk => Q .next s₃
              | .ret v => Q (.ret v) s₃) NE s₂) NE s₁') NE s₁) NE s) NE s₁) NE s)
    (hs : ∀ x, foldedSetIterable iter env x = pure x := by intro _; rfl) :
    wpAny (model prog w) A (exec (.For target iter body [] pos) env) Q NE s := by
  refine wpAny_For ?_ hs
  refine wpAny_mono hi (fun x s₁ h₁ => ?_) (fun _ _ x => x)
  refine wpAny_mono h₁ (fun it s₂ h₂ => ?_) (fun _ _ x => x)
  obtain ⟨J, ⟨n₀, h0⟩, turn⟩ := h₂
  refine codeAny_forLoop_any J (fun n s hJ => ?_) n₀ h0
  refine wpAny_noRaise (wpAny_mono (turn n s hJ) (fun r s₁ h₁ => ?_) (fun _ _ x => x))
  cases r with
  | none => exact wpAny_execs_nil h₁
  | some v =>
    refine wpAny_noRaise (wpAny_mono h₁ (fun _ s₁' h₁' => ?_) (fun _ _ x => x))
    refine wpAny_noRaise (wpAny_mono h₁' (fun _ s₂ h₂ => ?_) (fun _ _ x => x))
    exact wpAny_noRaise (wpAny_mono h₂ (fun f s₃ h₃ => by cases f <;> exact h₃) fun _ _ x => x)

/-- an item of a dict by an int key -/
theorem itm {E : Value → Shared → Prop} {value slice : Expr} {d : Addr} {kvs : List (Int × Value)} {i : Int} {tk : Tok} {v : Value} {Q : Value → Shared → Prop} (hd : h.DictOf (intKind prog w) d kvs) (hv : valueAt kvs i = some v)
    (k : ∀ t', Q v (mk c h t'))
    (hs : subscripted slice false (.ref d) (.int i tk) = operate [.ref d, .int i tk] (getItem (.ref d) (.int i tk)) := by with_unfolding_all rfl) :
    wpAny (model prog w) A (subscriptTail value slice (.ref d) (.int i tk)) Q E (mk c h t) :=
  subscriptTail_builtinR (s := mk c h t) (x := v) (Heap.MapOf.typeIs (s := mk c h t) hd.mapOf) slot_dict_getitem.lookup (wpAny_getItem_of (s := mk c h t) (intKind_is prog w i tk) hd.mapOf hv ⟨rfl, k _⟩) hs

theorem newList_m {E : Value → Shared → Prop} {vs : List Value} {Q : Value → Shared → Prop} (k : Q (.ref h.objs.size) (mk c (h.push { cls := .type "list", data := .seq vs.toArray }) t)) (hsz : vs.length ≤ sizeLine) :
    wpAny (model prog w) A (newList vs) Q E (mk c h t) := wpAny_newObj_type k (by show vs.toArray.size ≤ sizeLine; rw [List.size_toArray]; exact hsz)

def Lst (h : Heap) (a : Addr) (vs : List Value) : Prop := ∃ n, h.get? a = some { cls := .type "list", dict := none, data := .seq vs.toArray n, slots := #[] }
theorem Lst.isList {h : Heap} {a : Addr} {vs : List Value} (x : Lst h a vs) : h.IsList a vs.toArray := let ⟨n, e⟩ := x; ⟨_, e, rfl, n, rfl⟩
theorem Lst.at {h h' : Heap} {a : Addr} {vs : List Value} (x : Lst h a vs) (e : ∀ o, h.get? a = some o → h'.get? a = some o) : Lst h' a vs := let ⟨n, q⟩ := x; ⟨n, e _ q⟩
theorem Lst.keep {h h' : Heap} {a : Addr} {vs : List Value} (x : Lst h a vs) (k : Keep h h') : Lst h' a vs := x.at fun o e => k _ o e
theorem Lst.lt {h : Heap} {a : Addr} {vs : List Value} (x : Lst h a vs) : a < h.objs.size := let ⟨_, q⟩ := x; Heap.lt_size q
theorem Lst.new (h : Heap) (vs : List Value) : Lst (h.push { cls := .type "list", data := .seq vs.toArray }) h.objs.size vs := ⟨_, Heap.get?_push_size _ rfl⟩
theorem Stb.lst {L a : Addr} {vs : List Value} (hne : a ≠ L) : Stb L (fun h => Lst h a vs) := Stb.at hne fun _ _ e x => x.at e
theorem sz_of {n : Nat} (h : n ≤ 1000000) : n ≤ sizeLine := by rw [sizeLine_eq]; omega
section
variable {prog : Program} {w : World} {A : Around} {env : Env} {c : Cst} {h : Heap} {t : Nat} {E : Value → Shared → Prop}
theorem getm_append {a : Addr} {vs : List Value} {pl : Sem Bool} {Q : Value × List Value → Shared → Prop} (x : Lst h a vs) (k : Q (.builtin "list.append", [.ref a]) (mk c h t)) :
    wpAny (model prog w) A (getMethod (.ref a) "append" pl) Q E (mk c h t) := let ⟨_, q⟩ := x; getMethod_list_append (s := mk c h t) q rfl rfl k
theorem append_m {a : Addr} {vs : List Value} {v : Value} {Q : Value → Shared → Prop} (x : Lst h a vs) (hsz : vs.length ≤ 1000000) (k : ∀ h', Lst h' a (vs ++ [v]) → Heap.SameBut a h h' → Q .none (mk c h' t)) :
    wpAny (model prog w) A (call (.builtin "list.append") [.ref a, v]) Q E (mk c h t) := by
  obtain ⟨n, q⟩ := x
  refine append_at (s := mk c h t) q (fun h' hs e => k h' ⟨n + 1, ?_⟩ hs) (by rw [List.size_toArray]; exact sz_of hsz)
  rw [e]; simp
end
end
end Mine
end
section
open PySem PySem.W PyProof.Rows PySem.Calls
set_option maxRecDepth 100000
namespace Mine

abbrev gtab : List (Str × Value) := [("_weight_function", .ref 77), ("_init_pred_dist", .ref 82), ("floyd_warshall_tree", .ref 88), ("floyd_warshall_predecessor_and_distance", .ref 96), ("reconstruct_path", .ref 103),
  ("NetworkXUnbounded", .ref 68), ("DiGraph", .ref 889), ("Graph", .ref 674), ("_LAW_USUAL", .ref 905), ("_law_least", .ref 912)]
abbrev btab : List Str := ["list", "reversed", "range", "dict", "len", "float", "any", "zip", "sum", "callable", "iter"]

structure Gl (B : Heap) : Prop where
  ns : ∃ mg mb, B.Ns mainGlobals mg ∧ B.Ns builtinsNs mb ∧ (∀ x ∈ btab, mg x = none) ∧ (∀ x : Str, x ≠ "__name__" → mb x = bootBuiltins x) ∧ ∀ p ∈ gtab, mg p.1 = some p.2
  nolimit : B.NoLimit
  bi : ∃ mg bm ob, B.Ns mainGlobals mg ∧ mg "__builtins__" = some (.ref bm) ∧ bm ≠ builtinsNs ∧ bm ≠ mainGlobals ∧ B.get? bm = some ob ∧ ob.cls = .type "module" ∧ ob.dict = some builtinsNs ∧ ob.data = .plain
  big : ∃ o, B.get? 2 = some o
theorem Gl.keep {B h : Heap} (G : Gl B) (k : Keep B h) : Gl h :=
  ⟨let ⟨mg, mb, a, b, r⟩ := G.ns; ⟨mg, mb, a.keeps k, b.keeps k, r⟩, G.nolimit.keeps k, let ⟨mg, bm, ob, a, b, c, d, e, r⟩ := G.bi; ⟨mg, bm, ob, a.keeps k, b, c, d, k _ _ e, r⟩, let ⟨o, e⟩ := G.big; ⟨o, k _ _ e⟩⟩
theorem Gl.low {B : Heap} (G : Gl B) : sysModules < B.objs.size := let ⟨_, e⟩ := G.big; Nat.lt_trans (show sysModules < 2 by decide) (Heap.lt_size e)

abbrev fdOf (st : Stmt) (qual : Str) (dV pm cd : Value) : FuncData :=
  { name := dName st, qualname := qual, params := dArgs st, body := .stmts (dBody st), scope := dScope st, globals := mainGlobals, closure := [], defaults := dV, kwdefaults := .none, doc := .none, pyModule := pm, annotations := none, code := cd, closureTuple := .none, builtins := builtinsNs }
def FnAt (B : Heap) (f : Addr) (st : Stmt) (qual : Str) (dV cd : Value) : Prop := ∃ o pm, B.get? f = some o ∧ o.data = .func (fdOf st qual dV pm cd) ∧ B.CodeRec cd qual
theorem FnAt.keep {B h : Heap} {f st qual dV cd} (x : FnAt B f st qual dV cd) (k : Keep B h) : FnAt h f st qual dV cd :=
  let ⟨o, pm, a, b, d⟩ := x; ⟨o, pm, k _ _ a, b, d.keeps k⟩
def envAt (st : Stmt) (qual : Str) (cd : Value) (L f : Addr) : Env := newEnv (dScope st) L mainGlobals [] (qual ++ ".<locals>.") (some f) cd none builtinsNs

section
variable {prog : Program} {w : World} {A : Around} {c : Cst} {hB h B : Heap} {t : Nat} {P : Heap → Prop} {l : List (Str × Option Value)} {E : Value → Shared → Prop}

theorem gname {env : Env} {x : Str} {pos : Pos} {v : Value} {Q : Value → Shared → Prop} (G : Gl h) (hx : (x, v) ∈ gtab) (k : Q v (mk c h t))
    (hk : env.scope.kind = .function := by rfl) (hx' : env.kindOf x = some .globalImplicit := by rfl) (hg : env.globals = mainGlobals := by rfl) (hd : (x == ("__debug__" : Str)) = false := by kernel_rfl) :
    wpAny (model prog w) A (eval (.Name x pos) env) Q E (mk c h t) := by
  obtain ⟨mg, mb, a, b, c1, c2, c3⟩ := G.ns
  exact Name_function_global hk hx' (loadGlobal_global (mg := mg) (by rw [hg]; exact a) (c3 _ hx) k) hd
theorem bname {env : Env} {x : Str} {pos : Pos} {v : Value} {Q : Value → Shared → Prop} (G : Gl h) (hx : x ∈ btab) (hv : bootBuiltins x = some v) (k : Q v (mk c h t))
    (hk : env.scope.kind = .function := by rfl) (hx' : env.kindOf x = some .globalImplicit := by rfl) (hg : env.globals = mainGlobals := by rfl) (hb : env.builtins = builtinsNs := by rfl)
    (hd : (x == ("__debug__" : Str)) = false := by kernel_rfl) (hn : decide (x = "__name__") = false := by kernel_rfl) :
    wpAny (model prog w) A (eval (.Name x pos) env) Q E (mk c h t) := by
  obtain ⟨mg, mb, a, b, c1, c2, c3⟩ := G.ns
  exact Name_function_global hk hx' (loadGlobal_builtin (mg := mg) (mb := mb) (by rw [hg]; exact a) (c1 _ hx) (by rw [hb]; exact b) ((c2 x (of_decide_eq_false hn)).trans hv) k) hd

theorem loc_of {env : Env} {binds : List (Str × Value)} (hn : h.Ns env.locals (fun x => binds.reverse.lookup x)) (hk : env.scope.kind = .function)
    (h1 : ((l.map (·.1)).all fun x => env.kindOf x == some .local && !(x == ("__debug__" : Str))) = true) (h2 : decide (l.map (·.1)).Nodup = true) (h3 : (l.map fun p => binds.reverse.lookup p.1) = l.map (·.2)) : Loc env h l :=
  ⟨hk, fun p hp => by
    have := List.all_eq_true.mp h1 p.1 (List.mem_map_of_mem hp)
    simp only [Bool.and_eq_true, beq_iff_eq, Bool.not_eq_true', beq_eq_false_iff_ne, ne_eq] at this
    exact ⟨this.1, by simpa using this.2⟩, of_decide_eq_true h2, _, hn, fun p hp => List.map_inj_left.mp h3 p hp⟩

theorem call_fn {f : Addr} {st : Stmt} {qual : Str} {dV cd : Value} {pos : List Value} {kw : List (Str × Value)} {binds : List (Str × Value)} {Q : Value → Shared → Prop}
    (G : Gl h) (hf : FnAt h f st qual dV cd) (hroom : A.depth < recursionLimit) (hbind : ∀ pm, BindsTo (mk c h t) (fdOf st qual dV pm cd) ⟨pos, kw⟩ binds) (l : List (Str × Option Value))
    (k : ∀ h₁ t₁, Fn (envAt st qual cd h.objs.size f) h (fun _ => True) h₁ l → wpAny (model prog w) (A.deeper (envAt st qual cd h.objs.size f)) (execs (dBody st) (envAt st qual cd h.objs.size f))
      (fun fl s' => Q (match fl with | .ret v => v | _ => .none) s') NE (mk c h₁ t₁))
    (e1 : ((dScope st).names.all fun x => !(x.2 == .cell)) = true := by kernel_rfl) (e2 : (binds.all fun x => (dScope st).names.lookup x.1 == some .local) = true := by kernel_rfl)
    (e3 : (dScope st).isCoroutine = false := by kernel_rfl) (e4 : (dScope st).isGenerator = false := by kernel_rfl) (e5 : (dScope st).kind = .function := by kernel_rfl)
    (h1 : ((l.map (·.1)).all fun x => (envAt st qual cd h.objs.size f).kindOf x == some .local && !(x == ("__debug__" : Str))) = true := by kernel_rfl) (h2 : decide (l.map (·.1)).Nodup = true := by kernel_rfl)
    (h3 : (l.map fun p => binds.reverse.lookup p.1) = l.map (·.2) := by kernel_rfl) :
    wpAny (model prog w) A (call (.ref f) pos kw) Q NE (mk c h t) := by
  obtain ⟨o, pm, ho, hd, hcd⟩ := hf
  refine wpAny_call (codeAny_call_def (fd := fdOf st qual dV pm cd) hroom ho hd G.nolimit hcd rfl (hbind pm) (fun x hx e => ?_) (fun x hx => ?_) (fun h₀ hns hk => ?_) e3 e4 e5)
  · have := List.all_eq_true.mp e1 x hx; rw [e] at this; cases this
  · have := List.all_eq_true.mp e2 x hx; simpa using this
  · refine mk_toks (c := c) (n := binds.length) (wpAny_noRaise (k h₀ (t + binds.length) ⟨loc_of hns e5 h1 h2 h3, hk, Nat.le_refl _, trivial, Stb.true⟩))
end
end Mine
end
section
open PySem PySem.W PyProof.Rows PySem.Calls
set_option maxRecDepth 100000
namespace Mine
theorem rv_nolen : typeLookup (.type "list_reverseiterator") "__len__" = pure none := by rw [typeLookup_type, builtinLookup_eq_fast]; kernel_rfl
theorem rv_hint : typeLookup (.type "list_reverseiterator") "__length_hint__" = pure (some (.builtin "list_reverseiterator.__length_hint__")) := by rw [typeLookup_type, builtinLookup_eq_fast]; kernel_rfl
section
variable {prog : Program} {w : World} {A : Around} {E : Value → Shared → Prop} {s : Shared}

theorem rv_room {I : Addr} {Q : Bool → Shared → Prop} (hT : s.TypeIs (.ref I) "list_reverseiterator") (h : Q false s) : wpAny (model prog w) A (Builtin.List.listLengthHint (.ref I)) Q E s := by
  unfold Builtin.List.listLengthHint
  refine wpAny_bind (wpAny_specialOf hT rv_nolen ?_)
  show wpAny _ A (specialOf (Value.ref I) (Str.ofString "__length_hint__") >>= _) _ _ _
  refine wpAny_bind (wpAny_specialOf hT rv_hint ?_)
  (generalize hid : ("list_reverseiterator.__length_hint__" : String) = id0; (fail_if_success (clear hid id0)); wp_delta; rw [show splitId id0 = some ("list_reverseiterator", "__length_hint__") from by subst hid; decide +kernel]; subst hid)
  refine wpAny_bind (wpAny_isInstance (b := true) hT (by rw [isSubtype_type]; kernel_rfl) ?_)
  exact wpAny_pure h

/-- list(reversed(l)) -/
theorem call_list_rev {I l : Addr} {items : Array Value} {Q : Value → Shared → Prop} (hh : A.handled = none) (hit : s.heap.IsRevIter I l ((items.size : Int) - 1)) (hl : s.heap.IsList l items) (hne : l ≠ I) (hn : items.size ≤ sizeLine)
    (hQ : ∀ h' tk, s.toks ≤ tk → (∀ b o, b ≠ I → s.heap.get? b = some o → h'.get? b = some o) → Lst h' s.heap.objs.size items.toList.reverse → Q (.ref s.heap.objs.size) { s with heap := h', toks := tk }) :
    wpAny (model prog w) A (call (.type "list") [.ref I]) Q E s := by
  have hI : I < s.heap.objs.size := let ⟨_, ho, _⟩ := hit; Heap.lt_size ho
  have hll : l < s.heap.objs.size := let ⟨_, ho, _⟩ := hl; Heap.lt_size ho
  refine callType_codes (Q₁ := fun obj s₁ => obj = .ref s.heap.objs.size ∧ s₁ = { s with heap := s.heap.push { cls := .type "list", data := .seq #[] } }) PySem.F.called_list (PySem.F.typeCall_list_1 _) PySem.F.entry_list_init
    (code_list_new _ ⟨rfl, rfl⟩) fun obj s₁ h₁ => ?_
  obtain ⟨rfl, rfl⟩ := h₁
  have hS : (s.heap.push { cls := .type "list", data := .seq #[] }).get? s.heap.objs.size = some { cls := .type "list", data := .seq #[] } := Heap.get?_push_size _ rfl
  refine ⟨⟨_, hS, rfl⟩, PySem.F.args_list_init_2 _ _, ?_⟩
  show wpAny _ _ (do let old ← Builtin.List.listItems (.ref _); Builtin.List.listUpdate (.ref _) (fun _ => #[]); letGo old.toList.reverse; Builtin.List.listExtendWith (.ref _) (.ref I) .none) _ _ _
  refine wpAny_bind ?_
  unfold Builtin.List.listItems
  refine wpAny_bind (wpAny_seqItems hS rfl (wpAny_pure ?_))
  show wpAny _ _ (updateSeq _ (fun _ => #[]) >>= fun _ => letGo (#[] : Array Value).toList.reverse >>= fun _ => Builtin.List.listExtendWith (.ref _) (.ref I) .none) _ _ _
  refine wpAny_bind (wpAny_updateSeq hS rfl ?_)
  have hS₂ := Heap.get?_update_self (Obj.mapSeq (fun _ => (#[] : Array Value))) hS rfl
  have oth : ∀ b o, b ≠ s.heap.objs.size → s.heap.get? b = some o → ((s.heap.push { cls := .type "list", data := .seq #[] }).update s.heap.objs.size (Obj.mapSeq (fun _ => (#[] : Array Value)))).get? b = some o :=
    fun b o hb e => (Heap.get?_update_other _ _ (Ne.symm hb)).trans (Heap.get?_push_of_some _ e)
  refine wpAny_bind (wpAny_letGo ?_)
  generalize hhp : (s.heap.push { cls := .type "list", data := .seq #[] }).update s.heap.objs.size (Obj.mapSeq (fun _ => (#[] : Array Value))) = hp at hS₂ oth
  have hit₂ : hp.IsRevIter I l ((items.size : Int) - 1 - ((0 : Nat) : Int)) := by
    have := hit.at (h' := hp) fun o e => oth I o (Nat.ne_of_lt hI) e
    simpa using this
  have hl₂ : hp.IsList l items := hl.at fun o e => oth l o (Nat.ne_of_lt hll) e
  have hSf : s.heap.objs.size ∉ [I, l] := by
    intro hm
    rcases List.mem_cons.mp hm with e | hm
    · exact absurd hI (e ▸ Nat.lt_irrefl _)
    · exact absurd hll ((List.mem_singleton.mp hm) ▸ Nat.lt_irrefl _)
  obtain ⟨c0, hS₃⟩ : ∃ c0, hp.get? s.heap.objs.size = some { cls := .type "list", dict := none, data := .seq #[] c0, slots := #[] } := ⟨_, hS₂⟩
  have W := (Walks.listRev (prog := prog) (w := w) (A := A.in1.in1) hh I l hne items).toS
  have hT : ({ s with heap := hp } : Shared).TypeIs (.ref I) "list_reverseiterator" := hit₂.typeIs (s := { s with heap := hp })
  unfold Builtin.List.listExtendWith
  refine wpAny_bind (wpAny_typeOf hT ?_)
  have h1 : Builtin.List.listSameRef (.ref s.heap.objs.size) (.ref I) = false := by simp [Builtin.List.listSameRef, Nat.ne_of_gt hI]
  have h2 : (Value.type "list_reverseiterator" == Value.type "list") = false := by decide
  have h3 : (Value.type "list_reverseiterator" == Value.type "tuple") = false := by decide
  simp only [h1, h2, h3, Bool.or_false, Bool.false_eq_true, if_false]
  refine wpAny_bind (wpAny_pyIter_revIter (s := { s with heap := hp }) hit₂ ?_)
  refine wpAny_bind (wpAny_holding (rv_room hT ?_))
  refine wpAny_pure ?_
  refine ⟨plainId_quiet PySem.F.plain_extend_loop _, codeAny_extend_loopS W hn s.heap.objs.size hSf .none items.size 0 _ #[] _ rfl (Nat.zero_le _) ⟨Nat.zero_le _, hit₂, hl₂⟩ hS₃ (ItemsOf.nil _) fun s' acc' c' hm hS' hacc => ?_⟩
  refine ⟨rfl, ?_⟩
  rw [Moved.eq_with hm]
  have hacc' : acc'.toList = items.toList.reverse := by
    obtain ⟨hs, ha⟩ := hacc
    apply List.ext_getElem?
    intro i
    by_cases hi : i < items.size
    · have hi' : i < acc'.size := by omega
      have h4 := ha i acc'[i] (Array.getElem?_eq_getElem hi')
      rw [Array.getElem?_toList, Array.getElem?_eq_getElem hi', List.getElem?_reverse (by simpa using hi), Array.getElem?_toList, Array.length_toList, ← h4]
    · rw [List.getElem?_eq_none (by simp; omega), List.getElem?_eq_none (by simp; omega)]
  refine hQ s'.heap s'.toks hm.toks (fun b o hb e => ?_) ⟨c', by rw [hS', ← hacc', Array.toArray_toList]⟩
  have hb' : b ≠ s.heap.objs.size := Nat.ne_of_lt (Heap.lt_size e)
  refine hm.heap b o (fun hmem => ?_) (oth b o hb' e)
  rcases List.mem_cons.mp hmem with e' | hmem
  · exact hb' e'
  · exact hb (List.mem_singleton.mp hmem)
end
end Mine
end
section
open PySem PySem.W PyProof.Rows PySem.Calls
set_option maxRecDepth 100000
namespace Mine
local macro_rules | `(tactic| walk_at "mem") => `(tactic| with_reducible (first | exact List.mem_cons_self | (refine List.mem_cons_of_mem _ ?_; walk_at "mem")))

theorem IntsAre.push {vs ns} (x : IntsAre vs ns) (n : Int) (t : Tok) : IntsAre (vs ++ [.int n t]) (ns ++ [n]) := by
  induction x with
  | nil => exact .cons n t .nil
  | cons m u _ ih => exact .cons m u ih
theorem IntsAre.app {vs ns us ms} (x : IntsAre vs ns) (y : IntsAre us ms) : IntsAre (vs ++ us) (ns ++ ms) := by
  induction x with
  | nil => exact y
  | cons m u _ ih => exact .cons m u ih
theorem IntsAre.rev {vs ns} (x : IntsAre vs ns) : IntsAre vs.reverse ns.reverse := by
  induction x with
  | nil => exact .nil
  | cons m u _ ih => rw [List.reverse_cons, List.reverse_cons]; exact IntsAre.push ih m u

inductive Back (f : Int → Option Int) (u : Int) : Int → List Int → Prop
  | last {v} : f v = some u → Back f u v [v, u]
  | step {v p l} : f v = some p → p ≠ u → Back f u p l → Back f u v (v :: l)
theorem Back.split {f u v l} (b : Back f u v l) : ∃ p r, f v = some p ∧ l = v :: p :: r ∧ ((p = u ∧ r = []) ∨ (p ≠ u ∧ Back f u p (p :: r))) := by
  cases b with
  | last h => exact ⟨u, [], h, rfl, .inl ⟨rfl, rfl⟩⟩
  | step h hp b =>
    rename_i p l
    cases b with
    | last h2 => exact ⟨p, [u], h, rfl, .inr ⟨hp, .last h2⟩⟩
    | step h2 h3 b2 => exact ⟨p, _, h, rfl, .inr ⟨hp, .step h2 h3 b2⟩⟩

def IntRow (prog : Program) (w : World) (h : Heap) (d : Addr) (f : Int → Option Int) : Prop := ∃ kvs, h.DictOf (intKind prog w) d kvs ∧ ∀ i p, f i = some p → ∃ tk, valueAt kvs i = some (.int p tk)

def IsInts (h : Heap) (a : Addr) (ns : List Int) : Prop := ∃ vs : List Value, Lst h a vs ∧ IntsAre vs ns
theorem IsInts.at {h h' : Heap} {a ns} (x : IsInts h a ns) (e : ∀ o, h.get? a = some o → h'.get? a = some o) : IsInts h' a ns := let ⟨vs, l, i⟩ := x; ⟨vs, l.at e, i⟩

section
variable {prog : Program} {w : World} {A : Around} {c : Cst} {hB h : Heap} {t : Nat} {l : List (Str × Option Value)}

theorem recon_body {L f : Addr} {cd : Value} {Q : Flow → Shared → Prop} {u v : Int} {tu tv : Tok} {pd row : Addr} {kvs : List (Int × Value)} {g : Int → Option Int} {ns : List Int}
   (F : Fn (envAt (S 12) "reconstruct_path" cd L f) hB (fun _ => True) h [("source", some (.int u tu)), ("target", some (.int v tv)), ("predecessors", some (.ref pd)), ("prev", none), ("curr", none), ("path", none)])
   (hA : A.handled = none) (G : Gl hB) (hP : hB.DictOf (intKind prog w) pd kvs) (hrow : u ≠ v → valueAt kvs u = some (.ref row)) (hr : u ≠ v → IntRow prog w hB row g) (hb : u ≠ v → Back g u v ns) (hlen : ns.length ≤ 1000)
   (hQ : ∀ h' t' a, Keep hB h' → IsInts h' a (if u = v then [] else ns.reverse) → Q (.ret (.ref a)) (mk c h' t')) :
   wpAny (model prog w) A (execs (dBody (S 12)) (envAt (S 12) "reconstruct_path" cd L f)) Q NE (mk c h t) := by
  refine wpAny_execs_cons (wpAny_If (wpAny_isTrue_Compare1 (nm F (by walk_at "mem") (nm F (by walk_at "mem") (PySem.P.eq_int (wpAny_truthy_bool ?_))))))
  split
  · rename_i huv
    have huv : u = v := by simpa using huv
    refine wpAny_execs_cons (wpAny_Return_some (List_ (wpAny_items_nil ?_)))
    refine newList_m ?_ (sz_of (by simp))
    refine hQ _ _ _ (F.keep.trans (Keep.push _ _)) ?_
    rw [if_pos huv]
    exact ⟨[], Lst.new _ _, .nil⟩
  · rename_i huv
    have huv : u ≠ v := by simpa using huv
    obtain ⟨rvs, hR, hf⟩ := hr huv
    obtain ⟨p, r, hp, rfl, hrest⟩ := (hb huv).split
    obtain ⟨tp, hvp⟩ := hf v p hp
    refine wpAny_execs_nil ?_
    refine wpAny_execs_cons (wpAny_Assign_Name (Subscript_ (nm F (by walk_at "mem") (nm F (by walk_at "mem") (itm (hP.keep F.keep) (hrow huv) fun t1 => ?_)))))
    refine st3 F fun h1 t1 F1 _ => ?_
    refine wpAny_execs_cons (wpAny_Assign_Name (Subscript_ (nm F1 (by walk_at "mem") (nm F1 (by walk_at "mem") (itm (hR.keep F1.keep) hvp fun t2 => ?_)))))
    refine st4 F1 fun h2 t2 F2 _ => ?_
    refine wpAny_execs_cons (wpAny_Assign_Name (List_ (wpAny_items_cons (nm F2 (by walk_at "mem") (wpAny_items_cons (nm F2 (by walk_at "mem") (wpAny_items_nil ?_)))))))
    refine newList_m ?_ (sz_of (by simp))
    have hlt := F2.loc.lt
    have hab : hB.objs.size ≤ h2.objs.size := Nat.le_of_lt (Nat.lt_of_le_of_lt F2.above hlt)
    have hne : h2.objs.size ≠ (envAt (S 12) "reconstruct_path" cd L f).locals := Nat.ne_of_gt hlt
    have hl2 : IsInts (h2.push { cls := .type "list", data := .seq [Value.int v tv, Value.int p tp].toArray }) h2.objs.size [v, p] := ⟨_, Lst.new _ _, .cons _ _ (.cons _ _ .nil)⟩
    refine st5 (F2.push _) fun h3 t3 F3 s3 => ?_
    generalize h2.objs.size = pa at F3 s3 hab hne hl2
    have hl3 : IsInts h3 pa [v, p] := hl2.at fun o e => s3.extBut pa o hne e
    -- the loop
    refine wpAny_execs_cons ?_
    refine while_rule (fun n s => ∃ h t x tx pre post, s = mk c h t ∧ n = post.length ∧ v :: p :: r = pre ++ x :: post ∧ ((x = u ∧ post = []) ∨ (x ≠ u ∧ Back g u x (x :: post))) ∧ IsInts h pa (pre ++ [x]) ∧
      Fn (envAt (S 12) "reconstruct_path" cd L f) hB (fun _ => True) h [("source", some (.int u tu)), ("target", some (.int v tv)), ("predecessors", some (.ref pd)), ("prev", some (.ref row)), ("curr", some (.int x tx)), ("path", some (.ref pa))])
      r.length ⟨h3, t3, p, tp, [v], r, rfl, rfl, rfl, hrest, hl3, F3⟩ ?_
    rintro n s ⟨h, t, x, tx, pre, post, rfl, rfl, hsp, hx, hl, F⟩
    refine wpAny_isTrue_Compare1 (nm F (by walk_at "mem") (nm F (by walk_at "mem") (PySem.P.ne_int (wpAny_truthy_bool ?_))))
    have hlen' : (pre ++ [x]).length ≤ 1000 := by
      have := congrArg List.length hsp
      simp only [List.length_append, List.length_cons, List.length_nil] at this hlen ⊢
      omega
    split
    · rename_i hxu
      have hxu : x ≠ u := by simpa using hxu
      obtain ⟨q, r', hq, hpost, hrest'⟩ := (hx.resolve_left fun e => hxu e.1).2.split
      have hpost : post = q :: r' := (List.cons.inj hpost).2
      obtain ⟨tq, hvq⟩ := hf x q hq
      subst hpost
      refine wpAny_execs_cons (wpAny_Assign_Name (Subscript_ (nm F (by walk_at "mem") (nm F (by walk_at "mem") (itm (hR.keep F.keep) hvq fun t1 => ?_)))))
      refine st4 F fun h1 t1 F1 s1 => ?_
      obtain ⟨vs, hl1, hi⟩ := hl.at fun o e => s1.extBut pa o hne e
      refine wpAny_execs_cons (wpAny_Expr (MethodCall_ (nm F1 (by walk_at "mem") (getm_append hl1 (callWith_builtin rfl (evalArgs_plain (args_cons (nm F1 (by walk_at "mem") (args_nil (append_m hl1 (by rw [hi.length]; omega) fun h2 hl2 hs2 => ?_))))))))))
      refine wpAny_execs_nil ⟨r'.length, by simp, h2, t1, q, tq, pre ++ [x], r', rfl, rfl, by simpa using hsp, hrest', ⟨_, hl2, IntsAre.push hi q tq⟩, ?_⟩
      exact F1.upd hab hne hs2.extBut trivial Stb.true
    · rename_i hxu
      have hxu : x = u := by simpa using hxu
      obtain ⟨_, rfl⟩ : x = u ∧ post = [] := by
        rcases hx with hx | hx
        · exact hx
        · exact absurd hxu hx.1
      obtain ⟨vs, hl1, hi⟩ := hl
      rw [← hsp] at hi
      refine wpAny_execs_cons (wpAny_Return_some (Call_ (bname (G.keep F.keep) (by walk_at "mem") PyProof.Rows.boot_list ?_)))
      refine Pv.callWith_type1 (args_cons (Call_ (bname (G.keep F.keep) (by walk_at "mem") PyProof.Rows.boot_reversed ?_)))
      refine Pv.callWith_type1 (args_cons (nm F (by walk_at "mem") (args_nil ?_)))
      refine call_reversed_list (s := mk c h t) hl1.isList (args_nil ?_)
      refine call_list_rev (items := vs.toArray) hA ⟨_, Heap.get?_push_size _ rfl, rfl, rfl⟩ (hl1.isList.at fun o e => Heap.get?_push_of_some _ e) (Nat.ne_of_lt hl1.lt) (by rw [List.size_toArray, hi.length]; exact sz_of (by omega)) fun h' tk' htk hk hl' => ?_
      obtain ⟨tk', rfl⟩ : ∃ n, tk' = n + 1 := ⟨tk' - 1, by have : t + 1 ≤ tk' := htk; omega⟩
      refine hQ h' tk' _ (fun b o e => hk b o (Nat.ne_of_lt (Keep.size F.keep e)) (Heap.get?_push_of_some _ (F.keep b o e))) ?_
      rw [if_neg huv]
      exact ⟨_, hl', IntsAre.rev hi⟩

/-- reconstruct_path -/
theorem recon_spec {f : Addr} {cd : Value} {Q : Value → Shared → Prop} {u v : Int} {tu tv : Tok} {pd row : Addr} {kvs : List (Int × Value)} {g : Int → Option Int} {ns : List Int}
   (hA : A.handled = none) (hroom : A.depth < recursionLimit) (G : Gl h) (hf : FnAt h f (S 12) "reconstruct_path" .none cd)
   (hP : h.DictOf (intKind prog w) pd kvs) (hrow : u ≠ v → valueAt kvs u = some (.ref row)) (hr : u ≠ v → IntRow prog w h row g) (hb : u ≠ v → Back g u v ns) (hlen : ns.length ≤ 1000)
   (hQ : ∀ h' t' a, Keep h h' → IsInts h' a (if u = v then [] else ns.reverse) → Q (.ref a) (mk c h' t')) :
   wpAny (model prog w) A (call (.ref f) [.int u tu, .int v tv, .ref pd]) Q NE (mk c h t) := by
  refine call_fn G hf hroom (binds := [("source", .int u tu), ("target", .int v tv), ("predecessors", .ref pd)]) (fun pm => BindsTo.of_eq (by kernel_rfl))
    [("source", some (.int u tu)), ("target", some (.int v tv)), ("predecessors", some (.ref pd)), ("prev", none), ("curr", none), ("path", none)] fun h1 t1 F => ?_
  exact recon_body F hA G hP hrow hr hb hlen fun h' t' a k i => hQ h' t' a k i
end
end Mine
end
section
open PySem PySem.W PyProof.Rows PySem.Calls
set_option maxRecDepth 100000
namespace Mine
local macro_rules | `(tactic| walk_at "mem") => `(tactic| with_reducible (first | exact List.mem_cons_self | (refine List.mem_cons_of_mem _ ?_; walk_at "mem")))

/-! what a word about a heap leans on -/
def Dep (X : Addr → Prop) (P : Heap → Prop) : Prop := ∀ h h', (∀ b o, X b → h.get? b = some o → h'.get? b = some o) → P h → P h'
theorem Dep.mono {X Y : Addr → Prop} {P} (D : Dep X P) (s : ∀ b, X b → Y b) : Dep Y P := fun h h' k => D h h' fun b o x => k b o (s b x)
theorem Dep.and {X : Addr → Prop} {P Q} (p : Dep X P) (q : Dep X Q) : Dep X fun h => P h ∧ Q h := fun h h' k x => ⟨p h h' k x.1, q h h' k x.2⟩
theorem Dep.ex {X : Addr → Prop} {α : Sort _} {P : α → Heap → Prop} (p : ∀ a, Dep X (P a)) : Dep X fun h => ∃ a, P a h := fun h h' k ⟨a, x⟩ => ⟨a, p a h h' k x⟩
theorem Dep.all {X : Addr → Prop} {α : Sort _} {P : α → Heap → Prop} (p : ∀ a, Dep X (P a)) : Dep X fun h => ∀ a, P a h := fun h h' k x a => p a h h' k (x a)
theorem Dep.const {X : Addr → Prop} {p : Prop} : Dep X fun _ => p := fun _ _ _ x => x
theorem Dep.imp {X : Addr → Prop} {q : Prop} {P} (p : q → Dep X P) : Dep X fun h => q → P h := fun h h' k x y => p y h h' k (x y)
theorem Dep.at {X : Addr → Prop} {a : Addr} {P : Heap → Prop} (hx : X a) (p : ∀ h h' : Heap, (∀ o, h.get? a = some o → h'.get? a = some o) → P h → P h') : Dep X P := fun h h' k => p h h' fun o => k a o hx
theorem Dep.get {X : Addr → Prop} {a : Addr} {o : Obj} (hx : X a) : Dep X fun h => h.get? a = some o := Dep.at hx fun _ _ k x => k _ x

/-- all but W stands -/
def KO (W : Addr → Prop) (h h' : Heap) : Prop := ∀ b o, ¬ W b → h.get? b = some o → h'.get? b = some o
theorem KO.refl {W : Addr → Prop} (h : Heap) : KO W h h := fun _ _ _ e => e
theorem KO.trans {W : Addr → Prop} {a b c : Heap} (x : KO W a b) (y : KO W b c) : KO W a c := fun p o n e => y p o n (x p o n e)
theorem KO.mono {W V : Addr → Prop} {a b : Heap} (x : KO W a b) (s : ∀ p, W p → V p) : KO V a b := fun p o n e => x p o (fun q => n (s p q)) e
theorem Keep.ko {W : Addr → Prop} {a b : Heap} (x : Keep a b) : KO W a b := fun p o _ e => x p o e
theorem KO.dep {W : Addr → Prop} {h0 : Heap} : Dep (fun b => ¬ W b ∧ b < h0.objs.size) (KO W h0) := fun h h' k x b o n e => k b o ⟨n, Heap.lt_size e⟩ (x b o n e)
theorem KO.but {W : Addr → Prop} {a : Addr} {h0 h h' : Heap} (x : KO W h0 h) (s : Heap.SameBut a h h') (ha : W a) : KO W h0 h' := fun p o n e => s.extBut p o (fun q => n (q ▸ ha)) (x p o n e)
theorem KO.keep {W : Addr → Prop} {h0 h h' : Heap} (x : KO W h0 h) (k : Keep h h') : KO W h0 h' := fun p o n e => k p o (x p o n e)
theorem KO.ext {W : Addr → Prop} {a : Addr} {h0 h h' : Heap} (x : KO W h0 h) (s : ∀ b o, b ≠ a → h.get? b = some o → h'.get? b = some o) (ha : h0.objs.size ≤ a) : KO W h0 h' :=
  fun p o n e => s p o (Nat.ne_of_lt (Nat.lt_of_lt_of_le (Heap.lt_size e) ha)) (x p o n e)

theorem Fn.off {env : Env} {hB h h' : Heap} {P : Heap → Prop} {l} {X : Addr → Prop} {I : Addr} (F : Fn env hB P h l) (D : Dep X P) (hX : ¬ X I) (hI : hB.objs.size ≤ I) (hL : I ≠ env.locals)
    (e : ∀ b o, b ≠ I → h.get? b = some o → h'.get? b = some o) : Fn env hB P h' l :=
  ⟨F.loc.keep fun o x => e _ o hL.symm x, fun b o x => e b o (Nat.ne_of_lt (Nat.lt_of_lt_of_le (Heap.lt_size x) hI)) (F.keep b o x), F.above, D h h' (fun b o x y => e b o (fun q => hX (q ▸ x)) y) F.inv, F.stb⟩
theorem Dep.stb {X : Addr → Prop} {P : Heap → Prop} {L : Addr} (D : Dep X P) (n : ¬ X L) : Stb L P := fun h h' k => D h h' fun b o x => k b o fun q => n (q ▸ x)

/-! rows: dicts by int keys -/
def RI (v : Value) (n : Int) : Prop := ∃ t, v = .int n t
def RR (v : Value) (a : Addr) : Prop := v = .ref a
def addk {K : Type} [DecidableEq K] (ks : List K) (i : K) : List K := if i ∈ ks then ks else ks ++ [i]
def upd {K : Type} [DecidableEq K] {α : Type} (f : K → α) (i : K) (y : α) : K → α := fun j => if j = i then y else f j
theorem addk_mem {K : Type} [DecidableEq K] {ks : List K} {i j : K} : j ∈ addk ks i ↔ j ∈ ks ∨ j = i := by
  unfold addk; split
  · constructor
    · exact .inl
    · rintro (h | rfl) <;> assumption
  · simp

section
variable {prog : Program} {w : World} {K : Type} [DecidableEq K] {knd : KeyKind prog w K}
def RowK (knd : KeyKind prog w K) {α : Type} (R : Value → α → Prop) (h : Heap) (a : Addr) (ks : List K) (f : K → α) : Prop :=
  (a == sysModules) = false ∧ ∃ kvs, h.DictOf knd a kvs ∧ kvs.map (·.1) = ks ∧ ∀ kv ∈ kvs, R kv.2 (f kv.1)
variable {α : Type} {R : Value → α → Prop} {h h' : Heap} {d : Addr} {ks : List K} {f : K → α}
theorem RowK.at (x : RowK knd R h d ks f) (e : ∀ o, h.get? d = some o → h'.get? d = some o) : RowK knd R h' d ks f := let ⟨s, kvs, q, r⟩ := x; ⟨s, kvs, Heap.DictOf.at q e, r⟩
theorem RowK.keep (x : RowK knd R h d ks f) (k : Keep h h') : RowK knd R h' d ks f := x.at fun o e => k _ o e
theorem RowK.lt (x : RowK knd R h d ks f) : d < h.objs.size := let ⟨_, _, ⟨_, _, _, ho, _⟩, _⟩ := x; Heap.lt_size ho
theorem RowK.dep {X : Addr → Prop} (hx : X d) : Dep X fun h => RowK knd R h d ks f := Dep.at hx fun _ _ k x => x.at k
theorem RowK.new (hs : sysModules < h.objs.size) : RowK knd R (h.push { cls := .type "dict", data := .dict #[] }) h.objs.size [] f :=
  ⟨by simpa using Nat.ne_of_gt hs, [], Heap.DictOf.new h, rfl, fun _ hx => by simp at hx⟩
theorem RowK.nodup (x : RowK knd R h d ks f) : ks.Nodup := let ⟨_, _, ⟨_, _, _, _, _, _, _, _, hn⟩, hk, _⟩ := x; hk ▸ hn
theorem RowK.congr {g : K → α} (x : RowK knd R h d ks f) (e : ∀ i ∈ ks, f i = g i) : RowK knd R h d ks g :=
  let ⟨s, kvs, q, hk, r⟩ := x; ⟨s, kvs, q, hk, fun kv hm => by rw [← e kv.1 (hk ▸ List.mem_map_of_mem hm)]; exact r kv hm⟩

theorem valueAt_none_of {kvs : List (K × Value)} {i : K} (hn : i ∉ kvs.map (·.1)) : valueAt kvs i = none := by
  unfold valueAt
  rw [List.find?_eq_none.mpr]; · rfl
  intro x hx e
  exact hn (List.mem_map.mpr ⟨x, hx, of_decide_eq_true e⟩)
theorem valueAt_of {kvs : List (K × Value)} {i : K} (hm : i ∈ kvs.map (·.1)) : ∃ v, valueAt kvs i = some v ∧ (i, v) ∈ kvs := by
  obtain ⟨kv, h1, rfl⟩ := List.mem_map.mp hm
  unfold valueAt
  cases e : kvs.find? fun x => x.1 = kv.1 with
  | none => exact absurd (by simp) (List.find?_eq_none.mp e kv h1)
  | some y =>
    have := List.find?_some e
    have e2 : y.1 = kv.1 := of_decide_eq_true this
    exact ⟨y.2, rfl, by rw [← e2]; exact List.mem_of_find?_eq_some e⟩
theorem stored_eq {kvs : List (K × Value)} {ks : List K} (e : kvs.map (·.1) = ks) (i : K) (v : Value) : (stored kvs i v).map (·.1) = addk ks i := by
  subst e
  unfold stored addk
  by_cases hm : i ∈ kvs.map (·.1)
  · rw [if_pos, if_pos hm, keys_map_store]
    obtain ⟨kv, h1, h2⟩ := List.mem_map.mp hm
    exact List.any_eq_true.mpr ⟨kv, h1, by simp [h2]⟩
  · rw [if_neg, if_neg hm, List.map_append]; · rfl
    intro h
    obtain ⟨kv, h1, h2⟩ := List.any_eq_true.mp h
    exact hm (List.mem_map.mpr ⟨kv, h1, of_decide_eq_true h2⟩)
theorem stored_mem {kvs : List (K × Value)} {i : K} {v : Value} {x : K × Value} (h : x ∈ stored kvs i v) : x = (i, v) ∨ (x ∈ kvs ∧ x.1 ≠ i) ∨ (x ∈ kvs ∧ i ∉ kvs.map (·.1)) := by
  unfold stored at h
  split at h
  · obtain ⟨kv, h1, h2⟩ := List.mem_map.mp h
    split at h2
    · rename_i hk; left; rw [← h2, hk]
    · rename_i hk; right; left; rw [← h2]; exact ⟨h1, hk⟩
  · rename_i hk
    rcases List.mem_append.mp h with q | q
    · right; right; refine ⟨q, fun hm => hk ?_⟩
      obtain ⟨kv, h1, h2⟩ := List.mem_map.mp hm
      exact List.any_eq_true.mpr ⟨kv, h1, by simp [h2]⟩
    · left; simpa using q

variable {A : Around} {c : Cst} {t : Nat} {E : Value → Shared → Prop} {i : K} {key : Value}
theorem RowK.get (x : RowK knd R h d ks f) (hi : i ∈ ks) : ∃ kvs v, h.DictOf knd d kvs ∧ valueAt kvs i = some v ∧ R v (f i) := by
  obtain ⟨_, kvs, q, rfl, r⟩ := x
  obtain ⟨v, h1, h2⟩ := valueAt_of hi
  exact ⟨kvs, v, q, h1, r _ h2⟩
theorem RowK.put (x : RowK knd R h d ks f) {kvs : List (K × Value)} {v : Value} {y : α} (hk : kvs.map (·.1) = ks) (r : ∀ kv ∈ kvs, R kv.2 (f kv.1)) (hv : R v y) (q : h'.DictOf knd d (stored kvs i v)) : RowK knd R h' d (addk ks i) (upd f i y) := by
  refine ⟨x.1, _, q, stored_eq hk i v, fun kv hm => ?_⟩
  rcases stored_mem hm with e | ⟨e, ne⟩ | ⟨e, ne⟩
  · subst e; simpa [upd] using hv
  · simp only [upd, if_neg ne]; exact r kv e
  · simp only [upd, if_neg (fun q : kv.1 = i => ne (q ▸ List.mem_map_of_mem e))]; exact r kv e
theorem rowk_set {v : Value} {y : α} {Q : Unit → Shared → Prop} (hkey : knd.is i key = true) (x : RowK knd R h d ks f) (hv : R v y) (hsz : ks.length ≤ 1000000)
    (k : ∀ h' t', RowK knd R h' d (addk ks i) (upd f i y) → Heap.SameBut d h h' → Q () (mk c h' t')) :
    wpAny (model prog w) A (setItem (.ref d) key v) Q E (mk c h t) := by
  obtain ⟨kvs, q, hk, r⟩ := x.2
  refine wpAny_setItem_pairs (s := mk c h t) hkey q (fun h' hd hs => k h' _ (x.put hk r hv hd) hs) (sz_of (by rw [← hk, List.length_map] at hsz; exact hsz))
theorem rowk_copy {Q : Value → Shared → Prop} (x : RowK knd R h d ks f) (hsm : sysModules < h.objs.size) (hsz : ks.length ≤ 1000000)
    (k : ∀ h' t', RowK knd R h' h.objs.size ks f → Keep h h' → Q (.ref h.objs.size) (mk c h' t')) :
    wpAny (model prog w) A (call (.type "dict") [.ref d]) Q E (mk c h t) := by
  obtain ⟨hs, kvs, q, hk, r⟩ := x
  refine kt_call_dict (s := mk c h t) hs q (sz_of (by rw [← hk, List.length_map] at hsz; exact hsz)) fun h' hd hsb => ?_
  exact k h' _ ⟨by simpa using Nat.ne_of_gt hsm, kvs, hd, hk, r⟩ fun b o e => hsb.extBut b o (Nat.ne_of_lt (Heap.lt_size e)) (Heap.get?_push_of_some _ e)
theorem RowK.at? (x : RowK knd R h d ks f) : ∃ kvs, h.DictOf knd d kvs ∧ (i ∈ ks → ∃ v, valueAt kvs i = some v ∧ R v (f i)) ∧ (i ∉ ks → valueAt kvs i = none) := by
  obtain ⟨_, kvs, q, rfl, r⟩ := x
  exact ⟨kvs, q, fun hi => let ⟨v, h1, h2⟩ := valueAt_of hi; ⟨v, h1, r _ h2⟩, valueAt_none_of⟩
theorem rowk_in {Q : Value → Shared → Prop} (hkey : knd.is i key = true) (x : RowK knd R h d ks f) (k : ∀ t', Q (.bool (decide (i ∈ ks))) (mk c h t')) :
    wpAny (model prog w) A (compareOp .In key (.ref d)) Q E (mk c h t) := by
  obtain ⟨hs, kvs, q, hk, r⟩ := x
  refine wpAny_in_of (s := mk c h t) hkey hs q.mapOf ?_
  have e : (valueAt kvs i).isSome = decide (i ∈ ks) := by
    by_cases hm : i ∈ ks
    · obtain ⟨v, h1, _⟩ := valueAt_of (hk ▸ hm); rw [h1, decide_eq_true hm]; rfl
    · rw [valueAt_none_of (hk ▸ hm), decide_eq_false hm]; rfl
  rw [e]; exact k _
theorem rowk_notin {Q : Value → Shared → Prop} (hkey : knd.is i key = true) (x : RowK knd R h d ks f) (k : ∀ t', Q (.bool (!decide (i ∈ ks))) (mk c h t')) :
    wpAny (model prog w) A (compareOp .NotIn key (.ref d)) Q E (mk c h t) := by
  obtain ⟨hs, kvs, q, hk, r⟩ := x
  refine wpAny_notIn_of (s := mk c h t) hkey hs q.mapOf ?_
  have e : (valueAt kvs i).isSome = decide (i ∈ ks) := by
    by_cases hm : i ∈ ks
    · obtain ⟨v, h1, _⟩ := valueAt_of (hk ▸ hm); rw [h1, decide_eq_true hm]; rfl
    · rw [valueAt_none_of (hk ▸ hm), decide_eq_false hm]; rfl
  rw [e]; exact k _
theorem getmk {x : Str} {id : String} {pl : Sem Bool} {Q : Value × List Value → Shared → Prop} (slot : Slot "dict" x id) (ty : typeOf (.builtin id) = pure (.type "method_descriptor")) (y : RowK knd R h d ks f) (k : Q (.builtin id, [.ref d]) (mk c h t)) :
    wpAny (model prog w) A (getMethod (.ref d) x pl) Q E (mk c h t) := by
  obtain ⟨hs, kvs, q, hk, r⟩ := y
  exact getMethod_builtin (s := mk c h t) (Heap.DictOf.typeIs (s := mk c h t) q) PySem.F.plainAttrs_dict slot ty q.mapOf.noDict k
/-- d.get(k, x) -/
theorem get2_m {Q : Value → Shared → Prop} {x : Value} (hkey : knd.is i key = true) (y : RowK knd R h d ks f) (k1 : i ∈ ks → ∀ v t', R v (f i) → Q v (mk c h t')) (k2 : i ∉ ks → ∀ t', Q x (mk c h t')) :
    wpAny (model prog w) A (call (.builtin "dict.get") [.ref d, key, x]) Q E (mk c h t) := by
  obtain ⟨kvs, q, h1, h2⟩ := y.at? (i := i)
  refine call_meetsIn PySem.F.slot_dict_get (Heap.DictOf.typeIs (s := mk c h t) q) PySem.F.entry_dict_get (PySem.F.args_dict_get_3 _ _ _) (meets_dict_get_default knd d hkey y.1 x) ⟨_, q.mapOf, ?_⟩
  by_cases hi : i ∈ ks
  · obtain ⟨v, e, r⟩ := h1 hi
    rw [e]; exact k1 hi v _ r
  · rw [h2 hi]; exact k2 hi _
theorem get1_m {Q : Value → Shared → Prop} (hkey : knd.is i key = true) (y : RowK knd R h d ks f) (k1 : i ∈ ks → ∀ v t', R v (f i) → Q v (mk c h t')) (k2 : i ∉ ks → ∀ t', Q .none (mk c h t')) :
    wpAny (model prog w) A (call (.builtin "dict.get") [.ref d, key]) Q E (mk c h t) := by
  obtain ⟨kvs, q, h1, h2⟩ := y.at? (i := i)
  refine call_meetsIn PySem.F.slot_dict_get (Heap.DictOf.typeIs (s := mk c h t) q) PySem.F.entry_dict_get (PySem.F.args_dict_get_2 _ _) (meets_dict_get knd d hkey y.1) ⟨_, q.mapOf, ?_⟩
  by_cases hi : i ∈ ks
  · obtain ⟨v, e, r⟩ := h1 hi
    rw [e]; exact k1 hi v _ r
  · rw [h2 hi]; exact k2 hi _
end

abbrev Row (prog : Program) (w : World) {α : Type} (R : Value → α → Prop) (h : Heap) (a : Addr) (ks : List Int) (f : Int → α) : Prop := RowK (intKind prog w) R h a ks f
section
variable {prog : Program} {w : World} {α : Type} {R : Value → α → Prop} {h h' : Heap} {d : Addr} {ks : List Int} {f : Int → α} {A : Around} {c : Cst} {t : Nat} {E : Value → Shared → Prop} {i : Int} {tk : Tok}
theorem row_itm {value slice : Expr} {Q : Value → Shared → Prop} (x : Row prog w R h d ks f) (hi : i ∈ ks) (k : ∀ v t', R v (f i) → Q v (mk c h t'))
    (hs : subscripted slice false (.ref d) (.int i tk) = operate [.ref d, .int i tk] (getItem (.ref d) (.int i tk)) := by with_unfolding_all rfl) :
    wpAny (model prog w) A (subscriptTail value slice (.ref d) (.int i tk)) Q E (mk c h t) :=
  let ⟨_, v, q, hv, r⟩ := x.get hi
  itm q hv (fun t' => k v t' r) hs
theorem row_set {v : Value} {y : α} {Q : Unit → Shared → Prop} (x : Row prog w R h d ks f) (hv : R v y) (hsz : ks.length ≤ 1000000)
    (k : ∀ h' t', Row prog w R h' d (addk ks i) (upd f i y) → Heap.SameBut d h h' → Q () (mk c h' t')) :
    wpAny (model prog w) A (setItem (.ref d) (.int i tk) v) Q E (mk c h t) := rowk_set (intKind_is prog w i tk) x hv hsz k
theorem row_in {Q : Value → Shared → Prop} (x : Row prog w R h d ks f) (k : ∀ t', Q (.bool (decide (i ∈ ks))) (mk c h t')) :
    wpAny (model prog w) A (compareOp .In (.int i tk) (.ref d)) Q E (mk c h t) := rowk_in (intKind_is prog w i tk) x k
theorem row_notin {Q : Value → Shared → Prop} (x : Row prog w R h d ks f) (k : ∀ t', Q (.bool (!decide (i ∈ ks))) (mk c h t')) :
    wpAny (model prog w) A (compareOp .NotIn (.int i tk) (.ref d)) Q E (mk c h t) := rowk_notin (intKind_is prog w i tk) x k
end
end Mine
end
section
open PySem PySem.W PyProof.Rows PySem.Calls
set_option maxRecDepth 100000
namespace Mine
section
variable {prog : Program} {w : World} {A : Around} {env : Env} {c : Cst} {h : Heap} {t : Nat} {s : Shared}

/-- what a turn of a loop must bring -/
def Turn (c : Cst) (Wr : Addr → Prop) (h : Heap) (Q : Flow → Shared → Prop) (I : Heap → Nat → Prop) (f : Flow) (s₃ : Shared) : Prop :=
  match f with
  | .next | .cont => ∃ h' t', s₃ = mk c h' t' ∧ KO Wr h h' ∧ I h' t'
  | .brk => Q .next s₃
  | .ret v => Q (.ret v) s₃

/-- what the walk over an iterator must bring -/
def Loops (prog : Program) (w : World) (A : Around) (env : Env) (c : Cst) (target : Expr) (body : List Stmt) (Q : Flow → Shared → Prop) (Wr : Addr → Prop) (it : Value) (s₂ : Shared) : Prop :=
  ∃ I fp n P St h2 t2, ∃ Inv : Nat → Heap → Nat → Prop, it = .ref I ∧ s₂ = mk c h2 t2 ∧ Walks prog w A I fp [I] n P St ∧ St 0 h2 ∧ (∀ b ∈ fp, ¬ Wr b) ∧
    (∀ i s v (Q' : Unit → Shared → Prop), St i s.heap → Q' () s → wpAny (model prog w) A (letOwnedTupleGo target (.ref I) v) Q' NE s) ∧
    Inv 0 h2 t2 ∧ (∀ i h t h' t', (∀ b o, b ≠ I → h.get? b = some o → h'.get? b = some o) → Inv i h t → Inv i h' t') ∧
    (∀ i h t, i < n → Inv i h t → ∀ v, P i v → wpAny (model prog w) A (assign target env v) (fun _ s₂ => wpAny (model prog w) A (execs body env) (Turn c Wr h Q (Inv (i + 1))) NE s₂) NE (mk c h t)) ∧
    (∀ h t, Inv n h t → Q .next (mk c h t))

theorem for_walks {target iter : Expr} {body : List Stmt} {pos : Pos} {Q : Flow → Shared → Prop} (Wr : Addr → Prop)
    (hi : wpAny (model prog w) A (eval iter env) (fun x s₁ => wpAny (model prog w) A (pyIter x) (Loops prog w A env c target body Q Wr) NE s₁) NE s)
    (hs : ∀ x, foldedSetIterable iter env x = pure x := by intro _; rfl) :
    wpAny (model prog w) A (exec (.For target iter body [] pos) env) Q NE s := by
  refine for_rule (wpAny_mono hi (fun x s₁ h₁ => wpAny_mono h₁ (fun it s₂ h₂ => ?_) fun _ _ e => e) fun _ _ e => e) hs
  obtain ⟨I, fp, n, P, St, h2, t2, Inv, rfl, rfl, W, st0, hfp, hgo, i0, hst, turn, fin⟩ := h₂
  refine ⟨fun k s => ∃ i h t, s = mk c h t ∧ k = n - i ∧ i ≤ n ∧ St i h ∧ Inv i h t, ⟨n, 0, h2, t2, rfl, rfl, Nat.zero_le _, st0, i0⟩, ?_⟩
  rintro k s ⟨i, h, t, rfl, rfl, hle, st, iv⟩
  rcases Nat.lt_or_ge i n with hlt | hge
  · refine walks_item (c := c) (h := h) (t := t) W hlt st fun v h' tk hp st' hk => ?_
    have hk' : ∀ b o, b ≠ I → h.get? b = some o → h'.get? b = some o := fun b o hb e => hk b o (by simpa using hb) e
    refine hgo (i + 1) _ _ _ st' ?_
    refine wpAny_mono (turn i h' tk hlt (hst i h t h' tk hk' iv) v hp) (fun _ s₂ h₂ => wpAny_mono h₂ (fun f s₃ h₃ => ?_) fun _ _ e => e) fun _ _ e => e
    cases f with
    | next => obtain ⟨h3, t3, rfl, ko, iv'⟩ := h₃; exact ⟨n - (i + 1), by omega, i + 1, h3, t3, rfl, rfl, hlt, W.frame _ _ _ st' (fun b hb o e => ko b o (hfp b hb) e), iv'⟩
    | cont => obtain ⟨h3, t3, rfl, ko, iv'⟩ := h₃; exact ⟨n - (i + 1), by omega, i + 1, h3, t3, rfl, rfl, hlt, W.frame _ _ _ st' (fun b hb o e => ko b o (hfp b hb) e), iv'⟩
    | brk => exact h₃
    | ret v => exact h₃
  · obtain rfl : i = n := Nat.le_antisymm hle hge
    refine walks_done (c := c) (h := h) (t := t) W st fun h' tk hk => ?_
    exact fin h' tk (hst i h t h' tk (fun b o hb e => hk b o (by simpa using hb) e) iv)

variable {α : Type} {R : Value → α → Prop} {d : Addr} {ks : List Int} {f : Int → α}

/-- over the keys of a row, from its iterator -/
theorem loops_it {target : Expr} {body : List Stmt} {Q : Flow → Shared → Prop} {Wr : Addr → Prop} {I : Addr} {ep : Nat} {kvs : List (Int × Value)} (hA : A.handled = none) (hat : h.DictAt (intKind prog w) d kvs ep) (hk : kvs.map (·.1) = ks)
    (hit : h.IsKeyIter I d 0 kvs.length ep) (hd : ¬ Wr d) (hI : ¬ Wr I) (hne : d ≠ I)
    (Inv : List Int → List Int → Heap → Nat → Prop) (i0 : Inv [] ks h t)
    (hst : ∀ p r h₁ t₁ h' t', (∀ b o, b ≠ I → h₁.get? b = some o → h'.get? b = some o) → Inv p r h₁ t₁ → Inv p r h' t')
    (turn : ∀ p i r h₁ t₁ tk, ks = p ++ i :: r → Inv p (i :: r) h₁ t₁ → wpAny (model prog w) A (assign target env (.int i tk)) (fun _ s₂ => wpAny (model prog w) A (execs body env) (Turn c Wr h₁ Q (Inv (p ++ [i]) r)) NE s₂) NE (mk c h₁ t₁))
    (fin : ∀ h t, Inv ks [] h t → Q .next (mk c h t)) :
    Loops prog w A env c target body Q Wr (.ref I) (mk c h t) := by
  have hlen : ks.length = kvs.length := by rw [← hk, List.length_map]
  refine ⟨I, [I, d], kvs.length, _, _, _, t, fun i h t => Inv (ks.take i) (ks.drop i) h t, rfl, rfl, Walks.dictKeys (knd := intKind prog w) hA _ d hne kvs ep, ⟨hit, hat⟩, ?_, ?_, ?_, ?_, ?_, ?_⟩
  · intro b hb
    rcases List.mem_cons.mp hb with rfl | hb
    · exact hI
    · rw [List.mem_singleton.mp hb]; exact hd
  · intro i s v Q' st hq; exact letGo_keyiter st.1 hq
  · exact i0
  · intro i h t h' t' hk iv; exact hst _ _ h t h' t' hk iv
  · rintro i h₁ t₁ hi iv v ⟨k, xv, hx, hkey⟩
    have hi' : i < ks.length := by rw [hlen]; exact hi
    have hki : ks[i] = k := by
      have := List.getElem?_map (f := (·.1)) (l := kvs) (i := i)
      rw [hk, hx] at this
      rw [List.getElem?_eq_getElem hi'] at this
      exact Option.some.inj this
    obtain ⟨tk, rfl⟩ : ∃ tk, v = .int k tk := by
      cases v <;> simp [intKind, Value.isInt] at hkey
      subst hkey; exact ⟨_, rfl⟩
    have e1 : ks.drop i = k :: ks.drop (i + 1) := by rw [List.drop_eq_getElem_cons hi', hki]
    have e2 : ks.take (i + 1) = ks.take i ++ [k] := by rw [List.take_succ, List.getElem?_eq_getElem hi', hki]; rfl
    rw [e1] at iv
    show wpAny _ _ _ (fun x s₂ => wpAny _ _ _ (Turn c Wr h₁ Q (Inv (ks.take (i + 1)) (ks.drop (i + 1)))) NE s₂) NE _
    rw [e2]
    exact turn (ks.take i) k (ks.drop (i + 1)) h₁ t₁ tk (by rw [← e1, List.take_append_drop]) iv
  · intro h t iv
    try dsimp only at iv
    rw [← hlen, List.take_length, List.drop_length] at iv
    exact fin h t iv

/-- over the keys of a row -/
theorem loops_keys {target : Expr} {body : List Stmt} {Q : Flow → Shared → Prop} {Wr : Addr → Prop} (hA : A.handled = none) (x : Row prog w R h d ks f) (hd : ¬ Wr d) (hW : ∀ b, Wr b → b < h.objs.size)
    (Inv : List Int → List Int → Heap → Nat → Prop) (i0 : Inv [] ks h t)
    (hst : ∀ p r h₁ t₁ h' t', (∀ b o, b ≠ h.objs.size → h₁.get? b = some o → h'.get? b = some o) → Inv p r h₁ t₁ → Inv p r h' t')
    (turn : ∀ p i r h₁ t₁ tk, ks = p ++ i :: r → Inv p (i :: r) h₁ t₁ → wpAny (model prog w) A (assign target env (.int i tk)) (fun _ s₂ => wpAny (model prog w) A (execs body env) (Turn c Wr h₁ Q (Inv (p ++ [i]) r)) NE s₂) NE (mk c h₁ t₁))
    (fin : ∀ h t, Inv ks [] h t → Q .next (mk c h t)) :
    wpAny (model prog w) A (pyIter (.ref d)) (Loops prog w A env c target body Q Wr) NE (mk c h t) := by
  have hlt := x.lt
  obtain ⟨hs, kvs, q, hk, r⟩ := x
  obtain ⟨ep, hat⟩ := q.dictAt
  refine wpAny_pyIter_dict (s := mk c h t) hs hat ?_
  exact loops_it hA (hat.push _) hk ⟨_, Heap.get?_push_size _ rfl, rfl, rfl⟩ hd (fun e => absurd (hW _ e) (Nat.lt_irrefl _)) (Nat.ne_of_lt hlt) Inv
    (hst [] ks h t _ t (fun b o _ e => Heap.get?_push_of_some _ e) i0) hst turn fin

/-- over range(n) -/
theorem loops_range {target : Expr} {body : List Stmt} {Q : Flow → Shared → Prop} {Wr : Addr → Prop} {r : Addr} {a b : Int} {t0 t1 t2 : Tok} (hA : A.handled = none) (x : IsRange h r a b 1 t0 t1 t2) (hab : a ≤ b) (ha : 0 ≤ a) (hb : b ≤ 1000) (hW : ∀ b, Wr b → b < h.objs.size)
    (Inv : Int → Heap → Nat → Prop) (i0 : Inv a h t)
    (hst : ∀ i h₁ t₁ h' t', (∀ b o, b ≠ h.objs.size → h₁.get? b = some o → h'.get? b = some o) → Inv i h₁ t₁ → Inv i h' t')
    (turn : ∀ i h₁ t₁ tk, a ≤ i → i < b → Inv i h₁ t₁ → wpAny (model prog w) A (assign target env (.int i tk)) (fun _ s₂ => wpAny (model prog w) A (execs body env) (Turn c Wr h₁ Q (Inv (i + 1))) NE s₂) NE (mk c h₁ t₁))
    (fin : ∀ h t, Inv b h t → Q .next (mk c h t)) :
    wpAny (model prog w) A (pyIter (.ref r)) (Loops prog w A env c target body Q Wr) NE (mk c h t) := by
  have hsz : Builtin.Range.rangeSize a b 1 = ((b - a).toNat : Int) := by
    unfold Builtin.Range.rangeSize
    by_cases e : a < b
    · simp [e]; omega
    · simp [e]; omega
  have hsm : Builtin.Range.small a b 1 = true := by
    simp only [Builtin.Range.small, Builtin.Range.rangeFitsLong, hsz, Bool.and_eq_true, Bool.or_eq_true, decide_eq_true_eq, beq_iff_eq]
    refine ⟨⟨⟨⟨?_, ?_⟩, ?_⟩, ?_⟩, Or.inr ?_⟩
    all_goals (try simp only [gt_iff_lt, Int.zero_lt_one, if_true])
    all_goals (try simp)
    all_goals (first | omega | (constructor <;> omega) | skip)
  refine wpAny_pyIter_range (s := mk c h t) x hsm ?_
  rw [hsz]
  refine ⟨h.objs.size, [h.objs.size], (b - a).toNat, _, _, _, t, fun i h t => Inv (a + i) h t, rfl, rfl, Walks.range hA _ a 1 (b - a).toNat, ?_, ?_, ?_, ?_, ?_, ?_, ?_⟩
  · show IsRangeIter _ _ _ _ _
    simpa using Heap.get?_push_size _ rfl
  · intro b hb
    rw [List.mem_singleton.mp hb]
    exact fun e => absurd (hW _ e) (Nat.lt_irrefl _)
  · intro i s v Q' st hq
    unfold letOwnedTupleGo
    cases target <;> first
      | exact wpAny_pure hq
      | (cases v <;> first
          | exact wpAny_pure hq
          | (refine wpAny_bind (wpAny_load st ?_)
             exact wpAny_pure hq))
  · have := hst a h t (h.push { cls := .type "range_iterator", data := .fields #[rawInt a, rawInt ((b - a).toNat : Int), rawInt 1] }) t (fun b o _ e => Heap.get?_push_of_some _ e) i0
    simpa using this
  · intro i h t h' t' hk iv; exact hst _ h t h' t' hk iv
  · rintro i h₁ t₁ hi iv v ⟨tk, rfl⟩
    have := turn (a + i) h₁ t₁ tk (by omega) (by omega) iv
    have e : a + (i : Int) * 1 = a + i := by omega
    have e2 : a + ((i + 1 : Nat) : Int) = a + i + 1 := by omega
    rw [e]
    show wpAny _ _ _ (fun x s₂ => wpAny _ _ _ (Turn c Wr h₁ Q (Inv (a + ((i + 1 : Nat) : Int)))) NE s₂) NE _
    rw [e2]
    exact this
  · intro h t iv
    have e : a + ((b - a).toNat : Int) = b := by omega
    try dsimp only at iv
    rw [e] at iv
    exact fin h t iv
end
end Mine
end
section
open PySem PySem.W PyProof.Rows PySem.Calls
set_option maxRecDepth 100000
namespace Mine
def inf64 : UInt64 := 0x7FF0000000000000
/-- a weight: none is inf -/
def RE (v : Value) (o : Option Int) : Prop := match o with | some n => ∃ t, v = .int n t | none => ∃ t, v = .float inf64 t ∧ t ≠ 0
def addE : Option Int → Option Int → Option Int
  | some a, some b => some (a + b)
  | _, _ => none
def ltE : Option Int → Option Int → Bool
  | some a, some b => decide (a < b)
  | some _, none => true
  | none, _ => false
def Fits (o : Option Int) : Prop := ∀ n, o = some n → n.natAbs < 2 ^ 1023
theorem dec_inf : Float64.decode inf64 = .inf false := by kernel_rfl
theorem dec_int {n : Int} (h : n.natAbs < 2 ^ 1023) : ∃ s m e, Float64.decode (Float64.ofInt n) = .fin s m e := by
  have hm := Float64.roundMag_one_lt h
  obtain ⟨m, e, hd, _⟩ := Float64.decode_pack (decide (n < 0)) hm
  refine ⟨decide (n < 0), m, e, ?_⟩
  unfold Float64.ofInt Float64.ofFrac
  exact hd
theorem add_inf_int {n : Int} (h : n.natAbs < 2 ^ 1023) : Float64.add inf64 (Float64.ofInt n) = inf64 := by
  obtain ⟨s, m, e, hd⟩ := dec_int h
  unfold Float64.add; rw [dec_inf, hd]
theorem add_int_inf {n : Int} (h : n.natAbs < 2 ^ 1023) : Float64.add (Float64.ofInt n) inf64 = inf64 := by
  obtain ⟨s, m, e, hd⟩ := dec_int h
  unfold Float64.add; rw [dec_inf, hd]
theorem add_inf_inf : Float64.add inf64 inf64 = inf64 := by unfold Float64.add; rw [dec_inf]; rfl
theorem cmp_inf (n : Int) : Float64.cmpInt inf64 n = some .gt := by unfold Float64.cmpInt; rw [dec_inf]; rfl
theorem cmp_inf_inf : Float64.cmp inf64 inf64 = some .eq := by unfold Float64.cmp; rw [dec_inf]; rfl

section
variable {prog : Program} {w : World} {A : Around} {c : Cst} {h : Heap} {t : Nat} {E : Value → Shared → Prop} {a b : Value} {x y : Option Int} {Q : Value → Shared → Prop}
theorem add_ext (ha : RE a x) (hb : RE b y) (fx : Fits x) (fy : Fits y) (k : ∀ v t', RE v (addE x y) → Q v (mk c h t')) : wpAny (model prog w) A (binaryOp .Add a b) Q E (mk c h t) := by
  cases x with
  | some m =>
    obtain ⟨t1, rfl⟩ := ha
    cases y with
    | some n => obtain ⟨t2, rfl⟩ := hb; exact PySem.P.add_int (k _ _ ⟨_, rfl⟩)
    | none => obtain ⟨t2, rfl, _⟩ := hb; exact add_if_fits (s := mk c h t) (fx m rfl) (k _ _ ⟨_, by rw [add_int_inf (fx m rfl)], Nat.succ_ne_zero _⟩)
  | none =>
    obtain ⟨t1, rfl, _⟩ := ha
    cases y with
    | some n => obtain ⟨t2, rfl⟩ := hb; exact add_fi_fits (s := mk c h t) (fy n rfl) (k _ _ ⟨_, by rw [add_inf_int (fy n rfl)], Nat.succ_ne_zero _⟩)
    | none => obtain ⟨t2, rfl, _⟩ := hb; exact add_float (s := mk c h t) (k _ _ ⟨_, by rw [add_inf_inf], Nat.succ_ne_zero _⟩)
theorem gt_ext (ha : RE a x) (hb : RE b y) (k : Q (.bool (ltE y x)) (mk c h t)) : wpAny (model prog w) A (compareOp .Gt a b) Q E (mk c h t) := by
  cases x with
  | some m =>
    obtain ⟨t1, rfl⟩ := ha
    cases y with
    | some n => obtain ⟨t2, rfl⟩ := hb; exact PySem.P.gt_int k
    | none => obtain ⟨t2, rfl, _⟩ := hb; exact gt_if (s := mk c h t) (by rw [cmp_inf]; exact k)
  | none =>
    obtain ⟨t1, rfl, _⟩ := ha
    cases y with
    | some n => obtain ⟨t2, rfl⟩ := hb; exact gt_fi (s := mk c h t) (by rw [cmp_inf]; exact k)
    | none => obtain ⟨t2, rfl, _⟩ := hb; exact AutoFloatOps.gt_0 (s := mk c h t) (by rw [cmp_inf_inf]; exact k)
theorem eq_inf {tk : Tok} (ha : RE a x) (k : Q (.bool (x == none)) (mk c h t)) : wpAny (model prog w) A (compareOp .Eq a (.float inf64 tk)) Q E (mk c h t) := by
  cases x with
  | some m => obtain ⟨t1, rfl⟩ := ha; exact eq_if (s := mk c h t) (by rw [cmp_inf]; exact k)
  | none => obtain ⟨t1, rfl, _⟩ := ha; exact AutoFloatOps.eq_0 (s := mk c h t) (by rw [cmp_inf_inf]; exact k)
theorem lt_zero {tk : Tok} (ha : RE a x) (k : Q (.bool (ltE x (some 0))) (mk c h t)) : wpAny (model prog w) A (compareOp .Lt a (.int 0 tk)) Q E (mk c h t) := by
  cases x with
  | some m => obtain ⟨t1, rfl⟩ := ha; exact PySem.P.lt_int k
  | none => obtain ⟨t1, rfl, _⟩ := ha; exact lt_fi (s := mk c h t) (by rw [cmp_inf]; exact k)

/-- float('inf') -/
theorem call_inf {tk : Tok} {x : Str} (hx : x = "inf") (hA : A.handled = none) (k : ∀ v t', RE v none → Q v (mk c h t')) : wpAny (model prog w) A (call (.type "float") [.str x tk]) Q E (mk c h t) := by
  subst hx
  refine PySem.Flt.call_float_str (s := mk c h t) hA (by decide +kernel) (fun q => absurd q (by decide +kernel)) fun _ => ?_
  exact k _ _ ⟨_, congrArg (fun z => Value.float z _) (by decide +kernel), Nat.succ_ne_zero _⟩

/-! cells -/
theorem nmc {env : Env} {x : Str} {pos : Pos} {q : Addr} {v : Value} (hv : h.IsCell q (some v)) (k : Q v (mk c h t)) (hc : env.cells.lookup x = some q := by rfl) (hk : env.scope.kind = .function := by rfl) (hl : env.kindOf x = some .cell := by rfl) (hd : (x == ("__debug__" : Str)) = false := by kernel_rfl) :
    wpAny (model prog w) A (eval (.Name x pos) env) Q E (mk c h t) := wpAny_Name (wpAny_loadName_cell (s := mk c h t) hk hl hc hv k) hd
theorem nmf {env : Env} {x : Str} {pos : Pos} {q : Addr} {v : Value} (hv : h.IsCell q (some v)) (k : Q v (mk c h t)) (hc : env.cells.lookup x = some q := by rfl) (hk : env.scope.kind = .function := by rfl) (hl : env.kindOf x = some .free := by rfl) (hd : (x == ("__debug__" : Str)) = false := by kernel_rfl)
    (hn : (x == ("__classdict__" : Str)) = false := by kernel_rfl) :
    wpAny (model prog w) A (eval (.Name x pos) env) Q E (mk c h t) := wpAny_Name (wpAny_loadName_free (s := mk c h t) hk hl hc hv k hn) hd
theorem stc {env : Env} {x : Str} {q : Addr} {v : Value} {v₀ : Option Value} {Q : Unit → Shared → Prop} (hv : h.IsCell q v₀) (k : ∀ h', h'.IsCell q (some v) → Heap.SameBut q h h' → Q () (mk c h' t)) (hc : env.cells.lookup x = some q := by rfl) (hk : env.scope.kind = .function := by rfl) (hl : env.kindOf x = some .cell := by rfl) :
    wpAny (model prog w) A (storeName env x v) Q E (mk c h t) := wpAny_storeName_cell (s := mk c h t) hk hl hc hv k
theorem Dep.cell {X : Addr → Prop} {q : Addr} {v : Option Value} (hx : X q) : Dep X fun h => h.IsCell q v := Dep.at hx fun _ _ k ⟨o, e, d⟩ => ⟨o, k _ e, d⟩
end

def envC (st : Stmt) (qual : Str) (cd : Value) (L f : Addr) : Env := newEnv (dScope st) L mainGlobals (cellsFrom (L + 1) (dScope st).names []) (qual ++ ".<locals>.") (some f) cd none builtinsNs
theorem cellsFrom_some (x : Str) : ∀ (names : List (Str × NameKind)) (n m : Nat) (a b : List (Str × Addr)), (a.lookup x).isSome = (b.lookup x).isSome → ((cellsFrom n names a).lookup x).isSome = ((cellsFrom m names b).lookup x).isSome
  | [], _, _, _, _, h => h
  | (y, k) :: r, n, m, a, b, h => by
    unfold cellsFrom
    split
    · refine cellsFrom_some x r _ _ _ _ ?_
      rw [List.lookup_cons, List.lookup_cons]
      cases x == y
      · exact h
      · rfl
    · exact cellsFrom_some x r _ _ _ _ h
section
variable {prog : Program} {w : World} {A : Around} {c : Cst} {h : Heap} {t : Nat}
/-- a call of a def that has cells -/
theorem call_cells {f : Addr} {st : Stmt} {qual : Str} {dV cd : Value} {pos : List Value} {binds : List (Str × Value)} {Q E : Value → Shared → Prop} (G : Gl h) (hf : FnAt h f st qual dV cd) (hroom : A.depth < recursionLimit)
    (hbind : ∀ pm, BindsTo (mk c h t) (fdOf st qual dV pm cd) ⟨pos, []⟩ binds) (l : List (Str × Option Value))
    (k : ∀ h₁ t₁, Fn (envC st qual cd h.objs.size f) h (fun _ => True) h₁ l → Cl h.objs.size (cellsFrom (h.objs.size + 1) (dScope st).names []) h₁ (bindC (envC st qual cd h.objs.size f).kindOf binds fun _ => none) →
      wpAny (model prog w) (A.deeper (envC st qual cd h.objs.size f)) (execs (dBody st) (envC st qual cd h.objs.size f))
      (fun fl s' => Q (match fl with | .ret v => v | _ => .none) s') (fun e s' => wpAny (model prog w) (A.deeper (envC st qual cd h.objs.size f)) (leaving (envC st qual cd h.objs.size f) e) (fun _ s'' => E e s'') (fun e' s'' => E e' s'') s') (mk c h₁ t₁))
    (e1 : (binds.all fun x => (dScope st).names.lookup x.1 == some .local || ((dScope st).names.lookup x.1 == some .cell && ((cellsFrom 0 (dScope st).names []).lookup x.1).isSome)) = true := by kernel_rfl)
    (e3 : (dScope st).isCoroutine = false := by kernel_rfl) (e4 : (dScope st).isGenerator = false := by kernel_rfl) (e5 : (dScope st).kind = .function := by kernel_rfl)
    (h1 : ((l.map (·.1)).all fun x => (envC st qual cd h.objs.size f).kindOf x == some .local && !(x == ("__debug__" : Str))) = true := by kernel_rfl) (h2 : decide (l.map (·.1)).Nodup = true := by kernel_rfl)
    (h3 : (l.map fun p => bindL (envC st qual cd h.objs.size f).kindOf binds (fun _ => none) p.1) = l.map (·.2) := by kernel_rfl) :
    wpAny (model prog w) A (call (.ref f) pos) Q E (mk c h t) := by
  obtain ⟨o, pm, ho, hd, hcd⟩ := hf
  refine wpAny_call (codeAny_call_function (s := mk c h t) (fd := fdOf st qual dV pm cd) hroom ho hd e3 e4 rfl hcd (hbind pm _ _ _ _ (wpAny_with_toks (n := t + 1) (s := mk c h t) (Nat.le_refl _) (wpAny_newFunctionEnv_cells (s := mk c h t) e5 (fun x hx => ?_) fun env he s₁ X htk => ?_))))
  · have := List.all_eq_true.mp e1 x hx
    rcases Bool.or_eq_true _ _ ▸ this with q | q
    · exact .inl (by simpa using q)
    · have q := Bool.and_eq_true _ _ ▸ q
      exact .inr ⟨by simpa using q.1, by rw [cellsFrom_some x.1 _ _ 0 [] [] rfl]; exact q.2⟩
  · subst he
    refine ⟨G.nolimit.keeps X.toInCall.keep, codeAny_func ?_⟩
    obtain ⟨h₁, t₁, rfl, _⟩ := X.done
    obtain ⟨t₁, rfl⟩ : ∃ m, t₁ = m + 1 := ⟨t₁ - 1, by have : t + 1 ≤ t₁ := htk; omega⟩
    refine k h₁ t₁ ⟨⟨e5, fun p hp => ?_, of_decide_eq_true h2, _, X.toInCall.ns, fun p hp => List.map_inj_left.mp h3 p hp⟩, X.toInCall.keep, Nat.le_refl _, trivial, Stb.true⟩ ⟨X.cell, X.apart, X.above⟩
    have := List.all_eq_true.mp h1 p.1 (List.mem_map_of_mem hp)
    simp only [Bool.and_eq_true, beq_iff_eq, Bool.not_eq_true', beq_eq_false_iff_ne, ne_eq] at this
    exact ⟨this.1, by simpa using this.2⟩
end
end Mine
end
section
open PySem PySem.W PyProof.Rows PySem.Calls
set_option maxRecDepth 100000
namespace Mine
local macro_rules | `(tactic| walk_at "mem") => `(tactic| with_reducible (first | exact List.mem_cons_self | (refine List.mem_cons_of_mem _ ?_; walk_at "mem")))

def dFor : Stmt → List Stmt
  | .For _ _ b .. => b
  | .While _ b .. => b
  | .If _ b .. => b
  | .Try b .. => b
  | _ => []
def at' (l : List Stmt) (i : Nat) : Stmt := (l[i]?).getD (.Pass default)

/-- weights and predecessors -/
structure Tbl where
  D : Int → Int → Option Int
  K : Int → List Int
  P : Int → Int → Int
def Tbl.imp (s : Tbl) (w u v : Int) : Bool := ltE (addE (s.D u w) (s.D w v)) (s.D u v)
def Tbl.put (s : Tbl) (w u v : Int) : Tbl := ⟨upd s.D u (upd (s.D u) v (addE (s.D u w) (s.D w v))), upd s.K u (addk (s.K u) v), upd s.P u (upd (s.P u) v (s.P w v))⟩
def Tbl.step (s : Tbl) (w u v : Int) : Tbl := if s.imp w u v then s.put w u v else s
def Tbl.runV (s : Tbl) (w u : Int) (vs : List Int) : Tbl := vs.foldl (fun s v => s.step w u v) s
def Tbl.runU (N : List Int) (s : Tbl) (w : Int) (us : List Int) : Tbl := us.foldl (fun s u => s.runV w u N) s
def Tbl.runW (N : List Int) (s : Tbl) (ws : List Int) : Tbl := ws.foldl (fun s w => Tbl.runU N s w N) s
structure Tbl.Safe (prk : List Int) (s : Tbl) (w u v : Int) : Prop where
  f1 : Fits (s.D u w)
  f2 : Fits (s.D w v)
  good : s.imp w u v = true → u ∈ prk ∧ w ∈ prk ∧ v ∈ s.K w ∧ (s.K u).length ≤ 1000

structure Lay where
  N : List Int
  prk : List Int
  dd : Addr
  pd : Addr
  dr : Int → Addr
  pr : Int → Addr
def Lay.row (y : Lay) (b : Addr) : Prop := (∃ i ∈ y.N, b = y.dr i) ∨ ∃ i ∈ y.prk, b = y.pr i
structure Lay.Ok (y : Lay) : Prop where
  dinj : ∀ i ∈ y.N, ∀ j ∈ y.N, y.dr i = y.dr j → i = j
  pinj : ∀ i ∈ y.prk, ∀ j ∈ y.prk, y.pr i = y.pr j → i = j
  dp : ∀ i ∈ y.N, ∀ j ∈ y.prk, y.dr i ≠ y.pr j
  odd : ¬ y.row y.dd
  opd : ¬ y.row y.pd
  dpd : y.dd ≠ y.pd
  len : y.N.length ≤ 1000
section
variable (prog : Program) (w : World)
structure Mats (y : Lay) (s : Tbl) (h : Heap) : Prop where
  d : Row prog w RR h y.dd y.N y.dr
  drow : ∀ i ∈ y.N, Row prog w RE h (y.dr i) y.N (s.D i)
  p : Row prog w RR h y.pd y.prk y.pr
  prow : ∀ i ∈ y.prk, Row prog w RI h (y.pr i) (s.K i) (s.P i)
end
section
variable {prog : Program} {w : World} {y : Lay} {s : Tbl} {h h' : Heap}
theorem Mats.dep : Dep (fun b => b = y.dd ∨ b = y.pd ∨ y.row b) (Mats prog w y s) := fun _ _ k x =>
  ⟨x.d.at fun o e => k _ o (.inl rfl) e, fun i hi => (x.drow i hi).at fun o e => k _ o (.inr (.inr (.inl ⟨i, hi, rfl⟩))) e, x.p.at fun o e => k _ o (.inr (.inl rfl)) e, fun i hi => (x.prow i hi).at fun o e => k _ o (.inr (.inr (.inr ⟨i, hi, rfl⟩))) e⟩
theorem Mats.setD (x : Mats prog w y s h) (o : y.Ok) {u : Int} (hu : u ∈ y.N) {f : Int → Option Int} (r : Row prog w RE h' (y.dr u) y.N f) (sb : Heap.SameBut (y.dr u) h h') : Mats prog w y { s with D := upd s.D u f } h' := by
  refine ⟨x.d.at fun _ e => sb.extBut _ _ (fun q => o.odd (.inl ⟨u, hu, q⟩)) e, fun i hi => ?_, x.p.at fun _ e => sb.extBut _ _ (fun q => o.opd (.inl ⟨u, hu, q⟩)) e, fun i hi => (x.prow i hi).at fun _ e => sb.extBut _ _ (fun q => o.dp u hu i hi q.symm) e⟩
  by_cases e : i = u
  · subst e; simpa [upd] using r
  · simp only [upd, if_neg e]
    exact (x.drow i hi).at fun _ q => sb.extBut _ _ (fun z => e (o.dinj i hi u hu z)) q
theorem Mats.setP (x : Mats prog w y s h) (o : y.Ok) {u : Int} (hu : u ∈ y.prk) {k : List Int} {f : Int → Int} (r : Row prog w RI h' (y.pr u) k f) (sb : Heap.SameBut (y.pr u) h h') : Mats prog w y { s with K := upd s.K u k, P := upd s.P u f } h' := by
  refine ⟨x.d.at fun _ e => sb.extBut _ _ (fun q => o.odd (.inr ⟨u, hu, q⟩)) e, fun i hi => (x.drow i hi).at fun _ e => sb.extBut _ _ (fun q => o.dp i hi u hu q) e, x.p.at fun _ e => sb.extBut _ _ (fun q => o.opd (.inr ⟨u, hu, q⟩)) e, fun i hi => ?_⟩
  by_cases e : i = u
  · subst e; simpa [upd] using r
  · simp only [upd, if_neg e]
    exact (x.prow i hi).at fun _ q => sb.extBut _ _ (fun z => e (o.pinj i hi u hu z)) q
end

/-- iteration over a graph gives its nodes -/
def GIter (prog : Program) (w : World) (c : Cst) (h0 : Heap) (g nd : Addr) (N : List Int) : Prop :=
  ∀ (A : Around) h t (Q : Value → Shared → Prop), A.handled = none → A.depth + 1 < recursionLimit → Keep h0 h →
    (∀ h' t' I ep kvs, Keep h h' → h.objs.size ≤ I → I < h'.objs.size → nd < h.objs.size → h'.IsKeyIter I nd 0 kvs.length ep → h'.DictAt (intKind prog w) nd kvs ep → kvs.map (·.1) = N → Q (.ref I) (mk c h' t')) →
    wpAny (model prog w) A (pyIter (.ref g)) Q NE (mk c h t)

section
variable {prog : Program} {w : World} {A : Around} {env : Env} {c : Cst} {h h0 : Heap} {t : Nat}
theorem loops_G {target : Expr} {body : List Stmt} {Q : Flow → Shared → Prop} {Wr : Addr → Prop} {g nd : Addr} {N : List Int} (G : GIter prog w c h0 g nd N) (hA : A.handled = none) (hroom : A.depth + 1 < recursionLimit) (k : Keep h0 h) (hd : ¬ Wr nd) (hW : ∀ b, Wr b → b < h.objs.size)
    (Inv : List Int → List Int → Heap → Nat → Prop) (i0 : ∀ h' t', Keep h h' → Inv [] N h' t')
    (hst : ∀ I p r h₁ t₁ h' t', h.objs.size ≤ I → (∀ b o, b ≠ I → h₁.get? b = some o → h'.get? b = some o) → Inv p r h₁ t₁ → Inv p r h' t')
    (turn : ∀ p i r h₁ t₁ tk, N = p ++ i :: r → Inv p (i :: r) h₁ t₁ → wpAny (model prog w) A (assign target env (.int i tk)) (fun _ s₂ => wpAny (model prog w) A (execs body env) (Turn c Wr h₁ Q (Inv (p ++ [i]) r)) NE s₂) NE (mk c h₁ t₁))
    (fin : ∀ h t, Inv N [] h t → Q .next (mk c h t)) :
    wpAny (model prog w) A (pyIter (.ref g)) (Loops prog w A env c target body Q Wr) NE (mk c h t) := by
  refine G A h t _ hA hroom k fun h' t' I ep kvs hk hI1 hI2 hnd hit hat hks => ?_
  refine loops_it hA hat hks hit hd (fun e => Nat.lt_irrefl _ (Nat.lt_of_lt_of_le (hW I e) hI1)) (Nat.ne_of_lt (Nat.lt_of_lt_of_le hnd hI1)) Inv (i0 h' t' hk) (fun p r h₁ t₁ h' t' => hst I p r h₁ t₁ h' t' hI1) turn fin
end
end Mine
end
section
open PySem PySem.W PyProof.Rows PySem.Calls
set_option maxRecDepth 100000
namespace Mine
local macro_rules | `(tactic| walk_at "mem") => `(tactic| with_reducible (first | exact List.mem_cons_self | (refine List.mem_cons_of_mem _ ?_; walk_at "mem")))

abbrev fwEnv (cd : Value) (L f : Addr) : Env := envC (S 11) "floyd_warshall_predecessor_and_distance" cd L f
abbrev fwW : Stmt := SM 11 1
abbrev fwU : Stmt := at' (dFor fwW) 1
abbrev fwV : Stmt := at' (dFor fwU) 1

def MC (prog : Program) (wd : World) (L : Addr) (y : Lay) (s : Tbl) (h : Heap) : Prop := Mats prog wd y s h ∧ h.IsCell (L + 1) (some (.ref y.dd))
def Wr (L : Addr) (y : Lay) (b : Addr) : Prop := b = L ∨ y.row b
structure Apart (hB : Heap) (L : Addr) (y : Lay) : Prop where
  row : ∀ b, y.row b → hB.objs.size ≤ b ∧ b ≠ L ∧ b ≠ L + 1
  dd : y.dd ≠ L
  pd : y.pd ≠ L
theorem MC.dep {prog wd L y s} : Dep (fun b => b = L + 1 ∨ b = y.dd ∨ b = y.pd ∨ y.row b) (MC prog wd L y s) :=
  Dep.and (Mats.dep.mono fun _ x => .inr x) (Dep.cell (.inl rfl))
theorem MC.stb {prog wd L y s hB} (a : Apart hB L y) : Stb L (MC prog wd L y s) := MC.dep.stb fun x => by
  rcases x with x | x | x | x
  · exact absurd x (Nat.ne_of_lt (Nat.lt_succ_self _))
  · exact a.dd x.symm
  · exact a.pd x.symm
  · exact (a.row _ x).2.1 rfl
theorem MC.lt {prog wd L y s h} (m : MC prog wd L y s h) : ∀ b, (b = L + 1 ∨ b = y.dd ∨ b = y.pd ∨ y.row b) → b < h.objs.size := fun b x => by
  rcases x with rfl | rfl | rfl | x | x
  · obtain ⟨_, e, _⟩ := m.2; exact Heap.lt_size e
  · exact m.1.d.lt
  · exact m.1.p.lt
  · obtain ⟨i, hi, rfl⟩ := x; exact (m.1.drow i hi).lt
  · obtain ⟨i, hi, rfl⟩ := x; exact (m.1.prow i hi).lt
theorem Wr.lt {prog wd env hB y s h l} (F : Fn env hB (MC prog wd env.locals y s) h l) : ∀ b, Wr env.locals y b → b < h.objs.size := fun b x => by
  rcases x with rfl | x
  · exact F.loc.lt
  · exact F.inv.lt b (.inr (.inr (.inr x)))
theorem MC.off {prog wd env hB y s h h' l I n} (F : Fn env hB (MC prog wd env.locals y s) h l) (h0 : ∀ b, (b = env.locals + 1 ∨ b = y.dd ∨ b = y.pd ∨ y.row b) → b < n) (hn : env.locals < n) (hB' : hB.objs.size ≤ n) (hI : n ≤ I) (e : ∀ b o, b ≠ I → h.get? b = some o → h'.get? b = some o) : Fn env hB (MC prog wd env.locals y s) h' l :=
  F.off MC.dep (fun x => Nat.lt_irrefl _ (Nat.lt_of_lt_of_le (h0 I x) hI)) (Nat.le_trans hB' hI) (Nat.ne_of_gt (Nat.lt_of_lt_of_le hn hI)) e

section
variable {prog : Program} {wd : World} {A : Around} {c : Cst} {hB h : Heap} {t : Nat} {L f g nd : Addr} {cd wv : Value} {y : Lay}

abbrev fwl (g pd : Addr) (wv : Value) (w : Int) (tw : Tok) (dw : Addr) (u : Int) (tu : Tok) (du : Addr) (ov od : Option Value) : List (Str × Option Value) :=
  [("G", some (.ref g)), ("weight", some wv), ("pred", some (.ref pd)), ("w", some (.int w tw)), ("dist_w", some (.ref dw)), ("u", some (.int u tu)), ("dist_u", some (.ref du)), ("v", ov), ("d", od)]

theorem fw_v {s : Tbl} {w u : Int} {tw tu : Tok} {ov od : Option Value} {Q : Flow → Shared → Prop} (hA : A.handled = none) (hroom : A.depth + 1 < recursionLimit) (GG : GIter prog wd c hB g nd y.N) (ok : y.Ok) (ap : Apart hB L y) (hnd : nd < hB.objs.size)
    (hw : w ∈ y.N) (hu : u ∈ y.N) (safe : ∀ p v r, y.N = p ++ v :: r → (s.runV w u p).Safe y.prk w u v)
    (F : Fn (fwEnv cd L f) hB (MC prog wd L y s) h (fwl g y.pd wv w tw (y.dr w) u tu (y.dr u) ov od))
    (hQ : ∀ h' t' ov od, KO (Wr L y) h h' → Fn (fwEnv cd L f) hB (MC prog wd L y (s.runV w u y.N)) h' (fwl g y.pd wv w tw (y.dr w) u tu (y.dr u) ov od) → Q .next (mk c h' t')) :
    wpAny (model prog wd) A (exec fwV (fwEnv cd L f)) Q NE (mk c h t) := by
  have hlt := Wr.lt F
  have hbig : ∀ {I}, h.objs.size ≤ I → hB.objs.size ≤ I := fun q => Nat.le_trans (Nat.le_of_lt (Nat.lt_of_le_of_lt F.above F.loc.lt)) q
  refine for_walks (Wr L y) (nm F (by walk_at "mem") (loops_G GG hA hroom F.keep (fun x => ?_) hlt
    (fun p r h' t' => KO (Wr L y) h h' ∧ ∃ ov od, Fn (fwEnv cd L f) hB (MC prog wd L y (s.runV w u p)) h' (fwl g y.pd wv w tw (y.dr w) u tu (y.dr u) ov od)) ?_ ?_ ?_ ?_))
  · rcases x with x | x
    · exact absurd (x ▸ hnd) (Nat.not_lt.mpr F.above)
    · exact absurd hnd (Nat.not_lt.mpr (ap.row _ x).1)
  · intro h' t' k; exact ⟨k.ko, ov, od, F.ext k⟩
  · rintro I p r h₁ t₁ h' t' hI e ⟨ko, ov, od, F1⟩
    exact ⟨ko.ext e hI, ov, od, MC.off F1 F.inv.lt F.loc.lt (hbig (Nat.le_refl _)) hI e⟩
  · rintro p v r h₁ t₁ tk hN ⟨ko, ov, od, F1⟩
    have hv : v ∈ y.N := by rw [hN]; simp
    have sf := safe p v r hN
    have hstep : s.runV w u (p ++ [v]) = (s.runV w u p).step w u v := by simp [Tbl.runV]
    rw [hstep]
    generalize s.runV w u p = σ at F1 sf
    have F2 : Fn (fwEnv cd L f) hB (fun h => KO (Wr L y) h₁ h ∧ MC prog wd L y σ h) h₁ (fwl g y.pd wv w tw (y.dr w) u tu (y.dr u) ov od) :=
      F1.say ⟨KO.refl _, F1.inv⟩ (fun a b k x => ⟨KO.dep.stb (fun z => z.1 (.inl rfl)) a b k x.1, MC.stb ap a b k x.2⟩)
    refine wpAny_assign_Name (st7 F2 fun h2 t2 F2 _ => ?_)
    refine wpAny_execs_cons (wpAny_Assign_Name (wpAny_BinOp (Subscript_ (nm F2 (by walk_at "mem") (nm F2 (by walk_at "mem") (row_itm (F2.inv.2.1.drow u hu) hw fun v1 t1 r1 => ?_))))))
    refine Subscript_ (nm F2 (by walk_at "mem") (nm F2 (by walk_at "mem") (row_itm (F2.inv.2.1.drow w hw) hv fun v2 t2 r2 => ?_)))
    refine add_ext r1 r2 sf.f1 sf.f2 fun vd t3 rd => ?_
    refine st8 F2 fun h3 t3 F3 _ => ?_
    refine wpAny_execs_cons (wpAny_If (wpAny_isTrue_Compare1 (Subscript_ (nm F3 (by walk_at "mem") (nm F3 (by walk_at "mem") (row_itm (F3.inv.2.1.drow u hu) hv fun v4 t4 r4 => ?_))))))
    refine nm F3 (by walk_at "mem") (gt_ext r4 rd (wpAny_truthy_bool ?_))
    split
    · rename_i himp
      have himp : σ.imp w u v = true := by simpa [Tbl.imp] using himp
      obtain ⟨hup, hwp, hvk, hkl⟩ := sf.good himp
      have hdu : hB.objs.size ≤ y.dr u ∧ y.dr u ≠ L ∧ y.dr u ≠ L + 1 := ap.row _ (.inl ⟨u, hu, rfl⟩)
      have hpu : hB.objs.size ≤ y.pr u ∧ y.pr u ≠ L ∧ y.pr u ≠ L + 1 := ap.row _ (.inr ⟨u, hup, rfl⟩)
      refine wpAny_execs_cons (wpAny_Assign_Subscript (nm F3 (by walk_at "mem") (nm F3 (by walk_at "mem") (nm F3 (by walk_at "mem") (row_set (F3.inv.2.1.drow u hu) rd (Nat.le_trans ok.len (by decide)) fun h5 t5 r5 sb5 => ?_)))))
      have ek : addk y.N v = y.N := by rw [addk, if_pos hv]
      rw [ek] at r5
      have m5 := F3.inv.2.1.setD ok hu r5 sb5
      have F5 : Fn (fwEnv cd L f) hB (fun h => KO (Wr L y) h₁ h ∧ MC prog wd L y { σ with D := upd σ.D u (upd (σ.D u) v (addE (σ.D u w) (σ.D w v))) } h) h5 _ :=
        F3.upd hdu.1 hdu.2.1 sb5.extBut ⟨F3.inv.1.but sb5 (.inr (.inl ⟨u, hu, rfl⟩)), m5, F3.inv.2.2.sameBut sb5 hdu.2.2.symm⟩
          (fun a b k x => ⟨KO.dep.stb (fun z => z.1 (.inl rfl)) a b k x.1, MC.stb ap a b k x.2⟩)
      refine wpAny_execs_cons (wpAny_Assign_Subscript (Subscript_ (Subscript_ (nm F5 (by walk_at "mem") (nm F5 (by walk_at "mem") (row_itm F5.inv.2.1.p hwp fun v6 t6 r6 => ?_))))))
      cases r6
      refine nm F5 (by walk_at "mem") (row_itm (F5.inv.2.1.prow w hwp) hvk fun v7 t7 r7 => ?_)
      refine Subscript_ (nm F5 (by walk_at "mem") (nm F5 (by walk_at "mem") (row_itm F5.inv.2.1.p hup fun v8 t8 r8 => ?_)))
      cases r8
      refine nm F5 (by walk_at "mem") (row_set (F5.inv.2.1.prow u hup) r7 (Nat.le_trans hkl (by decide)) fun h9 t9 r9 sb9 => ?_)
      have m9 := F5.inv.2.1.setP ok hup r9 sb9
      have F9 : Fn (fwEnv cd L f) hB (fun h => KO (Wr L y) h₁ h ∧ MC prog wd L y (σ.put w u v) h) h9 _ :=
        F5.upd hpu.1 hpu.2.1 sb9.extBut ⟨F5.inv.1.but sb9 (.inr (.inr ⟨u, hup, rfl⟩)), m9, F5.inv.2.2.sameBut sb9 hpu.2.2.symm⟩
          (fun a b k x => ⟨KO.dep.stb (fun z => z.1 (.inl rfl)) a b k x.1, MC.stb ap a b k x.2⟩)
      refine wpAny_execs_nil (wpAny_execs_nil ⟨h9, t9, rfl, F9.inv.1, ko.trans F9.inv.1, some (.int v tk), some vd, ?_⟩)
      have e : σ.step w u v = σ.put w u v := by unfold Tbl.step; rw [if_pos himp]
      rw [e]
      exact F9.say F9.inv.2 (MC.stb ap)
    · rename_i himp
      refine wpAny_execs_nil (wpAny_execs_nil ⟨h3, t4, rfl, F3.inv.1, ko.trans F3.inv.1, some (.int v tk), some vd, ?_⟩)
      have e : σ.step w u v = σ := by
        unfold Tbl.step; rw [if_neg]; simpa [Tbl.imp] using himp
      rw [e]
      exact F3.say F3.inv.2 (MC.stb ap)
  · rintro h' t' ⟨ko, ov, od, F1⟩
    exact hQ h' t' ov od ko F1

abbrev fwl2 (g pd : Addr) (wv : Value) (w : Int) (tw : Tok) (dw : Addr) (uo duo ov od : Option Value) : List (Str × Option Value) :=
  [("G", some (.ref g)), ("weight", some wv), ("pred", some (.ref pd)), ("w", some (.int w tw)), ("dist_w", some (.ref dw)), ("u", uo), ("dist_u", duo), ("v", ov), ("d", od)]

theorem fw_u {s : Tbl} {w : Int} {tw : Tok} {uo duo ov od : Option Value} {Q : Flow → Shared → Prop} (hA : A.handled = none) (hroom : A.depth + 1 < recursionLimit) (GG : GIter prog wd c hB g nd y.N) (ok : y.Ok) (ap : Apart hB L y) (hnd : nd < hB.objs.size)
    (hw : w ∈ y.N) (safe : ∀ pu u ru, y.N = pu ++ u :: ru → ∀ p v r, y.N = p ++ v :: r → ((Tbl.runU y.N s w pu).runV w u p).Safe y.prk w u v)
    (F : Fn (fwEnv cd L f) hB (MC prog wd L y s) h (fwl2 g y.pd wv w tw (y.dr w) uo duo ov od))
    (hQ : ∀ h' t' uo duo ov od, KO (Wr L y) h h' → Fn (fwEnv cd L f) hB (MC prog wd L y (Tbl.runU y.N s w y.N)) h' (fwl2 g y.pd wv w tw (y.dr w) uo duo ov od) → Q .next (mk c h' t')) :
    wpAny (model prog wd) A (exec fwU (fwEnv cd L f)) Q NE (mk c h t) := by
  have hlt := Wr.lt F
  have hbig : ∀ {I}, h.objs.size ≤ I → hB.objs.size ≤ I := fun q => Nat.le_trans (Nat.le_of_lt (Nat.lt_of_le_of_lt F.above F.loc.lt)) q
  refine for_walks (Wr L y) (nm F (by walk_at "mem") (loops_G GG hA hroom F.keep (fun x => ?_) hlt
    (fun p r h' t' => KO (Wr L y) h h' ∧ ∃ uo duo ov od, Fn (fwEnv cd L f) hB (MC prog wd L y (Tbl.runU y.N s w p)) h' (fwl2 g y.pd wv w tw (y.dr w) uo duo ov od)) ?_ ?_ ?_ ?_))
  · rcases x with x | x
    · exact absurd (x ▸ hnd) (Nat.not_lt.mpr F.above)
    · exact absurd hnd (Nat.not_lt.mpr (ap.row _ x).1)
  · intro h' t' k; exact ⟨k.ko, uo, duo, ov, od, F.ext k⟩
  · rintro I p r h₁ t₁ h' t' hI e ⟨ko, uo, duo, ov, od, F1⟩
    exact ⟨ko.ext e hI, uo, duo, ov, od, MC.off F1 F.inv.lt F.loc.lt (hbig (Nat.le_refl _)) hI e⟩
  · rintro p u r h₁ t₁ tk hN ⟨ko, uo, duo, ov, od, F1⟩
    have hu : u ∈ y.N := by rw [hN]; simp
    have sf := safe p u r hN
    have hstep : Tbl.runU y.N s w (p ++ [u]) = (Tbl.runU y.N s w p).runV w u y.N := by simp [Tbl.runU]
    rw [hstep]
    generalize Tbl.runU y.N s w p = σ at F1 sf
    refine wpAny_assign_Name (st5 F1 fun h2 t2 F2 s2 => ?_)
    refine wpAny_execs_cons (wpAny_Assign_Name (Subscript_ (nmc F2.inv.2 (nm F2 (by walk_at "mem") (row_itm F2.inv.1.d hu fun v1 t1 r1 => ?_)))))
    cases r1
    refine st6 F2 fun h3 t3 F3 s3 => ?_
    have k3 : KO (Wr L y) h₁ h3 := ((KO.refl h₁).but s2 (.inl rfl)).but s3 (.inl rfl)
    refine wpAny_execs_cons (fw_v hA hroom GG ok ap hnd hw hu sf F3 fun h' t' ov od ko' F' => ?_)
    exact wpAny_execs_nil ⟨h', t', rfl, k3.trans ko', (ko.trans k3).trans ko', _, _, ov, od, F'⟩
  · rintro h' t' ⟨ko, uo, duo, ov, od, F1⟩
    exact hQ h' t' uo duo ov od ko F1

abbrev fwl3 (g pd : Addr) (wv : Value) (wo dwo uo duo ov od : Option Value) : List (Str × Option Value) :=
  [("G", some (.ref g)), ("weight", some wv), ("pred", some (.ref pd)), ("w", wo), ("dist_w", dwo), ("u", uo), ("dist_u", duo), ("v", ov), ("d", od)]
theorem fw_w {s : Tbl} {wo dwo uo duo ov od : Option Value} {Q : Flow → Shared → Prop} (hA : A.handled = none) (hroom : A.depth + 1 < recursionLimit) (GG : GIter prog wd c hB g nd y.N) (ok : y.Ok) (ap : Apart hB L y) (hnd : nd < hB.objs.size)
    (safe : ∀ pw w rw, y.N = pw ++ w :: rw → ∀ pu u ru, y.N = pu ++ u :: ru → ∀ p v r, y.N = p ++ v :: r → ((Tbl.runU y.N (Tbl.runW y.N s pw) w pu).runV w u p).Safe y.prk w u v)
    (F : Fn (fwEnv cd L f) hB (MC prog wd L y s) h (fwl3 g y.pd wv wo dwo uo duo ov od))
    (hQ : ∀ h' t' wo dwo uo duo ov od, KO (Wr L y) h h' → Fn (fwEnv cd L f) hB (MC prog wd L y (Tbl.runW y.N s y.N)) h' (fwl3 g y.pd wv wo dwo uo duo ov od) → Q .next (mk c h' t')) :
    wpAny (model prog wd) A (exec fwW (fwEnv cd L f)) Q NE (mk c h t) := by
  have hlt := Wr.lt F
  have hbig : ∀ {I}, h.objs.size ≤ I → hB.objs.size ≤ I := fun q => Nat.le_trans (Nat.le_of_lt (Nat.lt_of_le_of_lt F.above F.loc.lt)) q
  refine for_walks (Wr L y) (nm F (by walk_at "mem") (loops_G GG hA hroom F.keep (fun x => ?_) hlt
    (fun p r h' t' => KO (Wr L y) h h' ∧ ∃ wo dwo uo duo ov od, Fn (fwEnv cd L f) hB (MC prog wd L y (Tbl.runW y.N s p)) h' (fwl3 g y.pd wv wo dwo uo duo ov od)) ?_ ?_ ?_ ?_))
  · rcases x with x | x
    · exact absurd (x ▸ hnd) (Nat.not_lt.mpr F.above)
    · exact absurd hnd (Nat.not_lt.mpr (ap.row _ x).1)
  · intro h' t' k; exact ⟨k.ko, wo, dwo, uo, duo, ov, od, F.ext k⟩
  · rintro I p r h₁ t₁ h' t' hI e ⟨ko, wo, dwo, uo, duo, ov, od, F1⟩
    exact ⟨ko.ext e hI, wo, dwo, uo, duo, ov, od, MC.off F1 F.inv.lt F.loc.lt (hbig (Nat.le_refl _)) hI e⟩
  · rintro p w r h₁ t₁ tk hN ⟨ko, wo, dwo, uo, duo, ov, od, F1⟩
    have hw : w ∈ y.N := by rw [hN]; simp
    have sf := safe p w r hN
    have hstep : Tbl.runW y.N s (p ++ [w]) = Tbl.runU y.N (Tbl.runW y.N s p) w y.N := by simp [Tbl.runW]
    rw [hstep]
    generalize Tbl.runW y.N s p = σ at F1 sf
    refine wpAny_assign_Name (st3 F1 fun h2 t2 F2 s2 => ?_)
    refine wpAny_execs_cons (wpAny_Assign_Name (Subscript_ (nmc F2.inv.2 (nm F2 (by walk_at "mem") (row_itm F2.inv.1.d hw fun v1 t1 r1 => ?_)))))
    cases r1
    refine st4 F2 fun h3 t3 F3 s3 => ?_
    have k3 : KO (Wr L y) h₁ h3 := ((KO.refl h₁).but s2 (.inl rfl)).but s3 (.inl rfl)
    refine wpAny_execs_cons (fw_u hA hroom GG ok ap hnd hw sf F3 fun h' t' uo duo ov od ko' F' => ?_)
    exact wpAny_execs_nil ⟨h', t', rfl, k3.trans ko', (ko.trans k3).trans ko', _, _, uo, duo, ov, od, F'⟩
  · rintro h' t' ⟨ko, wo, dwo, uo, duo, ov, od, F1⟩
    exact hQ h' t' wo dwo uo duo ov od ko F1
end
end Mine
end
section
open PySem PySem.W PyProof.Rows PySem.Calls
set_option maxRecDepth 100000
namespace Mine
def isOI : Option Int → Value → Bool
  | none, .none => true
  | some k, .int n _ => n == k
  | _, _ => false
theorem isOI_none {v : Value} (h : isOI none v = true) : v = .none := by cases v <;> simp [isOI] at h ⊢
theorem isOI_some {k : Int} {v : Value} (h : isOI (some k) v = true) : ∃ t, v = .int k t := by
  cases v <;> simp [isOI] at h
  subst h; exact ⟨_, rfl⟩
def optKind (prog : Program) (w : World) : KeyKind prog w (Option Int) where
  is := isOI
  hash := fun k => match k with | none => reduceHash 0xFCA86420 | some k => hashInt k
  inj v a b ha hb := by
    cases a with
    | none => rw [isOI_none ha] at hb; cases b <;> simp [isOI] at hb ⊢
    | some x => obtain ⟨t, rfl⟩ := isOI_some ha; cases b <;> simp [isOI] at hb ⊢; exact hb
  byValue k v h := by cases k with | none => rw [isOI_none h]; rfl | some x => obtain ⟨t, rfl⟩ := isOI_some h; rfl
  pyHash := fun {A E s k v Q} hv h => by
    cases k with
    | some x => obtain ⟨t, rfl⟩ := isOI_some hv; exact wpAny_pyHash_int h
    | none =>
      rw [isOI_none hv]
      refine pyHash_slot (T := "NoneType") rfl PySem.F.slot_NoneType_hash PySem.F.entry_NoneType_hash (PySem.F.args_NoneType_hash_1 _) (beq_builtin_none _) (.inl rfl) ?_
      show wpAny _ _ (retInt 0xFCA86420) _ _ s
      exact wpAny_bind (wpAny_mkInt (wpAny_pure ⟨_, _, rfl, h⟩))
  eqBool := fun {A E s a b u v Q} hu hv h => by
    cases a with
    | some x =>
      obtain ⟨t, rfl⟩ := isOI_some hu
      cases b with
      | some y => obtain ⟨t', rfl⟩ := isOI_some hv; refine wpAny_eqBool_int ?_; rw [show (x == y) = decide (some x = some y) by rw [Bool.eq_iff_iff]; simp]; exact h
      | none => rw [isOI_none hv]; exact PySem.SeqAt.EqAt.int_none x t prog w E Q (by simpa using h)
    | none =>
      rw [isOI_none hu]
      cases b with
      | some y => obtain ⟨t', rfl⟩ := isOI_some hv; exact PySem.SeqAt.EqAt.none_int y t' prog w E Q (by simpa using h)
      | none => rw [isOI_none hv]; exact PySem.SeqAt.EqAt.same .none prog w E Q (by simpa using h)
  «strs» k x t v h := by cases k <;> simp [isOI] at h
end Mine
end
section
open PySem PySem.W PyProof.Rows PySem.Calls
set_option maxRecDepth 100000
namespace Mine
theorem ints_snoc {vs : List Value} {ns : List Int} {n : Int} (x : IntsAre vs (ns ++ [n])) : ∃ us t, vs = us ++ [.int n t] ∧ IntsAre us ns := by
  induction ns generalizing vs with
  | nil =>
    cases x with
    | cons m t y => cases y; exact ⟨[], t, rfl, .nil⟩
  | cons a r ih =>
    cases x with
    | cons m t y =>
      obtain ⟨us, t', rfl, z⟩ := ih y
      exact ⟨.int a t :: us, t', rfl, .cons a t z⟩
theorem IsInts.lt {h : Heap} {a : Addr} {ns} (x : IsInts h a ns) : a < h.objs.size := let ⟨_, l, _⟩ := x; l.lt
theorem IsInts.dep {X : Addr → Prop} {a ns} (hx : X a) : Dep X fun h => IsInts h a ns := Dep.at hx fun _ _ k x => x.at k
theorem IsInts.new (h : Heap) {vs ns} (i : IntsAre vs ns) : IsInts (h.push { cls := .type "list", data := .seq vs.toArray }) h.objs.size ns := ⟨vs, Lst.new h vs, i⟩
theorem Lst.dep {X : Addr → Prop} {a vs} (hx : X a) : Dep X fun h => Lst h a vs := Dep.at hx fun _ _ k x => x.at k
section
variable {prog : Program} {w : World} {A : Around} {c : Cst} {h : Heap} {t : Nat} {E : Value → Shared → Prop} {a b : Addr} {ns ms : List Int} {n : Int} {tk : Tok} {Q : Value → Shared → Prop}
theorem getml {x : Str} {id : String} {vs : List Value} {pl : Sem Bool} {Q : Value × List Value → Shared → Prop} (slot : Slot "list" x id) (ty : typeOf (.builtin id) = pure (.type "method_descriptor")) (y : Lst h a vs) (k : Q (.builtin id, [.ref a]) (mk c h t)) :
    wpAny (model prog w) A (getMethod (.ref a) x pl) Q E (mk c h t) := by
  obtain ⟨m, q⟩ := y
  exact getMethod_builtin (s := mk c h t) ⟨_, q, rfl⟩ PySem.F.plainAttrs_list slot ty (fun b e => by injection e with e; subst e; exact ⟨_, q, rfl⟩) k
theorem pop_m (x : IsInts h a (ns ++ [n])) (hsz : ns.length ≤ 1000) (k : ∀ h' t', IsInts h' a ns → Heap.SameBut a h h' → Q (.int n t') (mk c h' t)) :
    wpAny (model prog w) A (call (.builtin "list.pop") [.ref a]) Q E (mk c h t) := by
  obtain ⟨vs, ⟨m, q⟩, i⟩ := x
  obtain ⟨us, tn, rfl, z⟩ := ints_snoc i
  have hl : us.length = ns.length := z.length
  refine call_meets (s := mk c h t) PySem.F.slot_list_pop ⟨_, q, rfl⟩ PySem.F.entry_list_pop (PySem.F.args_list_pop_1 _) (PySem.MeetsSeq.list_pop_last a _ m (.int n tn) (by simp) (sz_of (by simp; omega))) ⟨q, ?_⟩
  have ee : (us ++ [Value.int n tn]).toArray.eraseIdxIfInBounds ((us ++ [Value.int n tn]).toArray.size - 1) = us.toArray := by
    rw [List.eraseIdxIfInBounds_toArray]
    congr 1
    rw [List.size_toArray, List.length_append, List.length_singleton, Nat.add_sub_cancel, List.eraseIdx_append_of_length_le (Nat.le_refl _)]
    simp
  have hm : Obj.mapSeq (fun xs => xs.eraseIdxIfInBounds ((us ++ [Value.int n tn]).toArray.size - 1)) { cls := .type "list", dict := none, data := .seq (us ++ [Value.int n tn]).toArray m, slots := #[] } =
    { cls := .type "list", dict := none, data := .seq us.toArray (if us.toArray.size == (us ++ [Value.int n tn]).toArray.size then m else m + 1), slots := #[] } := by rw [← ee]; rfl
  have e := Heap.get?_update_self (h := h) (Obj.mapSeq fun xs => xs.eraseIdxIfInBounds ((us ++ [Value.int n tn]).toArray.size - 1)) q (by rw [hm]; rfl)
  rw [hm] at e
  exact k _ tn ⟨us, ⟨_, e⟩, z⟩ (Heap.SameBut.update ..)
theorem extend_m (x : IsInts h a ns) (y : IsInts h b ms) (hsz : ns.length + ms.length ≤ 1000) (k : ∀ h', IsInts h' a (ns ++ ms) → Heap.SameBut a h h' → Q .none (mk c h' t)) :
    wpAny (model prog w) A (call (.builtin "list.extend") [.ref a, .ref b]) Q E (mk c h t) := by
  obtain ⟨vs, ⟨m, q⟩, i⟩ := x
  obtain ⟨us, ⟨m2, q2⟩, j⟩ := y
  have hl := i.length
  have hl2 := j.length
  have hsz' : vs.toArray.size + us.toArray.size ≤ sizeLine := by rw [List.size_toArray, List.size_toArray]; exact sz_of (by omega)
  refine call_meets (s := mk c h t) PySem.F.slot_list_extend ⟨_, q, rfl⟩ PySem.F.entry_list_extend (PySem.F.args_list_extend_2 _ _) (PySem.AutoSeq1.list_extend_list_list_0 a vs.toArray m b us.toArray m2 (extend_door hsz') (Nat.le_trans (Nat.le_add_right _ _) hsz') (Nat.le_trans hsz' (Nat.le_succ _))) ⟨q, q2, ?_⟩
  have e := Heap.get?_update_self (h := h) (Obj.mapSeq fun x => x ++ us.toArray) q (by rw [mapSeq_app]; rfl)
  rw [mapSeq_app] at e
  have e2 : vs.toArray ++ us.toArray = (vs ++ us).toArray := by simp
  rw [e2] at e
  exact k _ ⟨vs ++ us, ⟨_, e⟩, IntsAre.app i j⟩ (Heap.SameBut.update ..)
theorem lst_true {vs : List Value} {Q : Bool → Shared → Prop} (x : Lst h a vs) (hsz : vs.length ≤ 1000000) (k : ∀ t', Q (!vs.isEmpty) (mk c h t')) : wpAny (model prog w) A (truthy (.ref a)) Q E (mk c h t) := by
  refine wpAny_truthy_list (s := mk c h t) x.isList (by rw [List.size_toArray]; omega) ?_
  have e : vs.toArray.isEmpty = vs.isEmpty := by simp
  rw [e]; exact k _
theorem ints_true {Q : Bool → Shared → Prop} (x : IsInts h a ns) (hsz : ns.length ≤ 1000) (k : ∀ t', Q (!ns.isEmpty) (mk c h t')) : wpAny (model prog w) A (truthy (.ref a)) Q E (mk c h t) := by
  obtain ⟨vs, l, i⟩ := x
  refine lst_true l (by rw [i.length]; omega) fun t' => ?_
  have e : vs.isEmpty = ns.isEmpty := by cases i <;> rfl
  rw [e]; exact k t'
theorem ints_last {value slice : Expr} (x : IsInts h a (ns ++ [n])) (k : ∀ t', Q (.int n t') (mk c h t))
    (hs : subscripted slice false (.ref a) (.int (-1) tk) = operate [.ref a, .int (-1) tk] (getItem (.ref a) (.int (-1) tk)) := by with_unfolding_all rfl) :
    wpAny (model prog w) A (subscriptTail value slice (.ref a) (.int (-1) tk)) Q E (mk c h t) := by
  obtain ⟨vs, l, i⟩ := x
  refine item_list_ints_negR (s := mk c h t) l.isList i (by decide) (by simp; omega) (by decide) (fun t' => ?_) hs
  have e : (ns ++ [n]).getD (-1 + ((ns ++ [n]).length : Int)).toNat 0 = n := by
    have e1 : (-1 + ((ns ++ [n]).length : Int)).toNat = ns.length := by simp; omega
    rw [e1]; simp [List.getD]
  rw [e]; exact k t'
end
end Mine
end
section
open PySem PySem.W PyProof.Rows PySem.Calls
set_option maxRecDepth 100000
namespace Mine
section
variable {prog : Program} {w : World} {A : Around} {env : Env} {c : Cst} {h : Heap} {t : Nat} {s : Shared}
variable {K : Type} [DecidableEq K] {knd : KeyKind prog w K} {α : Type} {R : Value → α → Prop} {d : Addr} {ks : List K} {f : K → α}

/-- two names from a tuple -/
theorem assign2 {xa xb : Str} {pa pb pt : Pos} {kk} {T : Addr} {va vb : Value} {Q : Unit → Shared → Prop} (hA : A.handled = none) (hT : ∃ n, h.get? T = some { cls := .type "tuple", data := .seq #[va, vb] n })
    (k : ∀ h', Keep h h' → wpAny (model prog w) A (storeName env xa va) (fun _ s₁ => wpAny (model prog w) A (storeName env xb vb) Q NE s₁) NE (mk c h' t)) :
    wpAny (model prog w) A (assign (.Tuple [.Name xa pa, .Name xb pb] kk pt) env (.ref T)) Q NE (mk c h t) := by
  obtain ⟨n, e⟩ := hT
  have ht : IsTup (mk c h t).heap T #[va, vb] := ⟨_, e, rfl, _, rfl⟩
  refine assign_Tuple_tuple hA ht (by rfl) (by rfl) fun h' hx => ?_
  show wpAny _ _ (assignInOrder [assign (.Name xa pa) env, assign (.Name xb pb) env] [va, vb]) _ _ _
  refine assignInOrder_cons (wpAny_assign_Name (wpAny_mono (k h' fun b o q => hx b o (Nat.ne_of_lt (Heap.lt_size q)) q) (fun _ s₁ h₁ => ?_) fun _ _ e => e))
  exact assignInOrder_cons (wpAny_assign_Name (wpAny_mono h₁ (fun _ s₂ h₂ => assignInOrder_nil h₂) fun _ _ e => e))

def Items (knd : KeyKind prog w K) (R : Value → α → Prop) (A : Around) (env : Env) (c : Cst) (xa xb : Str) (body : List Stmt) (Q : Flow → Shared → Prop) (Wr : Addr → Prop) (x : Value) (s₁ : Shared) : Prop :=
  ∃ (v : Addr) (h1 : Heap) (t1 : Nat) (d : Addr) (ks : List K) (f : K → α) (Inv : List K → List K → Heap → Nat → Prop), x = .ref v ∧ s₁ = mk c h1 t1 ∧ h1.IsItemsView v d ∧ RowK knd R h1 d ks f ∧ ¬ Wr d ∧ ¬ Wr h1.objs.size ∧
    Inv [] ks h1 t1 ∧ (∀ p r h t h' t', (∀ b o, b ≠ h1.objs.size → h.get? b = some o → h'.get? b = some o) → Inv p r h t → Inv p r h' t') ∧
    (∀ p i r h t, ks = p ++ i :: r → h1.objs.size < h.objs.size → Inv p (i :: r) h t → ∀ key v, knd.is i key = true → R v (f i) → wpAny (model prog w) A (storeName env xa key) (fun _ s₂ => wpAny (model prog w) A (storeName env xb v) (fun _ s₃ =>
      wpAny (model prog w) A (execs body env) (Turn c Wr h Q (Inv (p ++ [i]) r)) NE s₃) NE s₂) NE (mk c h t)) ∧
    (∀ h t, Inv ks [] h t → Q .next (mk c h t))

theorem for_items {xa xb : Str} {pa pb pt pos : Pos} {kk} {iter : Expr} {body : List Stmt} {Q : Flow → Shared → Prop} (hA : A.handled = none) (Wr : Addr → Prop)
    (hi : wpAny (model prog w) A (eval iter env) (Items knd R A env c xa xb body Q Wr) NE s)
    (hs : ∀ x, foldedSetIterable iter env x = pure x := by intro _; rfl) :
    wpAny (model prog w) A (exec (.For (.Tuple [.Name xa pa, .Name xb pb] kk pt) iter body [] pos) env) Q NE s := by
  refine for_rule (wpAny_mono hi (fun x s₁ h₁ => ?_) fun _ _ e => e) hs
  obtain ⟨v, h1, t1, d, ks, f, Inv, rfl, rfl, hv, x, hd, hWI, i0, hst, turn, fin⟩ := h₁
  have hlt := x.lt
  obtain ⟨hs, kvs, q, hk, r⟩ := x
  obtain ⟨ep, hat⟩ := q.dictAt
  have hne : d ≠ h1.objs.size := Nat.ne_of_lt hlt
  have hlen : ks.length = kvs.length := by rw [← hk, List.length_map]
  refine wpAny_pyIter_items (s := mk c h1 t1) hv hat ?_
  refine ⟨fun k s => ∃ i h t ok ov, s = mk c h t ∧ k = kvs.length - i ∧ i ≤ kvs.length ∧ IsItemIter h h1.objs.size d i kvs.length ep ok ov ∧ h.DictAt knd d kvs ep ∧ Inv (ks.take i) (ks.drop i) h t,
    ⟨kvs.length, 0, _, t1, .none, .none, rfl, rfl, Nat.zero_le _, Heap.get?_push_size _ rfl, hat.push _, hst [] ks h1 t1 _ t1 (fun b o _ e => Heap.get?_push_of_some _ e) i0⟩, ?_⟩
  rintro k s ⟨i, h, t, ok, ov, rfl, rfl, hle, hit, hat, iv⟩
  rcases Nat.lt_or_ge i kvs.length with hi | hge
  · obtain ⟨⟨kk, xv⟩, hx⟩ : ∃ p, kvs[i]? = some p := ⟨kvs[i], by simp [hi]⟩
    refine wpAny_pyNext_items_item (s := mk c h t) hit hat hx fun key h2 hkey hout htup hsz hk2 => ?_
    refine wpAny_letOwnedTupleGo_items hout fun h3 hit3 hs3 => ?_
    have hit3n : h.objs.size ≠ h1.objs.size := Nat.ne_of_gt (Heap.lt_size hit)
    have htup3 : h3.get? h.objs.size = some { cls := .type "tuple", data := .seq #[key, xv] } := hs3.extBut _ _ hit3n htup
    refine assign2 (c := c) (t := t) hA ⟨_, htup3⟩ fun h4 k4 => ?_
    have hk4 : ∀ b o, b ≠ h1.objs.size → h.get? b = some o → h4.get? b = some o := fun b o hb e => k4 b o (hs3.extBut b o hb (hk2 b o hb e))
    have hi' : i < ks.length := by rw [hlen]; exact hi
    have hki : ks[i] = kk := by
      have := List.getElem?_map (f := (·.1)) (l := kvs) (i := i)
      rw [hk, hx] at this
      rw [List.getElem?_eq_getElem hi'] at this
      exact Option.some.inj this
    have e1 : ks.drop i = kk :: ks.drop (i + 1) := by rw [List.drop_eq_getElem_cons hi', hki]
    have e2 : ks.take (i + 1) = ks.take i ++ [kk] := by rw [List.take_succ, List.getElem?_eq_getElem hi', hki]; rfl
    have iv4 := hst _ _ h t h4 t hk4 iv
    rw [e1] at iv4
    have hR : R xv (f kk) := r (kk, xv) (List.mem_of_getElem? hx)
    refine wpAny_mono (turn (ks.take i) kk (ks.drop (i + 1)) h4 t (by rw [← e1, List.take_append_drop]) (Heap.lt_size (k4 _ _ hit3)) iv4 key xv hkey hR) (fun _ s₂ h₂ => wpAny_mono h₂ (fun _ s₃ h₃ => wpAny_mono h₃ (fun fl s₄ h₄ => ?_) fun _ _ e => e) fun _ _ e => e) fun _ _ e => e
    have hit4 : IsItemIter h4 h1.objs.size d (i + 1) kvs.length ep key xv := k4 _ _ hit3
    have hat4 : h4.DictAt knd d kvs ep := (hat.extBut (fun b o hb e => hk2 b o hb e) hne).extBut hs3.extBut hne |>.keep k4
    have fin' : ∀ h' t', s₄ = mk c h' t' → KO Wr h4 h' → Inv (ks.take i ++ [kk]) (ks.drop (i + 1)) h' t' → ∃ m, m < kvs.length - i ∧ ∃ i h t ok ov, s₄ = mk c h t ∧ m = kvs.length - i ∧ i ≤ kvs.length ∧ IsItemIter h h1.objs.size d i kvs.length ep ok ov ∧ h.DictAt knd d kvs ep ∧ Inv (ks.take i) (ks.drop i) h t :=
      fun h' t' e ko iv' => ⟨kvs.length - (i + 1), by omega, i + 1, h', t', key, xv, e, rfl, hi, ko _ _ hWI hit4, let ⟨o, es, ho, r⟩ := hat4; ⟨o, es, ko _ _ hd ho, r⟩, by rw [e2]; exact iv'⟩
    cases fl with
    | next => obtain ⟨h', t', e, ko, iv'⟩ := h₄; exact fin' h' t' e ko iv'
    | cont => obtain ⟨h', t', e, ko, iv'⟩ := h₄; exact fin' h' t' e ko iv'
    | brk => exact h₄
    | ret v => exact h₄
  · obtain rfl : i = kvs.length := Nat.le_antisymm hle hge
    refine wpAny_pyNext_items_end (s := mk c h t) hA hit hat (by simp) fun h' he => ?_
    have iv' := hst _ _ h t h' t (fun b o hb e => he b o hb e) iv
    rw [← hlen, List.take_length, List.drop_length] at iv'
    exact fin h' t iv'

/-- d.items() -/
theorem items_m {E : Value → Shared → Prop} {Q : Value → Shared → Prop} (x : RowK knd R h d ks f) (k : (h.push { cls := .type "dict_items", data := .fields #[.ref d] }).IsItemsView h.objs.size d → Q (.ref h.objs.size) (mk c (h.push { cls := .type "dict_items", data := .fields #[.ref d] }) t)) :
    wpAny (model prog w) A (call (.builtin "dict.items") [.ref d]) Q E (mk c h t) := by
  obtain ⟨hs, kvs, q, hk, r⟩ := x
  refine call_meetsIn (s := mk c h t) PySem.F.slot_dict_items (Heap.DictOf.typeIs (s := mk c h t) q) PySem.F.entry_dict_items (PySem.F.args_dict_items_1 _) (meets_dict_items knd d hs) ⟨⟨kvs, q⟩, k ⟨_, Heap.get?_push_size _ rfl, rfl, rfl⟩⟩
end
end Mine
end
section
open PySem PySem.W PyProof.Rows PySem.Calls
set_option maxRecDepth 100000
namespace Mine
section
variable {prog : Program} {w : World} {A : Around} {env : Env} {c : Cst} {h : Heap} {t : Nat} {s : Shared}

/-- the turns of a comprehension; D: what is built, C: the comprehension's own frame -/
structure CTurns (prog : Program) (w : World) (A : Around) (c : Cst) (cenv : Env) (hB : Heap) (x : Str) (D I : Addr) (n : Nat) (P : Nat → Value → Prop) (Pi : Nat → Heap → Prop) (elt : Shared → (Shared → Prop) → Prop) (h2 : Heap) : Prop where
  start : ∀ h', Keep h2 h' → Pi 0 h'
  dep : ∀ i, Dep (fun b => b ≠ I ∧ b ≠ cenv.locals) (Pi i)
  turn : ∀ i v h t, i < n → P i v → Fn cenv hB (Pi i) h [(x, some v)] → elt (mk c h t) (fun s' => ∃ h' t', s' = mk c h' t' ∧ KO (fun b => b = D ∨ b = cenv.locals) h h' ∧ Fn cenv hB (Pi (i + 1)) h' [(x, some v)])

/-- what stands when a comprehension starts -/
def Comp (prog : Program) (w : World) (A : Around) (env : Env) (c : Cst) (scope : Scope) (cl : List (Str × Addr)) (x : Str) (acc : Obj) (elt : Env → Addr → Shared → (Shared → Prop) → Prop) (use : Option (Value → Sem Unit)) (Q : Value → Shared → Prop) (it : Value) (s₂ : Shared) : Prop :=
  ∃ I fp n P St h2 t2, ∃ (Pi : Nat → Heap → Prop) (hB : Heap), it = .ref I ∧ s₂ = mk c h2 t2 ∧ Walks prog w A I fp [I] n P St ∧ St 0 h2 ∧ (∀ b ∈ fp, b < h2.objs.size) ∧ (Keep hB h2 ∧ hB.objs.size ≤ I ∧ I < h2.objs.size) ∧
    CTurns prog w A c (compEnvC scope cl (h2.objs.size + 1) env) hB x h2.objs.size I n P Pi (elt (compEnvC scope cl (h2.objs.size + 1) env) h2.objs.size) (h2.push acc) ∧
    (∀ h t, Keep hB h → h2.objs.size + 1 < h.objs.size → Pi n h → match use with
      | none => Q (.ref h2.objs.size) (mk c h t)
      | some u => wpAny (model prog w) A (u (.ref h2.objs.size)) (fun _ s'' => ∃ h'' t'', s'' = mk c h'' t'' ∧ (∀ o, h.get? (h2.objs.size + 1) = some o → h''.get? (h2.objs.size + 1) = some o) ∧
          ∀ h', (∀ b o, b ≠ h2.objs.size + 1 → h''.get? b = some o → h'.get? b = some o) → Q .none (mk c h' t'')) NE (mk c h t))

theorem comp_core {e : Expr} {scope : Scope} {cl : List (Str × Addr)} {pos : Pos} {x : Str} {newAcc first : Sem Value} {g : Comprehension} {gs : List Comprehension} {use : Option (Value → Sem Unit)} {Q : Value → Shared → Prop} {acc : Obj}
    (elt : Env → Addr → Shared → (Shared → Prop) → Prop)
    (hcl : clausesOf e = g :: gs) (hs : ∀ x, foldedSetIterable g.iter env x = pure x) (hclos : closureFor scope env = pure cl) (hkind : scope.kind = .function)
    (hcell : (scope.names.all fun y => !(y.2 == .cell)) = true) (hnames : (scope.names.all fun y => !(y.2 == .local) || scope.names.lookup y.1 == some .local) = true)
    (hx : (compEnvC scope cl 0 env).kindOf x = some .local) (hxd : (x == ("__debug__" : Str)) = false)
    (hacc : ∀ s (Q : Value → Shared → Prop), Q (.ref s.heap.objs.size) { s with heap := s.heap.push acc } → wpAny (model prog w) A newAcc Q NE s)
    (loop : ∀ (cenv : Env) (D I : Addr) (R : Result → Shared → Prop) (J : Nat → Shared → Prop), 
      (∀ n s, J n s → wpAny (model prog w) A (pyNext (.ref I)) (fun r s₁ => match r with
        | none => R (.ok .next) s₁
        | some v => wpAny (model prog w) A (storeName cenv x v) (fun _ s₂ => elt cenv D s₂ (fun s' => ∃ m, m < n ∧ J m s')) NE s₁) NE s) → ∀ n s, J n s → codeAny (model prog w) A (.compLoop e 0 (.ref I) (.ref D) cenv) R s)
    (start : ∀ (it acc : Value) (cenv : Env) (R : Result → Shared → Prop) (s : Shared), codeAny (model prog w) A (.compLoop e 0 it acc cenv) R s →
      wpAny (model prog w) A (pyIter it) (fun it' s' => codeAny (model prog w) A (.compLoop e 0 it' acc cenv) R s') (notedBy (model prog w) A cenv fun x s' => R (.error x) s') s → codeAny (model prog w) A (.compStart e 0 it acc cenv) R s)
    (mono : ∀ cenv D s (P P' : Shared → Prop), (∀ s', P s' → P' s') → elt cenv D s P → elt cenv D s P')
    (h : wpAny (model prog w) A first (fun xv s₁ => wpAny (model prog w) A (pyIter xv) (Comp prog w A env c scope cl x acc elt use Q) NE s₁) NE s) :
    wpAny (model prog w) A (comprehension e scope env pos newAcc false first use) Q NE s := by
  refine wpAny_comprehension_free hcl hs hclos hkind (fun y hy hl => ?_) (wpAny_mono h (fun xv s₁ h₁ => wpAny_mono h₁ (fun it s₂ h₂ => ?_) fun _ _ e => e) fun _ _ e => e)
  · have := List.all_eq_true.mp hnames y hy
    rw [hl] at this; simpa using this
  obtain ⟨I, fp, n, P, St, h2, t2, Pi, hB, rfl, rfl, W, st0, hfp, ⟨kB, hI1, hI2⟩, T, fin⟩ := h₂
  refine hacc _ _ ?_
  refine wpAny_newFunctionEnv (s := mk c (h2.push acc) t2) (fun y hy e => ?_) (by intro y hy; simp at hy) (fun h4 hns hsb => ?_) hkind
  · have := List.all_eq_true.mp hcell y hy; rw [e] at this; cases this
  have hC : (h2.push acc).objs.size = h2.objs.size + 1 := Heap.size_push ..
  have hns : h4.Ns (h2.objs.size + 1) (fun x => ([] : List (Str × Value)).reverse.lookup x) := by rw [← hC]; exact hns
  have hsb : Heap.SameBut (h2.objs.size + 1) ((h2.push acc).push { cls := .type "dict", data := .dict #[] }) h4 := by
    have := hsb; simp only [Option.isSome_some, if_true] at this; rw [← hC]; exact this
  have hCn : ∀ b o, (h2.push acc).get? b = some o → h4.get? b = some o := fun b o q => hsb.extBut b o (Nat.ne_of_lt (by rw [← hC]; exact Heap.lt_size q)) (Heap.get?_push_of_some _ q)
  have hlt : hB.objs.size ≤ h2.objs.size + 1 := Nat.le_trans hI1 (Nat.le_of_lt (Nat.lt_succ_of_lt hI2))
  have hIC : I ≠ h2.objs.size + 1 := Nat.ne_of_lt (Nat.lt_succ_of_lt hI2)
  have stb : ∀ i, Stb (h2.objs.size + 1) (Pi i) := fun i h h' k => T.dep i h h' fun b o z => k b o z.2
  have fpC : ∀ b ∈ fp, b ≠ h2.objs.size ∧ b ≠ h2.objs.size + 1 := fun b hb => ⟨Nat.ne_of_lt (hfp b hb), Nat.ne_of_lt (Nat.lt_succ_of_lt (hfp b hb))⟩
  have F0 : Fn (compEnvC scope cl (h2.objs.size + 1) env) hB (Pi 0) h4 [(x, none)] :=
    ⟨⟨hkind, fun p hp => by rw [List.mem_singleton.mp hp]; exact ⟨hx, hxd⟩, by simp, _, hns, fun p hp => by rw [List.mem_singleton.mp hp]; rfl⟩,
      fun b o q => hCn b o (Heap.get?_push_of_some _ (kB b o q)), hlt, T.start h4 hCn, stb 0⟩
  have stI : ∀ i h h', St i h → (∀ b o, b ≠ h2.objs.size + 1 → h.get? b = some o → h'.get? b = some o) → St i h' := fun i h h' st k => W.frame i h h' st fun b hb o q => k b o (fpC b hb).2 q
  have st4 : St 0 h4 := W.frame 0 h2 h4 st0 fun b hb o q => hCn b o (Heap.get?_push_of_some _ q)
  have LP : ∀ s, s = mk c h4 t2 → codeAny (model prog w) A (.compLoop e 0 (.ref I) (.ref h2.objs.size) (compEnvC scope cl (h2.objs.size + 1) env)) (compPost (model prog w) A NE use Q (.ref h2.objs.size) (h2.objs.size + 1)) s := by
    rintro s rfl
    refine loop _ _ _ _ (fun k s => ∃ i h t ov, s = mk c h t ∧ k = n - i ∧ i ≤ n ∧ St i h ∧ Fn (compEnvC scope cl (h2.objs.size + 1) env) hB (Pi i) h [(x, ov)]) ?_ n _ ⟨0, h4, t2, none, rfl, rfl, Nat.zero_le _, st4, F0⟩
    rintro k s ⟨i, h, t, ov, rfl, rfl, hle, st, F⟩
    rcases Nat.lt_or_ge i n with hin | hge
    · refine walks_item (c := c) (h := h) (t := t) W hin st fun v h' tk hp st' hk => ?_
      have F1 : Fn (compEnvC scope cl (h2.objs.size + 1) env) hB (Pi i) h' [(x, ov)] := F.off (T.dep i) (fun z => z.1 rfl) hI1 hIC fun b o hb q => hk b o (by simpa using hb) q
      refine Mine.st0 F1 fun h'' t'' F2 sb => ?_
      refine mono _ _ _ _ _ (fun s' x => ?_) (T.turn i v h'' t'' hin hp F2)
      obtain ⟨h3, t3, rfl, ko, F3⟩ := x
      exact ⟨n - (i + 1), by omega, i + 1, h3, t3, some v, rfl, rfl, hin, W.frame _ _ _ st' fun b hb o q => ko b o (fun z => by rcases z with z | z; exact (fpC b hb).1 z; exact (fpC b hb).2 z) (sb.extBut b o (fpC b hb).2 q), F3⟩
    · obtain rfl : i = n := Nat.le_antisymm hle hge
      refine walks_done (c := c) (h := h) (t := t) W st fun h' tk hk => ?_
      have F1 : Fn (compEnvC scope cl (h2.objs.size + 1) env) hB (Pi i) h' [(x, ov)] := F.off (T.dep i) (fun z => z.1 rfl) hI1 hIC fun b o hb q => hk b o (by simpa using hb) q
      obtain ⟨m, hns', _⟩ := F1.loc.ns
      have hsz := F1.loc.lt
      have kb : ∀ g : Heap, (∀ b o, b ≠ h2.objs.size + 1 → h'.get? b = some o → g.get? b = some o) → Keep hB g := fun g kg b o q => kg b o (Nat.ne_of_lt (Nat.lt_of_lt_of_le (Heap.lt_size q) hlt)) (F1.keep b o q)
      cases use with
      | none =>
        refine ⟨m, hns', fun g hg => ?_⟩
        exact fin g tk (kb g hg.extBut) (by rw [hg.1]; exact hsz) (stb i h' g hg.extBut F1.inv)
      | some u =>
        refine wpAny_mono (fin h' tk F1.keep hsz F1.inv) (fun _ s'' x => ?_) fun _ _ q => q
        obtain ⟨h'', t'', rfl, k1, k2⟩ := x
        exact ⟨m, hns'.at' k1, fun g hg => k2 g hg.extBut⟩
  show codeAny (model prog w) A (.compStart e 0 (.ref I) (.ref h2.objs.size) (compEnvC scope cl (h2.push acc).objs.size env)) (compPost (model prog w) A NE use Q (.ref h2.objs.size) (h2.push acc).objs.size) (mk c h4 t2)
  rw [hC]
  exact start _ _ _ _ _ (LP _ rfl) (W.self 0 _ _ _ st4 (LP _ rfl))

/-- one turn's element: of a dict, of a list -/
def EltD (prog : Program) (w : World) (A : Around) (kx vx : Expr) (cenv : Env) (D : Addr) (s : Shared) (P : Shared → Prop) : Prop :=
  wpAny (model prog w) A (eval kx cenv) (fun kv s₄ => wpAny (model prog w) A (eval vx cenv) (fun vv s₅ => wpAny (model prog w) A (dictSet D kv vv) (fun _ s₆ => P s₆) NE s₅) NE s₄) NE s
def EltL (prog : Program) (w : World) (A : Around) (ex : Expr) (cenv : Env) (D : Addr) (s : Shared) (P : Shared → Prop) : Prop :=
  wpAny (model prog w) A (eval ex cenv) (fun v s₄ => wpAny (model prog w) A (call (.builtin "list.append") [.ref D, v]) (fun _ s₆ => P s₆) NE s₄) NE s

theorem dict_comp {kx vx iter : Expr} {x : Str} {px pos : Pos} {scope : Scope} {cl : List (Str × Addr)} {use : Option (Value → Sem Unit)} {Q : Value → Shared → Prop}
    (h : wpAny (model prog w) A (eval iter env) (fun xv s₁ => wpAny (model prog w) A (pyIter xv) (Comp prog w A env c scope cl x { cls := .type "dict", data := .dict #[] } (EltD prog w A kx vx) use Q) NE s₁) NE s)
    (hclos : closureFor scope env = pure cl := by rfl) (hkind : scope.kind = .function := by rfl)
    (hcell : (scope.names.all fun y => !(y.2 == .cell)) = true := by rfl) (hnames : (scope.names.all fun y => !(y.2 == .local) || scope.names.lookup y.1 == some .local) = true := by rfl)
    (hx : (compEnvC scope cl 0 env).kindOf x = some .local := by rfl) (hxd : (x == ("__debug__" : Str)) = false := by kernel_rfl) (hs : ∀ x, foldedSetIterable iter env x = pure x := by intro _; rfl) :
    wpAny (model prog w) A (comprehension (.DictComp kx vx [⟨.Name x px, iter, [], 0⟩] scope pos) scope env (firstIterPos [⟨.Name x px, iter, [], 0⟩] pos) newDict (firstAsync [⟨.Name x px, iter, [], 0⟩]) (firstIter [⟨.Name x px, iter, [], 0⟩] env) use) Q NE s := by
  refine comp_core (EltD prog w A kx vx) rfl hs hclos hkind hcell hnames hx hxd (fun s Q q => ?_) (fun cenv D I R J turn n s j => ?_) (fun it acc cenv R s h0 h1 => codeAny_compStart_dict h0 h1) (fun cenv D s P P' k q => ?_) h
  · simp only [newDict, newObj]
    exact wpAny_bind (wpAny_alloc (wpAny_pure q))
  · refine codeAny_compLoop_testsD J (fun n s jn => wpAny_noRaise (wpAny_mono (turn n s jn) (fun r s₁ h₁ => ?_) fun _ _ e => e)) n j
    cases r with
    | none => exact h₁
    | some v =>
      refine wpAny_noRaise (wpAny_assign_Name (wpAny_mono h₁ (fun _ s₂ h₂ => ?_) fun _ _ e => e))
      refine wpAny_pure ?_
      simp only [if_true]
      exact wpAny_noRaise (wpAny_mono h₂ (fun kv s₄ h₄ => wpAny_noRaise (wpAny_mono h₄ (fun vv s₅ h₅ => wpAny_noRaise h₅) fun _ _ e => e)) fun _ _ e => e)
  · exact wpAny_mono q (fun kv s₄ h₄ => wpAny_mono h₄ (fun vv s₅ h₅ => wpAny_mono h₅ (fun _ s₆ h₆ => k s₆ h₆) fun _ _ e => e) fun _ _ e => e) fun _ _ e => e

theorem list_comp {ex iter : Expr} {x : Str} {px pos : Pos} {scope : Scope} {cl : List (Str × Addr)} {use : Option (Value → Sem Unit)} {Q : Value → Shared → Prop}
    (h : wpAny (model prog w) A (eval iter env) (fun xv s₁ => wpAny (model prog w) A (pyIter xv) (Comp prog w A env c scope cl x { cls := .type "list", data := .seq #[] } (EltL prog w A ex) use Q) NE s₁) NE s)
    (hclos : closureFor scope env = pure cl := by rfl) (hkind : scope.kind = .function := by rfl)
    (hcell : (scope.names.all fun y => !(y.2 == .cell)) = true := by rfl) (hnames : (scope.names.all fun y => !(y.2 == .local) || scope.names.lookup y.1 == some .local) = true := by rfl)
    (hx : (compEnvC scope cl 0 env).kindOf x = some .local := by rfl) (hxd : (x == ("__debug__" : Str)) = false := by kernel_rfl) (hs : ∀ x, foldedSetIterable iter env x = pure x := by intro _; rfl) :
    wpAny (model prog w) A (comprehension (.ListComp ex [⟨.Name x px, iter, [], 0⟩] scope pos) scope env (firstIterPos [⟨.Name x px, iter, [], 0⟩] pos) (newList []) (firstAsync [⟨.Name x px, iter, [], 0⟩]) (firstIter [⟨.Name x px, iter, [], 0⟩] env) use) Q NE s := by
  refine comp_core (EltL prog w A ex) rfl hs hclos hkind hcell hnames hx hxd (fun s Q q => ?_) (fun cenv D I R J turn n s j => ?_) (fun it acc cenv R s h0 h1 => codeAny_compStart_list h0 h1) (fun cenv D s P P' k q => ?_) h
  · exact wpAny_newObj_type q (by size_fits)
  · refine codeAny_compLoop_tests J (fun n s jn => wpAny_noRaise (wpAny_mono (turn n s jn) (fun r s₁ h₁ => ?_) fun _ _ e => e)) n j
    cases r with
    | none => exact h₁
    | some v =>
      refine wpAny_noRaise (wpAny_assign_Name (wpAny_mono h₁ (fun _ s₂ h₂ => ?_) fun _ _ e => e))
      refine wpAny_pure ?_
      simp only [if_true]
      exact wpAny_noRaise (wpAny_mono h₂ (fun kv s₄ h₄ => wpAny_noRaise h₄) fun _ _ e => e)
  · exact wpAny_mono q (fun kv s₄ h₄ => wpAny_mono h₄ (fun _ s₆ h₆ => k s₆ h₆) fun _ _ e => e) fun _ _ e => e
end
end Mine
end
section
open PySem PySem.W PyProof.Rows PySem.Calls
set_option maxRecDepth 100000
namespace Mine
local macro_rules | `(tactic| walk_at "mem") => `(tactic| with_reducible (first | exact List.mem_cons_self | (refine List.mem_cons_of_mem _ ?_; walk_at "mem")))

theorem Dep.guard {X : Addr → Prop} {p : Prop} {P : Heap → Prop} (d : p → Dep X P) : Dep X fun h => p ∧ P h := fun h h' k x => ⟨x.1, d x.1 h h' k x.2⟩

section
variable {prog : Program} {w : World} {A : Around} {env : Env} {c : Cst} {h : Heap} {t : Nat} {s : Shared}
theorem asg_dcomp {kx vx : Expr} {g : List Comprehension} {scope : Scope} {cpos pos py : Pos} {y : Str} {Q : Flow → Shared → Prop}
    (h : wpAny (model prog w) A (comprehension (.DictComp kx vx g scope cpos) scope env (firstIterPos g cpos) newDict (firstAsync g) (firstIter g env) (some (assign (.Name y py) env))) (fun _ s => Q .next s) NE s)
    (hs : swapsWith (.DictComp kx vx g scope cpos) (some (.Name y py)) pos.line env = pure true := by rfl) :
    wpAny (model prog w) A (exec (.Assign [.Name y py] (.DictComp kx vx g scope cpos) pos) env) Q NE s := by
  rw [exec_Assign_Name_used _ _ _ _ hs]
  refine wpAny_bind (wpAny_standAt (wpAny_bind ?_))
  rw [arm_evalThenUse_DictComp]
  exact wpAny_bind (wpAny_mono h (fun _ s' h' => wpAny_pure (wpAny_pure h')) fun _ _ e => e)
theorem asg_lcomp {ex : Expr} {g : List Comprehension} {scope : Scope} {cpos pos py : Pos} {y : Str} {Q : Flow → Shared → Prop}
    (h : wpAny (model prog w) A (comprehension (.ListComp ex g scope cpos) scope env (firstIterPos g cpos) (newList []) (firstAsync g) (firstIter g env) (some (assign (.Name y py) env))) (fun _ s => Q .next s) NE s)
    (hs : swapsWith (.ListComp ex g scope cpos) (some (.Name y py)) pos.line env = pure true := by rfl) :
    wpAny (model prog w) A (exec (.Assign [.Name y py] (.ListComp ex g scope cpos) pos) env) Q NE s := by
  rw [exec_Assign_Name_used _ _ _ _ hs]
  refine wpAny_bind (wpAny_standAt (wpAny_bind ?_))
  rw [arm_evalThenUse_ListComp]
  exact wpAny_bind (wpAny_mono h (fun _ s' h' => wpAny_pure (wpAny_pure h')) fun _ _ e => e)

/-- the walk over a graph, for a comprehension -/
theorem GIter.walk {h0 : Heap} {g nd : Addr} {N : List Int} {Q : Value → Shared → Prop} (G : GIter prog w c h0 g nd N) (hA : A.handled = none) (hroom : A.depth + 1 < recursionLimit) (k : Keep h0 h)
    (hQ : ∀ h' t' I fp P St, Keep h h' → h.objs.size ≤ I → I < h'.objs.size → Walks prog w A I fp [I] N.length P St → St 0 h' → (∀ b ∈ fp, b < h'.objs.size) → (∀ i v, P i v → ∃ n tk, N[i]? = some n ∧ v = .int n tk) → Q (.ref I) (mk c h' t')) :
    wpAny (model prog w) A (pyIter (.ref g)) Q NE (mk c h t) := by
  refine G A h t _ hA hroom k fun h' t' I ep kvs hk hI1 hI2 hnd hit hat hks => ?_
  have hne : nd ≠ I := Nat.ne_of_lt (Nat.lt_of_lt_of_le hnd hI1)
  have hlen : N.length = kvs.length := by rw [← hks, List.length_map]
  rw [hlen] at hQ
  refine hQ h' t' I [I, nd] _ _ hk hI1 hI2 (Walks.dictKeys (knd := intKind prog w) hA I nd hne kvs ep) ⟨hit, hat⟩ (fun b hb => ?_) (fun i v hv => ?_)
  · rcases List.mem_cons.mp hb with rfl | hb
    · exact hI2
    · rw [List.mem_singleton.mp hb]; exact hat.lt_size
  · obtain ⟨k, x, hx, hkey⟩ := hv
    cases v <;> simp [intKind, Value.isInt] at hkey
    subst hkey
    refine ⟨_, _, ?_, rfl⟩
    rw [← hks, List.getElem?_map, hx]; rfl

theorem dset {K : Type} [DecidableEq K] {knd : KeyKind prog w K} {α : Type} {R : Value → α → Prop} {d : Addr} {ks : List K} {f : K → α} {i : K} {key v : Value} {y : α} {E : Value → Shared → Prop} {Q : Unit → Shared → Prop} (hkey : knd.is i key = true) (x : RowK knd R h d ks f) (hv : R v y) (hsz : ks.length ≤ 1000000)
    (k : ∀ h' t', RowK knd R h' d (addk ks i) (upd f i y) → Heap.SameBut d h h' → Q () (mk c h' t')) :
    wpAny (model prog w) A (dictSet d key v) Q E (mk c h t) := by
  obtain ⟨kvs, q, hk, r⟩ := x.2
  exact wpAny_dictSet_pairs (s := mk c h t) hkey q (fun h' hd hs => k h' _ (x.put hk r hv hd) hs) (sz_of (by rw [← hk, List.length_map] at hsz; exact hsz))
end

abbrev trEnv (cd : Value) (L f : Addr) : Env := envC (S 10) "floyd_warshall_tree" cd L f
abbrev trW : Stmt := SM 10 2
abbrev trs (i : Nat) : Stmt := at' (dFor trW) i

/-- rows of lists -/
def OutW (prog : Program) (wd : World) (N : List Int) (ow : Addr) (lo : Int → Addr) (o : Int → List Int) (h : Heap) : Prop := Row prog wd RR h ow N lo ∧ ∀ i ∈ N, IsInts h (lo i) (o i)
structure FreshW (N : List Int) (n0 : Nat) (ow : Addr) (lo : Int → Addr) : Prop where
  o1 : n0 ≤ ow
  l1 : ∀ i ∈ N, n0 ≤ lo i ∧ lo i ≠ ow
  inj : ∀ i ∈ N, ∀ j ∈ N, lo i = lo j → i = j
theorem take_addk {N : List Int} (nd : N.Nodup) {i : Nat} {n : Int} (e : N[i]? = some n) : addk (N.take i) n = N.take (i + 1) ∧ n ∉ N.take i := by
  have hi : i < N.length := by
    rcases Nat.lt_or_ge i N.length with h | h
    · exact h
    · rw [List.getElem?_eq_none h] at e; cases e
  have hn : n ∉ N.take i := by
    intro hm
    have e2 : N.drop i = n :: N.drop (i + 1) := by rw [List.drop_eq_getElem_cons hi]; rw [List.getElem?_eq_getElem hi] at e; rw [Option.some.inj e]
    have : (N.take i ++ N.drop i).Nodup := by rw [List.take_append_drop]; exact nd
    exact (List.nodup_append.mp this).2.2 n hm n (by rw [e2]; exact .head _) rfl
  refine ⟨?_, hn⟩
  rw [addk, if_neg hn, List.take_succ, e]; rfl

section
variable {prog : Program} {wd : World} {A : Around} {c : Cst} {hB h : Heap} {t : Nat} {L f g nd : Addr} {cd wv : Value} {N : List Int} {P : Heap → Prop} {l₁ l₂ : List (Str × Option Value)}

theorem tr_out {o : Option Value} {n0 : Nat} {Q : Flow → Shared → Prop} (hA : A.handled = none) (hroom : A.depth + 1 < recursionLimit) (GG : GIter prog wd c hB g nd N) (ndp : N.Nodup) (hlen : N.length ≤ 1000) (hsm : sysModules < hB.objs.size)
    (hn0 : n0 ≤ h.objs.size) (dep : Dep (fun b => b < h.objs.size ∧ b ≠ L) P)
    (F : Fn (trEnv cd L f) hB P h (l₁ ++ (("out_w" : Str), o) :: l₂)) (hG : (("G", some (.ref g)) : Str × Option Value) ∈ l₁ ++ (("out_w" : Str), o) :: l₂)
    (hQ : ∀ h' t' ow lo, FreshW N n0 ow lo → (∀ b o, b ≠ L → h.get? b = some o → h'.get? b = some o) → OutW prog wd N ow lo (fun _ => []) h' → Fn (trEnv cd L f) hB P h' (l₁ ++ (("out_w" : Str), some (.ref ow)) :: l₂) → Q .next (mk c h' t')) :
    wpAny (model prog wd) A (exec (trs 0) (trEnv cd L f)) Q NE (mk c h t) := by
  refine asg_dcomp (dict_comp (c := c) (nm F hG (GG.walk hA hroom F.keep fun h2 t2 I fp P' St hk hI1 hI2 W st0 hfp hP => ?_)))
  have hhs : h.objs.size ≤ h2.objs.size := Nat.le_of_lt (Nat.lt_of_le_of_lt hI1 hI2)
  have hsm2 : sysModules < h2.objs.size := Nat.lt_of_lt_of_le hsm (Nat.le_trans (Nat.le_of_lt (Nat.lt_of_le_of_lt F.above F.loc.lt)) hhs)
  refine ⟨I, fp, N.length, P', St, h2, t2, fun i h' => ∃ lo : Int → Addr, (∀ j ∈ N.take i, h2.objs.size + 1 < lo j) ∧ (∀ a ∈ N.take i, ∀ b ∈ N.take i, lo a = lo b → a = b) ∧ Row prog wd RR h' h2.objs.size (N.take i) lo ∧ ∀ j ∈ N.take i, IsInts h' (lo j) [], h, rfl, rfl, W, st0, hfp, ⟨hk, hI1, hI2⟩, ⟨?_, ?_, ?_⟩, ?_⟩
  · intro h' k
    exact ⟨fun _ => 0, by simp, by simp, (RowK.new hsm2).keep k, by simp⟩
  · intro i
    refine Dep.ex fun lo => Dep.guard fun h1 => Dep.guard fun _ => Dep.and (RowK.dep ⟨Nat.ne_of_gt hI2, Nat.ne_of_lt (Nat.lt_succ_self _)⟩) (Dep.all fun j => Dep.imp fun hj => IsInts.dep ⟨?_, Nat.ne_of_gt (h1 j hj)⟩)
    exact Nat.ne_of_gt (Nat.lt_trans hI2 (Nat.lt_trans (Nat.lt_succ_self _) (h1 j hj)))
  · intro i v h3 t3 hi hv F3
    obtain ⟨n, tk, hn, rfl⟩ := hP i v hv
    obtain ⟨ek, hnn⟩ := take_addk ndp hn
    obtain ⟨lo, l1, l2, r, l3⟩ := F3.inv
    have hC := F3.loc.lt
    refine nm F3 (by walk_at "mem") (List_ (wpAny_items_nil (newList_m ?_ (sz_of (by simp)))))
    refine dset (intKind_is prog wd n tk) (r.keep (Keep.push _ _)) (show RR _ h3.objs.size from rfl) (by simp; omega) fun h4 t4 r4 sb => ?_
    have hDlt : h2.objs.size < h3.objs.size := r.lt
    refine ⟨h4, t4, rfl, ?_, ?_⟩
    · intro b o hb q
      exact sb.extBut b o (fun z => hb (.inl z)) (Heap.get?_push_of_some _ q)
    · refine (F3.push _).upd (a := h2.objs.size) hhs (Nat.ne_of_lt (Nat.lt_succ_self _)) sb.extBut ⟨upd lo n h3.objs.size, ?_, ?_, by rw [← ek]; exact r4, ?_⟩ ?_
      · intro j hj
        rw [← ek] at hj
        unfold upd; split
        · exact hC
        · rename_i hne
          rcases addk_mem.mp hj with q | q
          · exact l1 j q
          · exact absurd q hne
      · intro a ha b hb e
        rw [← ek] at ha hb
        have hlt : ∀ j, j ∈ N.take i → lo j < h3.objs.size := fun j hj => (l3 j hj).lt
        unfold upd at e
        rcases addk_mem.mp ha with qa | qa <;> rcases addk_mem.mp hb with qb | qb
        · rw [if_neg (fun z : a = n => hnn (z ▸ qa)), if_neg (fun z : b = n => hnn (z ▸ qb))] at e; exact l2 a qa b qb e
        · rw [if_neg (fun z : a = n => hnn (z ▸ qa)), if_pos qb] at e; exact absurd e (Nat.ne_of_lt (hlt a qa))
        · rw [if_pos qa, if_neg (fun z : b = n => hnn (z ▸ qb))] at e; exact absurd e.symm (Nat.ne_of_lt (hlt b qb))
        · rw [qa, qb]
      · intro j hj
        rw [← ek] at hj
        unfold upd; split
        · exact (IsInts.new h3 .nil).at fun o q => sb.extBut _ o (Nat.ne_of_gt hDlt) q
        · rename_i hne
          rcases addk_mem.mp hj with q | q
          · exact (l3 j q).at fun o z => sb.extBut _ o (Nat.ne_of_gt (Nat.lt_trans (Nat.lt_succ_self _) (l1 j q))) (Heap.get?_push_of_some _ z)
          · exact absurd q hne
      · refine Dep.stb (X := fun b => b ≠ h2.objs.size + 1) ?_ (fun z => z rfl)
        refine Dep.ex fun lo => Dep.guard fun h1 => Dep.guard fun _ => Dep.and (RowK.dep (Nat.ne_of_lt (Nat.lt_succ_self _))) (Dep.all fun j => Dep.imp fun hj => IsInts.dep (Nat.ne_of_gt (h1 j hj)))
  · intro h3 t3 k3 hsz hx
    rw [List.take_length] at hx
    obtain ⟨lo, l1, l2, r, l3⟩ := hx
    refine wpAny_assign_Name (st_at (F.ext k3) fun h4 t4 F4 sb => ⟨h4, t4, rfl, fun o q => sb.extBut _ o (Nat.ne_of_gt (Nat.lt_trans F.loc.lt (Nat.lt_of_le_of_lt hhs (Nat.lt_succ_self _)))) q, fun h5 k5 => ?_⟩)
    have hLC : L < h.objs.size := F.loc.lt
    have e5 : ∀ b o, b ≠ L → b ≠ h2.objs.size + 1 → h3.get? b = some o → h5.get? b = some o := fun b o h1 h2' q => k5 b o h2' (sb.extBut b o h1 q)
    have hbig : ∀ b, h2.objs.size ≤ b → b ≠ L := fun b hb => Nat.ne_of_gt (Nat.lt_of_lt_of_le hLC (Nat.le_trans hhs hb))
    refine hQ h5 t4 h2.objs.size lo ⟨Nat.le_trans hn0 hhs, fun i hi => ⟨Nat.le_trans hn0 (Nat.le_trans hhs (Nat.le_of_lt (Nat.lt_trans (Nat.lt_succ_self _) (l1 i hi)))), Nat.ne_of_gt (Nat.lt_trans (Nat.lt_succ_self _) (l1 i hi))⟩, l2⟩
      (fun b o hb q => e5 b o hb (Nat.ne_of_lt (Nat.lt_of_lt_of_le (Heap.lt_size q) (Nat.le_trans hhs (Nat.le_succ _)))) (k3 b o q)) ⟨r.at fun o q => e5 _ o (hbig _ (Nat.le_refl _)) (Nat.ne_of_lt (Nat.lt_succ_self _)) q, fun j hj => (l3 j hj).at fun o q => e5 _ o (hbig _ (Nat.le_of_lt (Nat.lt_trans (Nat.lt_succ_self _) (l1 j hj)))) (Nat.ne_of_gt (l1 j hj)) q⟩ ?_
    refine F4.off (I := h2.objs.size + 1) dep (fun z => Nat.lt_irrefl _ (Nat.lt_of_lt_of_le z.1 (Nat.le_trans hhs (Nat.le_succ _)))) ?_ ?_ k5
    · exact Nat.le_trans F.above (Nat.le_trans (Nat.le_of_lt hLC) (Nat.le_trans hhs (Nat.le_succ _)))
    · exact hbig _ (Nat.le_succ _)
end
end Mine
end
section
open PySem PySem.W PyProof.Rows PySem.Calls
set_option maxRecDepth 100000
namespace Mine
local macro_rules | `(tactic| walk_at "mem") => `(tactic| with_reducible (first | exact List.mem_cons_self | (refine List.mem_cons_of_mem _ ?_; walk_at "mem")))

def kid (w : Int) (P : Int → Int) (o : Int → List Int) (v : Int) : Int → List Int := if v = w then o else upd o (P v) (o (P v) ++ [v])
def kids (w : Int) (P : Int → Int) (vs : List Int) : Int → List Int := vs.foldl (kid w P) (fun _ => [])
theorem kids_len (w : Int) (P : Int → Int) (x : Int) : ∀ (vs : List Int) (o : Int → List Int), (vs.foldl (kid w P) o x).length ≤ (o x).length + vs.length
  | [], o => Nat.le_refl _
  | v :: r, o => by
    have := kids_len w P x r (kid w P o v)
    have h2 : (kid w P o v x).length ≤ (o x).length + 1 := by
      unfold kid; split
      · omega
      · by_cases e : x = P v
        · subst e; simp [upd]
        · simp [upd, e]
    simp only [List.foldl_cons, List.length_cons]; omega

abbrev trl (g pd : Addr) (wv iv : Value) (w : Int) (tw : Tok) (pw : Addr) (po oo vo so dfo sko no nno dwo uo duo duwo dvo : Option Value) : List (Str × Option Value) :=
  [("G", some (.ref g)), ("weight", some wv), ("inf", some iv), ("pred", some (.ref pd)), ("w", some (.int w tw)), ("pred_w", some (.ref pw)), ("parent", po), ("out_w", oo), ("v", vo), ("stack", so), ("dfs_dict", dfo), ("skip_dict", sko), ("node", no), ("next_node", nno), ("dist_w", dwo), ("u", uo), ("dist_u", duo), ("dist_uw", duwo), ("dist_uwv", dvo)]

theorem OutW.dep {prog wd N ow lo o} : Dep (fun b => b = ow ∨ ∃ i ∈ N, b = lo i) (OutW prog wd N ow lo o) :=
  Dep.and (RowK.dep (.inl rfl)) (Dep.all fun i => Dep.imp fun hi => IsInts.dep (.inr ⟨i, hi, rfl⟩))
theorem OutW.lt {prog wd N ow lo o h} (x : OutW prog wd N ow lo o h) : ∀ b, (b = ow ∨ ∃ i ∈ N, b = lo i) → b < h.objs.size := fun b q => by
  rcases q with rfl | ⟨i, hi, rfl⟩
  · exact x.1.lt
  · exact (x.2 i hi).lt

section
variable {prog : Program} {wd : World} {A : Around} {c : Cst} {hB h : Heap} {t : Nat} {L f g nd : Addr} {cd wv iv : Value} {y : Lay}

theorem tr_kids {s : Tbl} {w : Int} {tw : Tok} {n0 : Nat} {ow : Addr} {lo : Int → Addr} {po vo so dfo sko no nno dwo uo duo duwo dvo : Option Value} {Q : Flow → Shared → Prop} (hA : A.handled = none)
    (hw : w ∈ y.prk) (ap : Apart hB L y) (fr : FreshW y.N n0 ow lo) (hL : L < n0) (hB0 : hB.objs.size ≤ n0) (hM : ∀ b, (b = L + 1 ∨ b = y.dd ∨ b = y.pd ∨ y.row b) → b < n0)
    (par : ∀ v ∈ s.K w, v ≠ w → s.P w v ∈ y.N) (hlen : (s.K w).length ≤ 1000)
    (F : Fn (trEnv cd L f) hB (fun h => MC prog wd L y s h ∧ OutW prog wd y.N ow lo (fun _ => []) h) h (trl g y.pd wv iv w tw (y.pr w) po (some (.ref ow)) vo so dfo sko no nno dwo uo duo duwo dvo))
    (hQ : ∀ h' t' po vo, KO (fun b => b = L ∨ ∃ i ∈ y.N, b = lo i) h h' → Fn (trEnv cd L f) hB (fun h => MC prog wd L y s h ∧ OutW prog wd y.N ow lo (kids w (s.P w) (s.K w)) h) h' (trl g y.pd wv iv w tw (y.pr w) po (some (.ref ow)) vo so dfo sko no nno dwo uo duo duwo dvo) → Q .next (mk c h' t')) :
    wpAny (model prog wd) A (exec (trs 1) (trEnv cd L f)) Q NE (mk c h t) := by
  have hlo : ∀ i ∈ y.N, hB.objs.size ≤ lo i ∧ lo i ≠ L ∧ lo i ≠ ow := fun i hi => ⟨Nat.le_trans hB0 (fr.l1 i hi).1, Nat.ne_of_gt (Nat.lt_of_lt_of_le hL (fr.l1 i hi).1), (fr.l1 i hi).2⟩
  have hMlo : ∀ i ∈ y.N, ∀ b, (b = L + 1 ∨ b = y.dd ∨ b = y.pd ∨ y.row b) → b ≠ lo i := fun i hi b hb => Nat.ne_of_lt (Nat.lt_of_lt_of_le (hM b hb) (fr.l1 i hi).1)
  have stb : ∀ o, Stb L (fun h => MC prog wd L y s h ∧ OutW prog wd y.N ow lo o h) := fun o => Stb.and (MC.stb ap) (OutW.dep.stb fun z => by
    rcases z with z | ⟨i, hi, z⟩
    · exact absurd z (Nat.ne_of_lt (Nat.lt_of_lt_of_le hL fr.o1))
    · exact (hlo i hi).2.1 z.symm)
  refine for_items (c := c) (R := RI) (knd := intKind prog wd) hA (fun b => b = L ∨ ∃ i ∈ y.N, b = lo i) (MethodCall_ (nm F (by walk_at "mem") (getmk PySem.F.slot_dict_items PySem.F.type_dict_items (F.inv.1.1.prow w hw) (callWith_builtin rfl (PySem.evalArgs_none ((items_m (F.inv.1.1.prow w hw) fun hv => ?_)))))))
  have F0 := F.push { cls := .type "dict_items", data := .fields #[.ref (y.pr w)] }
  refine ⟨_, _, _, y.pr w, s.K w, s.P w, fun p r h' t' => KO (fun b => b = L ∨ ∃ i ∈ y.N, b = lo i) h h' ∧ ∃ po vo, Fn (trEnv cd L f) hB (fun h => MC prog wd L y s h ∧ OutW prog wd y.N ow lo (kids w (s.P w) p) h) h' (trl g y.pd wv iv w tw (y.pr w) po (some (.ref ow)) vo so dfo sko no nno dwo uo duo duwo dvo),
    rfl, rfl, hv, F0.inv.1.1.prow w hw, ?_, ?_, ⟨(Keep.push _ _).ko, po, vo, F0⟩, ?_, ?_, ?_⟩
  · rintro (q | ⟨i, hi, q⟩)
    · exact (ap.row _ (.inr ⟨w, hw, rfl⟩)).2.1 q
    · exact hMlo i hi _ (.inr (.inr (.inr (.inr ⟨w, hw, rfl⟩)))) q
  · rintro (hb | ⟨i, hi, hb⟩)
    · exact Nat.lt_irrefl _ (hb ▸ F0.loc.lt)
    · exact Nat.lt_irrefl _ (hb ▸ (F0.inv.2.2 i hi).lt)
  · rintro p r h1 t1 h' t' e ⟨ko, po, vo, F1⟩
    refine ⟨ko.ext e (by rw [Heap.size_push]; exact Nat.le_succ _), po, vo, F1.off (Dep.and (MC.dep.mono fun b x => Or.inl x) (OutW.dep.mono fun b x => Or.inr x)) ?_ ?_ ?_ e⟩
    · rintro (x | x)
      · exact Nat.lt_irrefl _ (F0.inv.1.lt _ x)
      · exact Nat.lt_irrefl _ (F0.inv.2.lt _ x)
    · exact Nat.le_trans F0.above (Nat.le_of_lt F0.loc.lt)
    · exact Nat.ne_of_gt F0.loc.lt
  · rintro p i r h1 t1 hN _ ⟨ko, po, vo, F1⟩ key v hkey hv
    have hi : i ∈ s.K w := by rw [hN]; simp
    obtain ⟨ti, rfl⟩ : ∃ tk, key = .int i tk := by
      cases key <;> simp [intKind, Value.isInt] at hkey
      subst hkey; exact ⟨_, rfl⟩
    obtain ⟨tp, rfl⟩ := hv
    have hk : kids w (s.P w) (p ++ [i]) = kid w (s.P w) (kids w (s.P w) p) i := by simp [kids]
    have hpl : ∀ x, (kids w (s.P w) p x).length ≤ 1000 := fun x => by
      have := kids_len w (s.P w) x p (fun _ => [])
      have h2 : p.length ≤ (s.K w).length := by rw [hN]; simp
      unfold kids
      simp only [List.length_nil] at this; omega
    generalize kids w (s.P w) p = o at F1 hpl hk
    have F1 : Fn (trEnv cd L f) hB (fun h => KO (fun b => b = L ∨ ∃ i ∈ y.N, b = lo i) h1 h ∧ MC prog wd L y s h ∧ OutW prog wd y.N ow lo o h) h1 _ := F1.say ⟨KO.refl _, F1.inv⟩ (Stb.and (KO.dep.stb fun z => z.1 (.inl rfl)) (stb o))
    refine st8 F1 fun h2 t2 F2 _ => st6 F2 fun h3 t3 F3 _ => ?_
    refine wpAny_execs_cons (wpAny_If (wpAny_isTrue_Compare1 (nm F3 (by walk_at "mem") (nm F3 (by walk_at "mem") (PySem.P.eq_int (wpAny_truthy_bool ?_))))))
    split
    · rename_i e
      have e : i = w := by simpa using e
      refine wpAny_execs_cons (wpAny_Continue ⟨h3, t3, rfl, F3.inv.1, ko.trans F3.inv.1, some (.int (s.P w i) tp), some (.int i ti), ?_⟩)
      rw [hk, kid, if_pos e]
      exact F3.say F3.inv.2 (stb o)
    · rename_i e
      have e : i ≠ w := by simpa using e
      have hp := par i hi e
      refine wpAny_execs_nil ?_
      refine wpAny_execs_cons (wpAny_Expr (MethodCall_ (Subscript_ (nm F3 (by walk_at "mem") (nm F3 (by walk_at "mem") (row_itm F3.inv.2.2.1 hp fun v4 t4 r4 => ?_))))))
      cases r4
      obtain ⟨vs, hl, hvs⟩ := F3.inv.2.2.2 _ hp
      refine getm_append hl (callWith_builtin rfl (evalArgs_plain (args_cons (nm F3 (by walk_at "mem") (args_nil (append_m hl (by rw [hvs.length]; exact Nat.le_trans (hpl _) (by decide)) fun h5 hl5 hs5 => ?_))))))
      refine wpAny_execs_nil ⟨h5, t4, rfl, F3.inv.1.but hs5 (.inr ⟨_, hp, rfl⟩), ko.trans (F3.inv.1.but hs5 (.inr ⟨_, hp, rfl⟩)), some (.int (s.P w i) tp), some (.int i ti), ?_⟩
      rw [hk, kid, if_neg e]
      refine F3.upd (hlo _ hp).1 (hlo _ hp).2.1 hs5.extBut ⟨MC.dep h3 h5 (fun b o' hb q => hs5.extBut b o' (hMlo _ hp b hb) q) F3.inv.2.1, F3.inv.2.2.1.at fun o' q => hs5.extBut _ o' (hlo _ hp).2.2.symm q, fun j hj => ?_⟩ (stb _)
      by_cases ej : j = s.P w i
      · subst ej; simp only [upd, if_true]; exact ⟨_, hl5, IntsAre.push hvs i ti⟩
      · simp only [upd, if_neg ej]
        exact (F3.inv.2.2.2 j hj).at fun o' q => hs5.extBut _ o' (fun z => ej (fr.inj j hj _ hp z)) q
  · rintro h' t' ⟨ko, po, vo, F1⟩
    exact hQ h' t' po vo ko F1
end
end Mine
end
section
open PySem PySem.W PyProof.Rows PySem.Calls
set_option maxRecDepth 100000
namespace Mine
local macro_rules | `(tactic| walk_at "mem") => `(tactic| with_reducible (first | exact List.mem_cons_self | (refine List.mem_cons_of_mem _ ?_; walk_at "mem")))

def iter {α : Type} (f : α → α) : Nat → α → α
  | 0, a => a
  | n + 1, a => f (iter f n a)
theorem iter_fix {α : Type} {f : α → α} {a : α} {k : Nat} (h : f (iter f k a) = iter f k a) : ∀ m, k ≤ m → iter f m a = iter f k a := by
  intro m hm
  induction hm with
  | refl => rfl
  | step _ ih => show f (iter f _ a) = _; rw [ih, h]

structure DS where
  T : List Int
  node : Option Int
  dk : List (Option Int)
  df : Option Int → Int
  sk : List Int
  sf : Int → Int
def dstep (out : Int → List Int) (d : DS) : DS :=
  match d.T with
  | [] => d
  | x :: [] => ⟨(out x).reverse, some x, addk d.dk d.node, upd d.df d.node x, d.sk, d.sf⟩
  | x :: y :: r => ⟨(out x).reverse ++ y :: r, some x, addk d.dk d.node, upd d.df d.node x, addk d.sk x, upd d.sf x y⟩
def DS.start (w : Int) : DS := ⟨[w], none, [], fun _ => 0, [], fun _ => 0⟩
theorem dstep_nil {out} {d : DS} (h : d.T = []) : dstep out d = d := by unfold dstep; rw [h]
theorem dstep_one {out} {d : DS} {x : Int} (h : d.T = [x]) : dstep out d = ⟨(out x).reverse, some x, addk d.dk d.node, upd d.df d.node x, d.sk, d.sf⟩ := by unfold dstep; rw [h]
theorem dstep_more {out} {d : DS} {x z : Int} {r : List Int} (h : d.T = x :: z :: r) : dstep out d = ⟨(out x).reverse ++ z :: r, some x, addk d.dk d.node, upd d.df d.node x, addk d.sk x, upd d.sf x z⟩ := by unfold dstep; rw [h]
def WT (Q : Flow → Shared → Prop) (J : Shared → Prop) (f : Flow) (s : Shared) : Prop :=
  match f with
  | .next | .cont => J s
  | .brk => Q .next s
  | .ret v => Q (.ret v) s
theorem while_w {prog : Program} {w : World} {A : Around} {env : Env} {s : Shared} {test : Expr} {body : List Stmt} {pos : Pos} {Q : Flow → Shared → Prop} (J : Nat → Shared → Prop) (n₀ : Nat) (h0 : J n₀ s)
    (turn : ∀ n s, J n s → wpAny (model prog w) A (isTrue test env (eval test env)) (fun b s₂ =>
      if b = true then wpAny (model prog w) A (execs body env) (WT Q (fun s => ∃ m, m < n ∧ J m s)) NE s₂ else Q .next s₂) NE s) :
    wpAny (model prog w) A (exec (.While test body [] pos) env) Q NE s := by
  refine while_rule J n₀ h0 fun n s j => wpAny_mono (turn n s j) (fun b s₂ h₂ => ?_) fun _ _ e => e
  cases b with
  | false => exact h₂
  | true => exact wpAny_mono h₂ (fun f s₃ h₃ => by cases f <;> exact h₃) fun _ _ e => e

structure DSafe (N : List Int) (out : Int → List Int) (d : DS) : Prop where
  hd : ∀ x r, d.T = x :: r → x ∈ N ∧ (out x).length + d.T.length ≤ 1000
  dk : d.dk.length ≤ 1000
  sk : d.sk.length ≤ 1000

def nodeV (o : Option Int) (v : Value) : Prop := isOI o v = true
structure DObj (n0 : Nat) (N : List Int) (ow : Addr) (lo : Int → Addr) (sa da ka : Addr) : Prop where
  s0 : n0 ≤ sa
  d0 : n0 ≤ da
  k0 : n0 ≤ ka
  sd : sa ≠ da
  sk : sa ≠ ka
  dk : da ≠ ka
  ow : ow ≠ sa ∧ ow ≠ da ∧ ow ≠ ka
  lo : ∀ i ∈ N, lo i ≠ sa ∧ lo i ≠ da ∧ lo i ≠ ka
def DSH (prog : Program) (wd : World) (sa da ka : Addr) (d : DS) (h : Heap) : Prop := IsInts h sa d.T.reverse ∧ RowK (optKind prog wd) RI h da d.dk d.df ∧ Row prog wd RI h ka d.sk d.sf
theorem DSH.dep {prog wd sa da ka d} : Dep (fun b => b = sa ∨ b = da ∨ b = ka) (DSH prog wd sa da ka d) :=
  Dep.and (IsInts.dep (.inl rfl)) (Dep.and (RowK.dep (.inr (.inl rfl))) (RowK.dep (.inr (.inr rfl))))

section
variable {prog : Program} {wd : World} {A : Around} {c : Cst} {hB h : Heap} {t : Nat} {L f g nd : Addr} {cd wv iv : Value} {y : Lay}

abbrev TrP (prog : Program) (wd : World) (L : Addr) (y : Lay) (s : Tbl) (ow : Addr) (lo : Int → Addr) (o : Int → List Int) (sa da ka : Addr) (d : DS) (h : Heap) : Prop :=
  MC prog wd L y s h ∧ OutW prog wd y.N ow lo o h ∧ DSH prog wd sa da ka d h

theorem tr_while {s : Tbl} {w : Int} {tw : Tok} {n0 : Nat} {ow sa da ka : Addr} {lo : Int → Addr} {o : Int → List Int} {d : DS} {po vo nno dwo uo duo duwo dvo : Option Value} {nv : Value} {Q : Flow → Shared → Prop}
    (ap : Apart hB L y) (fr : FreshW y.N n0 ow lo) (ob : DObj n0 y.N ow lo sa da ka) (hL : L < n0) (hB0 : hB.objs.size ≤ n0) (hM : ∀ b, (b = L + 1 ∨ b = y.dd ∨ b = y.pd ∨ y.row b) → b < n0)
    (safe : ∀ k, DSafe y.N o (iter (dstep o) k d)) (fin : (iter (dstep o) 1000 d).T = []) (hnv : nodeV d.node nv)
    (F : Fn (trEnv cd L f) hB (TrP prog wd L y s ow lo o sa da ka d) h (trl g y.pd wv iv w tw (y.pr w) po (some (.ref ow)) vo (some (.ref sa)) (some (.ref da)) (some (.ref ka)) (some nv) nno dwo uo duo duwo dvo))
    (hQ : ∀ h' t' nv nno, KO (fun b => b = L ∨ b = sa ∨ b = da ∨ b = ka) h h' → Fn (trEnv cd L f) hB (TrP prog wd L y s ow lo o sa da ka (iter (dstep o) 1000 d)) h' (trl g y.pd wv iv w tw (y.pr w) po (some (.ref ow)) vo (some (.ref sa)) (some (.ref da)) (some (.ref ka)) (some nv) nno dwo uo duo duwo dvo) → Q .next (mk c h' t')) :
    wpAny (model prog wd) A (exec (trs 6) (trEnv cd L f)) Q NE (mk c h t) := by
  have nL : ∀ {b}, n0 ≤ b → hB.objs.size ≤ b ∧ b ≠ L := fun q => ⟨Nat.le_trans hB0 q, Nat.ne_of_gt (Nat.lt_of_lt_of_le hL q)⟩
  have nM : ∀ {a}, n0 ≤ a → ∀ b, (b = L + 1 ∨ b = y.dd ∨ b = y.pd ∨ y.row b) → b ≠ a := fun q b hb => Nat.ne_of_lt (Nat.lt_of_lt_of_le (hM b hb) q)
  have stb : ∀ d, Stb L (TrP prog wd L y s ow lo o sa da ka d) := fun d => Stb.and (MC.stb ap) (Stb.and (OutW.dep.stb fun z => by
    rcases z with z | ⟨i, hi, z⟩
    · exact (nL fr.o1).2 z.symm
    · exact (nL (fr.l1 i hi).1).2 z.symm) (DSH.dep.stb fun z => by
    rcases z with z | z | z
    · exact (nL ob.s0).2 z.symm
    · exact (nL ob.d0).2 z.symm
    · exact (nL ob.k0).2 z.symm))
  have outN : ∀ {a}, (ow ≠ a ∧ ∀ i ∈ y.N, lo i ≠ a) → ∀ b, (b = ow ∨ ∃ i ∈ y.N, b = lo i) → b ≠ a := fun q b hb => by
    rcases hb with rfl | ⟨i, hi, rfl⟩
    · exact q.1
    · exact q.2 i hi
  have oS := outN (a := sa) ⟨ob.ow.1, fun i hi => (ob.lo i hi).1⟩
  have oD := outN (a := da) ⟨ob.ow.2.1, fun i hi => (ob.lo i hi).2.1⟩
  have oK := outN (a := ka) ⟨ob.ow.2.2, fun i hi => (ob.lo i hi).2.2⟩
  refine while_w (fun n s' => ∃ k h' t' nv nno, k + n = 1000 ∧ s' = mk c h' t' ∧ KO (fun b => b = L ∨ b = sa ∨ b = da ∨ b = ka) h h' ∧ nodeV (iter (dstep o) k d).node nv ∧
    Fn (trEnv cd L f) hB (TrP prog wd L y s ow lo o sa da ka (iter (dstep o) k d)) h' (trl g y.pd wv iv w tw (y.pr w) po (some (.ref ow)) vo (some (.ref sa)) (some (.ref da)) (some (.ref ka)) (some nv) nno dwo uo duo duwo dvo)) 1000 ⟨0, h, t, nv, nno, rfl, rfl, KO.refl _, hnv, F⟩ ?_
  rintro n s' ⟨k, h1, t1, nv, nno, hkn, rfl, ko, hnv, F1⟩
  have sf := safe k
  have hfix : (iter (dstep o) k d).T = [] → iter (dstep o) 1000 d = iter (dstep o) k d := fun e => iter_fix (dstep_nil e) 1000 (by omega)
  have hnext : dstep o (iter (dstep o) k d) = iter (dstep o) (k + 1) d := rfl
  have hk0 : n = 0 → (iter (dstep o) k d).T = [] := fun e => by have : k = 1000 := by omega
                                                                rw [this]; exact fin
  generalize iter (dstep o) k d = e at F1 sf hfix hnext hk0 hnv
  have hTl : e.T.reverse.length ≤ 1000 := by
    cases hT : e.T with
    | nil => simp
    | cons x r => have := (sf.hd x r hT).2; rw [hT] at this; rw [List.length_reverse]; omega
  refine isTrue_plain (nm F1 (by walk_at "mem") (ints_true F1.inv.2.2.1 hTl fun t2 => ?_))
  split
  · rename_i hne
    obtain ⟨x, r, hT⟩ : ∃ x r, e.T = x :: r := by
      cases hT : e.T with
      | nil => rw [hT] at hne; simp at hne
      | cons x r => exact ⟨x, r, rfl⟩
    have hn : n ≠ 0 := fun z => by rw [hk0 z] at hT; cases hT
    obtain ⟨hx, hxl⟩ := sf.hd x r hT
    rw [hT] at hxl
    simp only [List.length_cons] at hxl
    have hT2 : e.T.reverse = r.reverse ++ [x] := by rw [hT, List.reverse_cons]
    have P1 := F1.inv.2.2.1
    rw [hT2] at P1
    obtain ⟨vs1, hl1, _⟩ := id P1
    refine wpAny_execs_cons (wpAny_Assign_Name (MethodCall_ (nm F1 (by walk_at "mem") (getml PySem.F.slot_list_pop PySem.F.type_list_pop hl1 (callWith_builtin rfl (PySem.evalArgs_none (pop_m P1 (by simp; omega) fun h3 tx i3 sb3 => ?_)))))))
    have F3 : Fn (trEnv cd L f) hB (fun h => MC prog wd L y s h ∧ OutW prog wd y.N ow lo o h ∧ IsInts h sa r.reverse ∧ RowK (optKind prog wd) RI h da e.dk e.df ∧ Row prog wd RI h ka e.sk e.sf) h3 _ :=
      F1.upd (nL ob.s0).1 (nL ob.s0).2 sb3.extBut ⟨MC.dep h1 h3 (fun b o' hb q => sb3.extBut b o' (nM ob.s0 b hb) q) F1.inv.1, OutW.dep h1 h3 (fun b o' hb q => sb3.extBut b o' (oS b hb) q) F1.inv.2.1, i3, F1.inv.2.2.2.1.at fun o' q => sb3.extBut _ o' ob.sd.symm q, F1.inv.2.2.2.2.at fun o' q => sb3.extBut _ o' ob.sk.symm q⟩
        (fun a b k' z => have q := stb ⟨r, e.node, e.dk, e.df, e.sk, e.sf⟩ a b k' ⟨z.1, z.2.1, z.2.2⟩; ⟨q.1, q.2.1, q.2.2⟩)
    have ko3 : KO (fun b => b = L ∨ b = sa ∨ b = da ∨ b = ka) h h3 := ko.but sb3 (.inr (.inl rfl))
    refine st13 F3 fun h4 t4 F4 sb4 => ?_
    have ko4 := ko3.but sb4 (.inl rfl)
    refine wpAny_execs_cons (wpAny_Assign_Subscript (nm F4 (by walk_at "mem") (nm F4 (by walk_at "mem") (nm F4 (by walk_at "mem") (rowk_set (i := e.node) (y := x) (knd := optKind prog wd) hnv F4.inv.2.2.2.1 ⟨_, rfl⟩ (Nat.le_trans sf.dk (by decide)) fun h5 t5 r5 sb5 => ?_)))))
    have F5 : Fn (trEnv cd L f) hB (fun h => MC prog wd L y s h ∧ OutW prog wd y.N ow lo o h ∧ IsInts h sa r.reverse ∧ RowK (optKind prog wd) RI h da (addk e.dk e.node) (upd e.df e.node x) ∧ Row prog wd RI h ka e.sk e.sf) h5 _ :=
      F4.upd (nL ob.d0).1 (nL ob.d0).2 sb5.extBut ⟨MC.dep h4 h5 (fun b o' hb q => sb5.extBut b o' (nM ob.d0 b hb) q) F4.inv.1, OutW.dep h4 h5 (fun b o' hb q => sb5.extBut b o' (oD b hb) q) F4.inv.2.1, F4.inv.2.2.1.at fun o' q => sb5.extBut _ o' ob.sd q, r5, F4.inv.2.2.2.2.at fun o' q => sb5.extBut _ o' ob.dk.symm q⟩
        (fun a b k' z => have q := stb ⟨r, e.node, addk e.dk e.node, upd e.df e.node x, e.sk, e.sf⟩ a b k' ⟨z.1, z.2.1, z.2.2⟩; ⟨q.1, q.2.1, q.2.2⟩)
    have ko5 := ko4.but sb5 (.inr (.inr (.inl rfl)))
    -- if stack
    have tail : ∀ h6 t6 sk' sf', KO (fun b => b = L ∨ b = sa ∨ b = da ∨ b = ka) h h6 → (⟨(o x).reverse ++ r, some x, addk e.dk e.node, upd e.df e.node x, sk', sf'⟩ : DS) = dstep o e →
        Fn (trEnv cd L f) hB (fun h => MC prog wd L y s h ∧ OutW prog wd y.N ow lo o h ∧ IsInts h sa r.reverse ∧ RowK (optKind prog wd) RI h da (addk e.dk e.node) (upd e.df e.node x) ∧ Row prog wd RI h ka sk' sf') h6
          (trl g y.pd wv iv w tw (y.pr w) po (some (.ref ow)) vo (some (.ref sa)) (some (.ref da)) (some (.ref ka)) (some nv) (some (.int x tx)) dwo uo duo duwo dvo) →
        wpAny (model prog wd) A (execs [at' (dFor (trs 6)) 3, at' (dFor (trs 6)) 4] (trEnv cd L f)) (WT Q fun s₃ => ∃ m, m < n ∧ ∃ k h' t' nv nno, k + m = 1000 ∧ s₃ = mk c h' t' ∧ KO (fun b => b = L ∨ b = sa ∨ b = da ∨ b = ka) h h' ∧ nodeV (iter (dstep o) k d).node nv ∧
    Fn (trEnv cd L f) hB (TrP prog wd L y s ow lo o sa da ka (iter (dstep o) k d)) h' (trl g y.pd wv iv w tw (y.pr w) po (some (.ref ow)) vo (some (.ref sa)) (some (.ref da)) (some (.ref ka)) (some nv) nno dwo uo duo duwo dvo)) NE (mk c h6 t6) := by
      intro h6 t6 sk' sf' ko6 hst F6
      obtain ⟨vs6, hl6, _⟩ := F6.inv.2.2.1
      refine wpAny_execs_cons (wpAny_Expr (MethodCall_ (nm F6 (by walk_at "mem") (getml PySem.F.slot_list_extend PySem.F.type_list_extend hl6 (callWith_builtin rfl (evalArgs_plain (args_cons (Subscript_ (nm F6 (by walk_at "mem") (nm F6 (by walk_at "mem") (row_itm F6.inv.2.1.1 hx fun v7 t7 r7 => ?_)))))))))))
      cases r7
      refine args_nil (extend_m F6.inv.2.2.1 (F6.inv.2.1.2 x hx) (by simp; omega) fun h8 i8 sb8 => ?_)
      have F8 : Fn (trEnv cd L f) hB (TrP prog wd L y s ow lo o sa da ka (dstep o e)) h8 _ :=
        F6.upd (nL ob.s0).1 (nL ob.s0).2 sb8.extBut ⟨MC.dep h6 h8 (fun b o' hb q => sb8.extBut b o' (nM ob.s0 b hb) q) F6.inv.1, OutW.dep h6 h8 (fun b o' hb q => sb8.extBut b o' (oS b hb) q) F6.inv.2.1, by
          rw [← hst]
          exact ⟨by simpa using i8, F6.inv.2.2.2.1.at fun o' q => sb8.extBut _ o' ob.sd.symm q, F6.inv.2.2.2.2.at fun o' q => sb8.extBut _ o' ob.sk.symm q⟩⟩ (stb _)
      have ko8 := ko6.but sb8 (.inr (.inl rfl))
      refine wpAny_execs_cons (wpAny_Assign_Name (nm F8 (by walk_at "mem") (st12 F8 fun h9 t9 F9 sb9 => ?_)))
      refine wpAny_execs_nil ⟨n - 1, by omega, k + 1, h9, t9, .int x tx, some (.int x tx), by omega, rfl, ko8.but sb9 (.inl rfl), ?_, ?_⟩
      · rw [← hnext, ← hst]; simp [nodeV, isOI]
      · rw [← hnext]; exact F9
    refine wpAny_execs_cons (wpAny_If (isTrue_plain (nm F5 (by walk_at "mem") (ints_true F5.inv.2.2.1 (by simp; omega) fun t6 => ?_))))
    split
    · rename_i hne2
      obtain ⟨z, q, rfl⟩ : ∃ z q, r = z :: q := by
        cases r with
        | nil => simp at hne2
        | cons z q => exact ⟨z, q, rfl⟩
      have i5 := F5.inv.2.2.1
      rw [List.reverse_cons] at i5
      refine wpAny_execs_cons (wpAny_Assign_Subscript (Subscript_ (nm F5 (by walk_at "mem") (wpAny_UnaryOp (wpAny_Constant_int (PySem.P.neg_int (ints_last i5 fun tz => ?_)))))))
      refine nm F5 (by walk_at "mem") (nm F5 (by walk_at "mem") (row_set F5.inv.2.2.2.2 ⟨tz, rfl⟩ (Nat.le_trans sf.sk (by decide)) fun h7 t7 r7 sb7 => ?_))
      have F7 : Fn (trEnv cd L f) hB (fun h => MC prog wd L y s h ∧ OutW prog wd y.N ow lo o h ∧ IsInts h sa (z :: q).reverse ∧ RowK (optKind prog wd) RI h da (addk e.dk e.node) (upd e.df e.node x) ∧ Row prog wd RI h ka (addk e.sk x) (upd e.sf x z)) h7 _ :=
        F5.upd (nL ob.k0).1 (nL ob.k0).2 sb7.extBut ⟨MC.dep h5 h7 (fun b o' hb q => sb7.extBut b o' (nM ob.k0 b hb) q) F5.inv.1, OutW.dep h5 h7 (fun b o' hb q => sb7.extBut b o' (oK b hb) q) F5.inv.2.1, F5.inv.2.2.1.at fun o' q => sb7.extBut _ o' ob.sk q, F5.inv.2.2.2.1.at fun o' q => sb7.extBut _ o' ob.dk q, r7⟩
          (fun a b k' z' => have q' := stb ⟨z :: q, e.node, addk e.dk e.node, upd e.df e.node x, addk e.sk x, upd e.sf x z⟩ a b k' ⟨z'.1, z'.2.1, z'.2.2⟩; ⟨q'.1, q'.2.1, q'.2.2⟩)
      exact wpAny_execs_nil (tail h7 t7 _ _ (ko5.but sb7 (.inr (.inr (.inr rfl)))) (dstep_more hT).symm F7)
    · rename_i hne2
      have hr : r = [] := by
        cases r with
        | nil => rfl
        | cons z q => simp at hne2
      subst hr
      exact wpAny_execs_nil (tail h5 t6 _ _ ko5 (by rw [dstep_one hT]; simp) F5)
  · rename_i hne
    have hT : e.T = [] := by
      cases hT : e.T with
      | nil => rfl
      | cons x r => rw [hT] at hne; simp at hne
    rw [← hfix hT] at F1
    exact hQ h1 t2 nv nno ko F1
end
end Mine
end
section
open PySem PySem.W PyProof.Rows PySem.Calls
set_option maxRecDepth 100000
namespace Mine
local macro_rules | `(tactic| walk_at "mem") => `(tactic| with_reducible (first | exact List.mem_cons_self | (refine List.mem_cons_of_mem _ ?_; walk_at "mem")))

def DS.dget (d : DS) (v : Int) : Option Int := if some v ∈ d.dk then some (d.df (some v)) else none
def DS.sget (d : DS) (v : Int) : Option Int := if v ∈ d.sk then some (d.sf v) else none
def Tbl.tput (s : Tbl) (w u v : Int) (x : Option Int) : Tbl := ⟨upd s.D u (upd (s.D u) v x), upd s.K u (addk (s.K u) v), upd s.P u (upd (s.P u) v (s.P w v))⟩
structure TS where
  s : Tbl
  v : Option Int
def tstep (w u : Int) (q : Option Int) (d : DS) (x : TS) : TS :=
  match x.v with
  | none => x
  | some v => if ltE (addE q (x.s.D w v)) (x.s.D u v) then ⟨x.s.tput w u v (addE q (x.s.D w v)), d.dget v⟩ else ⟨x.s, d.sget v⟩
theorem tstep_none {w u q d} {x : TS} (h : x.v = none) : tstep w u q d x = x := by unfold tstep; rw [h]
theorem tstep_yes {w u q d} {x : TS} {v} (h : x.v = some v) (e : ltE (addE q (x.s.D w v)) (x.s.D u v) = true) : tstep w u q d x = ⟨x.s.tput w u v (addE q (x.s.D w v)), d.dget v⟩ := by
  unfold tstep; rw [h]; simp only [e, if_true]
theorem tstep_no {w u q d} {x : TS} {v} (h : x.v = some v) (e : ¬ ltE (addE q (x.s.D w v)) (x.s.D u v) = true) : tstep w u q d x = ⟨x.s, d.sget v⟩ := by
  unfold tstep; rw [h]; simp only [if_neg e]
def Tbl.trU (s : Tbl) (w : Int) (d : DS) (u : Int) : Tbl := if u = w then s else if s.D u w = none then s else (iter (tstep w u (s.D u w) d) 1000 ⟨s, d.dget w⟩).s
structure TSafe (N prk : List Int) (w u : Int) (q : Option Int) (x : TS) : Prop where
  ok : ∀ v, x.v = some v → v ∈ N ∧ Fits (x.s.D w v) ∧ (ltE (addE q (x.s.D w v)) (x.s.D u v) = true → u ∈ prk ∧ v ∈ x.s.K w ∧ (x.s.K u).length ≤ 1000)
structure USafe (N prk : List Int) (w : Int) (d : DS) (s : Tbl) (u : Int) : Prop where
  fq : Fits (s.D u w)
  run : u ≠ w → s.D u w ≠ none → (∀ k, TSafe N prk w u (s.D u w) (iter (tstep w u (s.D u w) d) k ⟨s, d.dget w⟩)) ∧ (iter (tstep w u (s.D u w) d) 1000 ⟨s, d.dget w⟩).v = none
def optV : Option Int → Value → Prop := fun o v => isOI o v = true

section
variable {prog : Program} {wd : World} {A : Around} {c : Cst} {hB h : Heap} {t : Nat} {L f g nd : Addr} {cd wv iv : Value} {y : Lay}

theorem TrP.stb {s : Tbl} {n0 : Nat} {ow sa da ka : Addr} {lo : Int → Addr} {o : Int → List Int} {d : DS} (ap : Apart hB L y) (fr : FreshW y.N n0 ow lo) (ob : DObj n0 y.N ow lo sa da ka) (hL : L < n0) : Stb L (TrP prog wd L y s ow lo o sa da ka d) := by
  have nL : ∀ {b}, n0 ≤ b → b ≠ L := fun q => Nat.ne_of_gt (Nat.lt_of_lt_of_le hL q)
  exact Stb.and (MC.stb ap) (Stb.and (OutW.dep.stb fun z => by
    rcases z with z | ⟨i, hi, z⟩
    · exact nL fr.o1 z.symm
    · exact nL (fr.l1 i hi).1 z.symm) (DSH.dep.stb fun z => by
    rcases z with z | z | z
    · exact nL ob.s0 z.symm
    · exact nL ob.d0 z.symm
    · exact nL ob.k0 z.symm))

theorem tr_walk {s : Tbl} {w u : Int} {tw tu : Tok} {q : Option Int} {n0 : Nat} {ow sa da ka : Addr} {lo : Int → Addr} {o : Int → List Int} {d : DS} {x₀ : TS} {po so no nno dvo : Option Value} {vv qv : Value} {Q : Flow → Shared → Prop}
    (ok : y.Ok) (ap : Apart hB L y) (fr : FreshW y.N n0 ow lo) (ob : DObj n0 y.N ow lo sa da ka) (hL : L < n0) (hM : ∀ b, (b = L + 1 ∨ b = y.dd ∨ b = y.pd ∨ y.row b) → b < n0)
    (hw : w ∈ y.prk) (hwN : w ∈ y.N) (huN : u ∈ y.N) (hq : RE qv q) (fq : Fits q) (safe : ∀ k, TSafe y.N y.prk w u q (iter (tstep w u q d) k x₀)) (fin : (iter (tstep w u q d) 1000 x₀).v = none) (hvv : optV x₀.v vv) (hs : x₀.s = s)
    (F : Fn (trEnv cd L f) hB (TrP prog wd L y s ow lo o sa da ka d) h (trl g y.pd wv iv w tw (y.pr w) po (some (.ref ow)) (some vv) so (some (.ref da)) (some (.ref ka)) no nno (some (.ref (y.dr w))) (some (.int u tu)) (some (.ref (y.dr u))) (some qv) dvo))
    (hQ : ∀ h' t' vv dvo, KO (Wr L y) h h' → Fn (trEnv cd L f) hB (TrP prog wd L y (iter (tstep w u q d) 1000 x₀).s ow lo o sa da ka d) h' (trl g y.pd wv iv w tw (y.pr w) po (some (.ref ow)) (some vv) so (some (.ref da)) (some (.ref ka)) no nno (some (.ref (y.dr w))) (some (.int u tu)) (some (.ref (y.dr u))) (some qv) dvo) → Q .next (mk c h' t')) :
    wpAny (model prog wd) A (exec (at' (dFor (trs 8)) 5) (trEnv cd L f)) Q NE (mk c h t) := by
  subst hs
  have big : ∀ {a b}, (a = L + 1 ∨ a = y.dd ∨ a = y.pd ∨ y.row a) → n0 ≤ b → b ≠ a := fun p r => Nat.ne_of_gt (Nat.lt_of_lt_of_le (hM _ p) r)
  have oth : ∀ {a} {h1 h2 : Heap}, (a = L + 1 ∨ a = y.dd ∨ a = y.pd ∨ y.row a) → Heap.SameBut a h1 h2 → OutW prog wd y.N ow lo o h1 ∧ DSH prog wd sa da ka d h1 → OutW prog wd y.N ow lo o h2 ∧ DSH prog wd sa da ka d h2 := fun p sb z =>
    ⟨OutW.dep _ _ (fun b o' hb q => sb.extBut b o' (by rcases hb with rfl | ⟨i, hi, rfl⟩; exact big p fr.o1; exact big p (fr.l1 i hi).1) q) z.1,
     DSH.dep _ _ (fun b o' hb q => sb.extBut b o' (by rcases hb with rfl | rfl | rfl; exact big p ob.s0; exact big p ob.d0; exact big p ob.k0) q) z.2⟩
  refine while_w (fun n s' => ∃ k h' t' vv dvo, k + n = 1000 ∧ s' = mk c h' t' ∧ KO (Wr L y) h h' ∧ optV (iter (tstep w u q d) k x₀).v vv ∧
    Fn (trEnv cd L f) hB (TrP prog wd L y (iter (tstep w u q d) k x₀).s ow lo o sa da ka d) h' (trl g y.pd wv iv w tw (y.pr w) po (some (.ref ow)) (some vv) so (some (.ref da)) (some (.ref ka)) no nno (some (.ref (y.dr w))) (some (.int u tu)) (some (.ref (y.dr u))) (some qv) dvo)) 1000 ⟨0, h, t, vv, dvo, rfl, rfl, KO.refl _, hvv, F⟩ ?_
  rintro n s' ⟨k, h1, t1, vv, dvo, hkn, rfl, ko, hvv, F1⟩
  have sf := (safe k).ok
  have hfix : (iter (tstep w u q d) k x₀).v = none → iter (tstep w u q d) 1000 x₀ = iter (tstep w u q d) k x₀ := fun e => iter_fix (tstep_none e) 1000 (by omega)
  have hnext : tstep w u q d (iter (tstep w u q d) k x₀) = iter (tstep w u q d) (k + 1) x₀ := rfl
  have hk0 : n = 0 → (iter (tstep w u q d) k x₀).v = none := fun e => (show k = 1000 by omega) ▸ fin
  generalize iter (tstep w u q d) k x₀ = e at F1 sf hfix hnext hk0 hvv
  cases hv : e.v with
  | none =>
    rw [hv] at hvv
    obtain rfl := isOI_none hvv
    refine wpAny_isTrue_Compare1 (nm F1 (by walk_at "mem") (wpAny_Constant_none (wpAny_isNot_self rfl (wpAny_truthy_bool ?_))))
    rw [if_neg Bool.false_ne_true]
    rw [← hfix hv] at F1
    exact hQ h1 t1 .none dvo ko F1
  | some v =>
    rw [hv] at hvv
    obtain ⟨tv, rfl⟩ := isOI_some hvv
    have hn : n ≠ 0 := fun z => by rw [hk0 z] at hv; cases hv
    obtain ⟨hvN, fv, himp⟩ := sf v hv
    refine wpAny_isTrue_Compare1 (nm F1 (by walk_at "mem") (wpAny_Constant_none (isnot_int_none (wpAny_truthy_bool ?_))))
    rw [if_pos rfl]
    refine wpAny_execs_cons (wpAny_Assign_Name (wpAny_BinOp (nm F1 (by walk_at "mem") (Subscript_ (nm F1 (by walk_at "mem") (nm F1 (by walk_at "mem") (row_itm (F1.inv.1.1.drow w hwN) hvN fun v2 t2 r2 => ?_)))))))
    refine add_ext hq r2 fq fv fun vd t3 rd => ?_
    refine st18 F1 fun h3 t3 F3 sb3 => ?_
    have ko3 := ko.but sb3 (.inl rfl)
    refine wpAny_execs_cons (wpAny_If (wpAny_isTrue_Compare1 (Subscript_ (nm F3 (by walk_at "mem") (nm F3 (by walk_at "mem") (row_itm (F3.inv.1.1.drow u huN) hvN fun v4 t4 r4 => ?_))))))
    refine nm F3 (by walk_at "mem") (gt_ext r4 rd (wpAny_truthy_bool ?_))
    have e1000 : ∀ h' t' vv' dvo' (e' : TS), tstep w u q d e = e' → KO (Wr L y) h h' → optV e'.v vv' → Fn (trEnv cd L f) hB (TrP prog wd L y e'.s ow lo o sa da ka d) h' (trl g y.pd wv iv w tw (y.pr w) po (some (.ref ow)) (some vv') so (some (.ref da)) (some (.ref ka)) no nno (some (.ref (y.dr w))) (some (.int u tu)) (some (.ref (y.dr u))) (some qv) dvo') →
        ∃ m, m < n ∧ ∃ k h'' t'' vv dvo, k + m = 1000 ∧ mk c h' t' = mk c h'' t'' ∧ KO (Wr L y) h h'' ∧ optV (iter (tstep w u q d) k x₀).v vv ∧
    Fn (trEnv cd L f) hB (TrP prog wd L y (iter (tstep w u q d) k x₀).s ow lo o sa da ka d) h'' (trl g y.pd wv iv w tw (y.pr w) po (some (.ref ow)) (some vv) so (some (.ref da)) (some (.ref ka)) no nno (some (.ref (y.dr w))) (some (.int u tu)) (some (.ref (y.dr u))) (some qv) dvo) := by
      intro h' t' vv' dvo' e' he ko' hv' F'
      refine ⟨n - 1, by omega, k + 1, h', t', vv', dvo', by omega, rfl, ko', ?_, ?_⟩
      · rw [← hnext, he]; exact hv'
      · rw [← hnext, he]; exact F'
    split
    · rename_i hi
      obtain ⟨hup, hvk, hkl⟩ := himp hi
      have hdu : hB.objs.size ≤ y.dr u ∧ y.dr u ≠ L ∧ y.dr u ≠ L + 1 := ap.row _ (.inl ⟨u, huN, rfl⟩)
      have hpu : hB.objs.size ≤ y.pr u ∧ y.pr u ≠ L ∧ y.pr u ≠ L + 1 := ap.row _ (.inr ⟨u, hup, rfl⟩)
      refine wpAny_execs_cons (wpAny_Assign_Subscript (nm F3 (by walk_at "mem") (nm F3 (by walk_at "mem") (nm F3 (by walk_at "mem") (row_set (F3.inv.1.1.drow u huN) rd (Nat.le_trans ok.len (by decide)) fun h5 t5 r5 sb5 => ?_)))))
      have ek : addk y.N v = y.N := by rw [addk, if_pos hvN]
      rw [ek] at r5
      have o5 := oth (.inr (.inr (.inr (.inl ⟨u, huN, rfl⟩)))) sb5 F3.inv.2
      have m5 := F3.inv.1.1.setD ok huN r5 sb5
      have F5 : Fn (trEnv cd L f) hB (TrP prog wd L y { e.s with D := upd e.s.D u (upd (e.s.D u) v (addE q (e.s.D w v))) } ow lo o sa da ka d) h5 _ :=
        F3.upd hdu.1 hdu.2.1 sb5.extBut ⟨⟨m5, F3.inv.1.2.sameBut sb5 hdu.2.2.symm⟩, o5⟩ (TrP.stb ap fr ob hL)
      refine wpAny_execs_cons (wpAny_Assign_Subscript (Subscript_ (nm F5 (by walk_at "mem") (nm F5 (by walk_at "mem") (row_itm (F5.inv.1.1.prow w hw) hvk fun v7 t7 r7 => ?_)))))
      refine Subscript_ (nm F5 (by walk_at "mem") (nm F5 (by walk_at "mem") (row_itm F5.inv.1.1.p hup fun v8 t8 r8 => ?_)))
      cases r8
      refine nm F5 (by walk_at "mem") (row_set (F5.inv.1.1.prow u hup) r7 (Nat.le_trans hkl (by decide)) fun h9 t9 r9 sb9 => ?_)
      have m9 := F5.inv.1.1.setP ok hup r9 sb9
      have o9 := oth (.inr (.inr (.inr (.inr ⟨u, hup, rfl⟩)))) sb9 F5.inv.2
      have F9 : Fn (trEnv cd L f) hB (TrP prog wd L y (e.s.tput w u v (addE q (e.s.D w v))) ow lo o sa da ka d) h9 _ :=
        F5.upd hpu.1 hpu.2.1 sb9.extBut ⟨⟨m9, F5.inv.1.2.sameBut sb9 hpu.2.2.symm⟩, o9⟩ (TrP.stb ap fr ob hL)
      have ko9 := (ko3.but sb5 (.inr (.inl ⟨u, huN, rfl⟩))).but sb9 (.inr (.inr ⟨u, hup, rfl⟩))
      refine wpAny_execs_cons (wpAny_Assign_Name (MethodCall_ (nm F9 (by walk_at "mem") (getmk PySem.F.slot_dict_get PySem.F.type_dict_get F9.inv.2.2.2.1 (callWith_builtin rfl (evalArgs_plain (args_cons (nm F9 (by walk_at "mem") (args_cons (wpAny_Constant_none (args_nil
        (get2_m (i := some v) (knd := optKind prog wd) (by simp [optKind, isOI]) F9.inv.2.2.2.1 (fun hm vv' t' r => ?_) (fun hm t' => ?_)))))))))))))
      · obtain ⟨tz, rfl⟩ := r
        exact st8 F9 fun h10 t10 F10 sb10 => wpAny_execs_nil (wpAny_execs_nil (e1000 h10 t10 _ _ _ (tstep_yes hv hi) (ko9.but sb10 (.inl rfl)) (by unfold DS.dget; rw [if_pos hm]; simp [optV, isOI]) F10))
      · exact st8 F9 fun h10 t10 F10 sb10 => wpAny_execs_nil (wpAny_execs_nil (e1000 h10 t10 _ _ _ (tstep_yes hv hi) (ko9.but sb10 (.inl rfl)) (by unfold DS.dget; rw [if_neg hm]; rfl) F10))
    · rename_i hi
      have F9 := F3
      refine wpAny_execs_cons (wpAny_Assign_Name (MethodCall_ (nm F9 (by walk_at "mem") (getmk PySem.F.slot_dict_get PySem.F.type_dict_get F9.inv.2.2.2.2 (callWith_builtin rfl (evalArgs_plain (args_cons (nm F9 (by walk_at "mem") (args_cons (wpAny_Constant_none (args_nil
        (get2_m (intKind_is prog wd v tv) F9.inv.2.2.2.2 (fun hm vv' t' r => ?_) (fun hm t' => ?_)))))))))))))
      · obtain ⟨tz, rfl⟩ := r
        exact st8 F9 fun h10 t10 F10 sb10 => wpAny_execs_nil (wpAny_execs_nil (e1000 h10 t10 _ _ _ (tstep_no hv hi) (ko3.but sb10 (.inl rfl)) (by unfold DS.sget; rw [if_pos hm]; simp [optV, isOI]) F10))
      · exact st8 F9 fun h10 t10 F10 sb10 => wpAny_execs_nil (wpAny_execs_nil (e1000 h10 t10 _ _ _ (tstep_no hv hi) (ko3.but sb10 (.inl rfl)) (by unfold DS.sget; rw [if_neg hm]; rfl) F10))
end
end Mine
end
section
open PySem PySem.W PyProof.Rows PySem.Calls
set_option maxRecDepth 100000
namespace Mine
local macro_rules | `(tactic| walk_at "mem") => `(tactic| with_reducible (first | exact List.mem_cons_self | (refine List.mem_cons_of_mem _ ?_; walk_at "mem")))

def Tbl.runTU (s : Tbl) (w : Int) (d : DS) (us : List Int) : Tbl := us.foldl (fun s u => s.trU w d u) s
abbrev TrX (L : Addr) (y : Lay) (ow : Addr) (lo : Int → Addr) (sa da ka : Addr) (b : Addr) : Prop := (b = L + 1 ∨ b = y.dd ∨ b = y.pd ∨ y.row b) ∨ (b = ow ∨ ∃ i ∈ y.N, b = lo i) ∨ (b = sa ∨ b = da ∨ b = ka)
section
variable {prog : Program} {wd : World} {A : Around} {c : Cst} {hB h : Heap} {t : Nat} {L f g nd : Addr} {cd wv iv : Value} {y : Lay}
theorem TrP.dep {s ow lo o sa da ka d} : Dep (TrX L y ow lo sa da ka) (TrP prog wd L y s ow lo o sa da ka d) :=
  Dep.and (MC.dep.mono fun _ x => .inl x) (Dep.and (OutW.dep.mono fun _ x => .inr (.inl x)) (DSH.dep.mono fun _ x => .inr (.inr x)))
theorem TrP.lt {s ow lo o sa da ka d} (x : TrP prog wd L y s ow lo o sa da ka d h) : ∀ b, TrX L y ow lo sa da ka b → b < h.objs.size := fun b q => by
  rcases q with q | q | q
  · exact x.1.lt b q
  · exact x.2.1.lt b q
  · rcases q with rfl | rfl | rfl
    · exact x.2.2.1.lt
    · exact x.2.2.2.1.lt
    · exact x.2.2.2.2.lt

theorem tr_u {s : Tbl} {w : Int} {tw : Tok} {n0 : Nat} {ow sa da ka : Addr} {lo : Int → Addr} {o : Int → List Int} {d : DS} {po vo so no nno uo duo duwo dvo : Option Value} {Q : Flow → Shared → Prop} (hA : A.handled = none) (hroom : A.depth + 1 < recursionLimit)
    (GG : GIter prog wd c hB g nd y.N) (hnd : nd < hB.objs.size)
    (ok : y.Ok) (ap : Apart hB L y) (fr : FreshW y.N n0 ow lo) (ob : DObj n0 y.N ow lo sa da ka) (hL : L < n0) (hM : ∀ b, (b = L + 1 ∨ b = y.dd ∨ b = y.pd ∨ y.row b) → b < n0)
    (hw : w ∈ y.prk) (hwN : w ∈ y.N) (hiv : RE iv none) (safe : ∀ p u r, y.N = p ++ u :: r → USafe y.N y.prk w d (s.runTU w d p) u)
    (F : Fn (trEnv cd L f) hB (TrP prog wd L y s ow lo o sa da ka d) h (trl g y.pd wv iv w tw (y.pr w) po (some (.ref ow)) vo so (some (.ref da)) (some (.ref ka)) no nno (some (.ref (y.dr w))) uo duo duwo dvo))
    (hQ : ∀ h' t' vo uo duo duwo dvo, KO (Wr L y) h h' → Fn (trEnv cd L f) hB (TrP prog wd L y (s.runTU w d y.N) ow lo o sa da ka d) h' (trl g y.pd wv iv w tw (y.pr w) po (some (.ref ow)) vo so (some (.ref da)) (some (.ref ka)) no nno (some (.ref (y.dr w))) uo duo duwo dvo) → Q .next (mk c h' t')) :
    wpAny (model prog wd) A (exec (trs 8) (trEnv cd L f)) Q NE (mk c h t) := by
  have hbig : hB.objs.size ≤ h.objs.size := Nat.le_of_lt (Nat.lt_of_le_of_lt F.above F.loc.lt)
  refine for_walks (Wr L y) (nm F (by walk_at "mem") (loops_G GG hA hroom F.keep (fun x => ?_) (fun b x => ?_)
    (fun p r h' t' => KO (Wr L y) h h' ∧ ∃ vo uo duo duwo dvo, Fn (trEnv cd L f) hB (TrP prog wd L y (s.runTU w d p) ow lo o sa da ka d) h' (trl g y.pd wv iv w tw (y.pr w) po (some (.ref ow)) vo so (some (.ref da)) (some (.ref ka)) no nno (some (.ref (y.dr w))) uo duo duwo dvo)) ?_ ?_ ?_ ?_))
  · rcases x with x | x
    · exact absurd (x ▸ hnd) (Nat.not_lt.mpr F.above)
    · exact absurd hnd (Nat.not_lt.mpr (ap.row _ x).1)
  · rcases x with rfl | x
    · exact F.loc.lt
    · exact F.inv.1.lt b (.inr (.inr (.inr x)))
  · intro h' t' k; exact ⟨k.ko, vo, uo, duo, duwo, dvo, F.ext k⟩
  · rintro I p r h₁ t₁ h' t' hI e ⟨ko, vo, uo, duo, duwo, dvo, F1⟩
    exact ⟨ko.ext e hI, vo, uo, duo, duwo, dvo, F1.off TrP.dep (fun x => Nat.lt_irrefl _ (Nat.lt_of_lt_of_le (F.inv.lt I x) hI)) (Nat.le_trans hbig hI) (Nat.ne_of_gt (Nat.lt_of_lt_of_le F.loc.lt hI)) e⟩
  · rintro p u r h₁ t₁ tk hN ⟨ko, vo, uo, duo, duwo, dvo, F1⟩
    have hu : u ∈ y.N := by rw [hN]; simp
    have sf := safe p u r hN
    have hstep : s.runTU w d (p ++ [u]) = (s.runTU w d p).trU w d u := by simp [Tbl.runTU]
    generalize s.runTU w d p = σ at F1 sf hstep
    refine wpAny_assign_Name (st15 F1 fun h2 t2 F2 s2 => ?_)
    have ko2 : KO (Wr L y) h₁ h2 := (KO.refl h₁).but s2 (.inl rfl)
    refine wpAny_execs_cons (wpAny_If (wpAny_isTrue_Compare1 (nm F2 (by walk_at "mem") (nm F2 (by walk_at "mem") (PySem.P.eq_int (wpAny_truthy_bool ?_))))))
    split
    · rename_i e
      have e : u = w := by simpa using e
      refine wpAny_execs_cons (wpAny_Continue ⟨h2, t2, rfl, ko2, ko.trans ko2, vo, some (.int u tk), duo, duwo, dvo, ?_⟩)
      rw [hstep, Tbl.trU, if_pos e]; exact F2
    · rename_i e
      have e : u ≠ w := by simpa using e
      refine wpAny_execs_nil ?_
      refine wpAny_execs_cons (wpAny_Assign_Name (Subscript_ (nmc F2.inv.1.2 (nm F2 (by walk_at "mem") (row_itm F2.inv.1.1.d hu fun v1 t1 r1 => ?_)))))
      cases r1
      refine st16 F2 fun h3 t3 F3 s3 => ?_
      have ko3 := ko2.but s3 (.inl rfl)
      refine wpAny_execs_cons (wpAny_Assign_Name (Subscript_ (nm F3 (by walk_at "mem") (nm F3 (by walk_at "mem") (row_itm (F3.inv.1.1.drow u hu) hwN fun qv t4 rq => ?_)))))
      refine st17 F3 fun h4 t4 F4 s4 => ?_
      have ko4 := ko3.but s4 (.inl rfl)
      obtain ⟨ti, rfl, _⟩ := hiv
      refine wpAny_execs_cons (wpAny_If (wpAny_isTrue_Compare1 (nm F4 (by walk_at "mem") (nm F4 (by walk_at "mem") (eq_inf rq (wpAny_truthy_bool ?_))))))
      split
      · rename_i en
        have en : σ.D u w = none := by simpa using en
        refine wpAny_execs_cons (wpAny_Continue ⟨h4, t4, rfl, ko4, ko.trans ko4, vo, some (.int u tk), some (.ref (y.dr u)), some qv, dvo, ?_⟩)
        rw [hstep, Tbl.trU, if_neg e, if_pos en]; exact F4
      · rename_i en
        have en : σ.D u w ≠ none := by simpa using en
        obtain ⟨safe', fin'⟩ := sf.run e en
        refine wpAny_execs_nil ?_
        have fin2 : ∀ (vv : Value) t5, optV (d.dget w) vv → wpAny (model prog wd) A (storeName (trEnv cd L f) "v" vv) (fun _ s' => wpAny (model prog wd) A (execs [at' (dFor (trs 8)) 5] (trEnv cd L f)) (Turn c (Wr L y) h₁ Q (fun h' t' => KO (Wr L y) h h' ∧ ∃ vo uo duo duwo dvo, Fn (trEnv cd L f) hB (TrP prog wd L y (σ.trU w d u) ow lo o sa da ka d) h' (trl g y.pd wv (.float inf64 ti) w tw (y.pr w) po (some (.ref ow)) vo so (some (.ref da)) (some (.ref ka)) no nno (some (.ref (y.dr w))) uo duo duwo dvo))) NE s') NE (mk c h4 t5) := by
          intro vv t5 hvv
          refine st8 F4 fun h6 t6 F6 s6 => ?_
          have ko6 := ko4.but s6 (.inl rfl)
          refine wpAny_execs_cons (tr_walk (x₀ := ⟨σ, d.dget w⟩) ok ap fr ob hL hM hw hwN hu rq sf.fq safe' fin' hvv rfl F6 fun h7 t7 vv7 dvo7 ko7 F7 => ?_)
          refine wpAny_execs_nil ⟨h7, t7, rfl, ko6.trans ko7, (ko.trans ko6).trans ko7, some vv7, some (.int u tk), some (.ref (y.dr u)), some qv, dvo7, ?_⟩
          rw [Tbl.trU, if_neg e, if_neg en]; exact F7
        rw [← hstep] at fin2
        refine wpAny_execs_cons (wpAny_Assign_Name (MethodCall_ (nm F4 (by walk_at "mem") (getmk PySem.F.slot_dict_get PySem.F.type_dict_get F4.inv.2.2.2.1 (callWith_builtin rfl (evalArgs_plain (args_cons (nm F4 (by walk_at "mem") (args_cons (wpAny_Constant_none (args_nil
          (get2_m (i := some w) (knd := optKind prog wd) (by simp [optKind, isOI]) F4.inv.2.2.2.1 (fun hm vv' t' r => ?_) (fun hm t' => ?_)))))))))))))
        · obtain ⟨tz, rfl⟩ := r
          exact fin2 _ _ (by unfold DS.dget; rw [if_pos hm]; simp [optV, isOI])
        · exact fin2 _ _ (by unfold DS.dget; rw [if_neg hm]; rfl)
  · rintro h' t' ⟨ko, vo, uo, duo, duwo, dvo, F1⟩
    exact hQ h' t' vo uo duo duwo dvo ko F1
end
end Mine
end
section
open PySem PySem.W PyProof.Rows PySem.Calls
set_option maxRecDepth 100000
namespace Mine
local macro_rules | `(tactic| walk_at "mem") => `(tactic| with_reducible (first | exact List.mem_cons_self | (refine List.mem_cons_of_mem _ ?_; walk_at "mem")))

theorem KO.drop {W V : Addr → Prop} {a b c : Heap} (x : KO W a b) (y : KO V b c) (s : ∀ p, V p → W p ∨ a.objs.size ≤ p) : KO W a c := fun p o n e => y p o (fun q => by
  rcases s p q with z | z
  · exact n z
  · exact Nat.lt_irrefl _ (Nat.lt_of_lt_of_le (Heap.lt_size e) z)) (x p o n e)

abbrev trlo (g pd : Addr) (wv iv : Value) (wo pwo po oo vo so dfo sko no nno dwo uo duo duwo dvo : Option Value) : List (Str × Option Value) :=
  [("G", some (.ref g)), ("weight", some wv), ("inf", some iv), ("pred", some (.ref pd)), ("w", wo), ("pred_w", pwo), ("parent", po), ("out_w", oo), ("v", vo), ("stack", so), ("dfs_dict", dfo), ("skip_dict", sko), ("node", no), ("next_node", nno), ("dist_w", dwo), ("u", uo), ("dist_u", duo), ("dist_uw", duwo), ("dist_uwv", dvo)]
theorem dobj_of {n0 : Nat} {N : List Int} {ow sa da ka : Addr} {lo : Int → Addr} (h0 : n0 ≤ sa) (h1 : da = sa + 1) (h2 : ka = sa + 2) (hb : ∀ b, (b = ow ∨ ∃ i ∈ N, b = lo i) → b < sa) : DObj n0 N ow lo sa da ka := by
  subst h1; subst h2
  have l1 : sa < sa + 1 := Nat.lt_succ_self _
  have l2 : sa < sa + 2 := Nat.lt_add_of_pos_right (by decide)
  have l3 : sa + 1 < sa + 2 := Nat.lt_succ_self _
  refine ⟨h0, Nat.le_trans h0 (Nat.le_of_lt l1), Nat.le_trans h0 (Nat.le_of_lt l2), Nat.ne_of_lt l1, Nat.ne_of_lt l2, Nat.ne_of_lt l3, ?_, fun i hi => ?_⟩
  · have q := hb ow (.inl rfl); exact ⟨Nat.ne_of_lt q, Nat.ne_of_lt (Nat.lt_trans q l1), Nat.ne_of_lt (Nat.lt_trans q l2)⟩
  · have q := hb _ (.inr ⟨i, hi, rfl⟩); exact ⟨Nat.ne_of_lt q, Nat.ne_of_lt (Nat.lt_trans q l1), Nat.ne_of_lt (Nat.lt_trans q l2)⟩
/-- one w of the form over trees -/
def Tbl.dfs (s : Tbl) (w : Int) : DS := iter (dstep (kids w (s.P w) (s.K w))) 1000 (DS.start w)
def Tbl.trW (N : List Int) (s : Tbl) (w : Int) : Tbl := s.runTU w (s.dfs w) N
def Tbl.runTW (N : List Int) (s : Tbl) (ws : List Int) : Tbl := ws.foldl (fun s w => s.trW N w) s
structure WSafe (N prk : List Int) (s : Tbl) (w : Int) : Prop where
  par : ∀ v ∈ s.K w, v ≠ w → s.P w v ∈ N
  len : (s.K w).length ≤ 1000
  dfs : ∀ k, DSafe N (kids w (s.P w) (s.K w)) (iter (dstep (kids w (s.P w) (s.K w))) k (DS.start w))
  fin : (s.dfs w).T = []
  us : ∀ p u r, N = p ++ u :: r → USafe N prk w (s.dfs w) (s.runTU w (s.dfs w) p) u

section
variable {prog : Program} {wd : World} {A : Around} {c : Cst} {hB h : Heap} {t : Nat} {L f g nd : Addr} {cd wv iv : Value} {y : Lay}

theorem tr_body {s : Tbl} {w : Int} {tw : Tok} {po oo vo so dfo sko no nno dwo uo duo duwo dvo : Option Value} {Q : Flow → Shared → Prop} (hA : A.handled = none) (hroom : A.depth + 1 < recursionLimit)
    (GG : GIter prog wd c hB g nd y.N) (hnd : nd < hB.objs.size) (hsm : sysModules < hB.objs.size) (ndp : y.N.Nodup)
    (ok : y.Ok) (ap : Apart hB L y) (hw : w ∈ y.prk) (hwN : w ∈ y.N) (hiv : RE iv none) (sf : WSafe y.N y.prk s w)
    (F : Fn (trEnv cd L f) hB (MC prog wd L y s) h (trl g y.pd wv iv w tw (y.pr w) po oo vo so dfo sko no nno dwo uo duo duwo dvo))
    (hQ : ∀ h' t' po oo vo so dfo sko no nno dwo uo duo duwo dvo, KO (Wr L y) h h' → Fn (trEnv cd L f) hB (MC prog wd L y (s.trW y.N w)) h' (trl g y.pd wv iv w tw (y.pr w) po oo vo so dfo sko no nno dwo uo duo duwo dvo) → Q .next (mk c h' t')) :
    wpAny (model prog wd) A (execs (dFor trW) (trEnv cd L f)) Q NE (mk c h t) := by
  have hbig : hB.objs.size ≤ h.objs.size := Nat.le_of_lt (Nat.lt_of_le_of_lt F.above F.loc.lt)
  have hM := F.inv.lt
  have hL := F.loc.lt
  have dep0 : Dep (fun b => b < h.objs.size ∧ b ≠ L) (MC prog wd L y s) := MC.dep.mono fun b x => ⟨hM b x, fun z => by
    rcases x with x | x | x | x
    · exact absurd (z.symm.trans x) (Nat.ne_of_lt (Nat.lt_succ_self _))
    · exact ap.dd (x.symm.trans z)
    · exact ap.pd (x.symm.trans z)
    · exact (ap.row _ x).2.1 z⟩
  refine wpAny_execs_cons (tr_out (l₁ := [("G", some (.ref g)), ("weight", some wv), ("inf", some iv), ("pred", some (.ref y.pd)), ("w", some (.int w tw)), ("pred_w", some (.ref (y.pr w))), ("parent", po)]) (n0 := h.objs.size) hA hroom GG ndp ok.len hsm (Nat.le_refl _) dep0 F (.head _) fun h1 t1 ow lo fr k1 hout F1 => ?_)
  have ko1 : KO (Wr L y) h h1 := fun b o n e => k1 b o (fun z => n (.inl z)) e
  have stbO : ∀ o, Stb L (fun h => MC prog wd L y s h ∧ OutW prog wd y.N ow lo o h) := fun o => Stb.and (MC.stb ap) (OutW.dep.stb fun z => by
    rcases z with z | ⟨i, hi, z⟩
    · exact absurd z (Nat.ne_of_lt (Nat.lt_of_lt_of_le hL fr.o1))
    · exact absurd z (Nat.ne_of_lt (Nat.lt_of_lt_of_le hL (fr.l1 i hi).1)))
  refine wpAny_execs_cons (tr_kids hA hw ap fr hL hbig hM sf.par sf.len (F1.say ⟨F1.inv, hout⟩ (stbO _)) fun h2 t2 po2 vo2 k2 F2 => ?_)
  have ko2 : KO (Wr L y) h h2 := ko1.drop k2 fun p q => by
    rcases q with q | ⟨i, hi, q⟩
    · exact .inl (.inl q)
    · exact .inr (q ▸ (fr.l1 i hi).1)
  have hsz2 : h.objs.size ≤ h2.objs.size := by
    have := F2.inv.2.1.lt
    exact Nat.le_of_lt (Nat.lt_of_le_of_lt fr.o1 this)
  -- stack
  refine wpAny_execs_cons (wpAny_Assign_Name (List_ (wpAny_items_cons (nm F2 (by walk_at "mem") (wpAny_items_nil (newList_m ?_ (sz_of (by simp))))))))
  have hi3 : IsInts (h2.push { cls := .type "list", data := .seq [Value.int w tw].toArray }) h2.objs.size [w] := IsInts.new h2 (.cons _ _ .nil)
  refine st9 (F2.push _) fun h3 t3 F3 s3 => ?_
  generalize hsa : h2.objs.size = sa at hi3 F3
  have hsaL : sa ≠ L := hsa ▸ Nat.ne_of_gt F2.loc.lt
  have i3 : IsInts h3 sa [w] := hi3.at fun o e => s3.extBut _ o hsaL e
  have ko3 : KO (Wr L y) h h3 := (ko2.keep (Keep.push _ _)).but s3 (.inl rfl)
  have hsz3 : h3.objs.size = sa + 1 := by rw [s3.1, Heap.size_push, hsa]
  have hsm3 : sysModules < h3.objs.size := Nat.lt_of_lt_of_le hsm (Nat.le_trans hbig (by rw [hsz3, ← hsa]; exact Nat.le_trans hsz2 (Nat.le_succ _)))
  -- dfs_dict
  refine wpAny_execs_cons (wpAny_Assign_Name (wpAny_Dict_empty ?_))
  have hr4 : RowK (optKind prog wd) RI (h3.push { cls := .type "dict", data := .dict #[] }) h3.objs.size [] (fun _ => 0) := RowK.new hsm3
  refine st10 (F3.push _) fun h4 t4 F4 s4 => ?_
  generalize hda : h3.objs.size = da at hr4 F4
  have hdaL : da ≠ L := hda ▸ Nat.ne_of_gt F3.loc.lt
  have r4 : RowK (optKind prog wd) RI h4 da [] (fun _ => 0) := hr4.at fun o e => s4.extBut _ o hdaL e
  have i4 : IsInts h4 sa [w] := i3.at fun o e => s4.extBut _ o hsaL (Heap.get?_push_of_some _ e)
  have ko4 : KO (Wr L y) h h4 := (ko3.keep (Keep.push _ _)).but s4 (.inl rfl)
  have hsz4 : h4.objs.size = da + 1 := by rw [s4.1, Heap.size_push, hda]
  have hsm4 : sysModules < h4.objs.size := by rw [hsz4, ← hda]; exact Nat.lt_succ_of_lt hsm3
  -- skip_dict
  refine wpAny_execs_cons (wpAny_Assign_Name (wpAny_Dict_empty ?_))
  have hr5 : Row prog wd RI (h4.push { cls := .type "dict", data := .dict #[] }) h4.objs.size [] (fun _ => 0) := RowK.new hsm4
  refine st11 (F4.push _) fun h5 t5 F5 s5 => ?_
  generalize hka : h4.objs.size = ka at hr5 F5
  have hkaL : ka ≠ L := hka ▸ Nat.ne_of_gt F4.loc.lt
  have r5 : Row prog wd RI h5 ka [] (fun _ => 0) := hr5.at fun o e => s5.extBut _ o hkaL e
  have d5 : RowK (optKind prog wd) RI h5 da [] (fun _ => 0) := r4.at fun o e => s5.extBut _ o hdaL (Heap.get?_push_of_some _ e)
  have i5 : IsInts h5 sa [w] := i4.at fun o e => s5.extBut _ o hsaL (Heap.get?_push_of_some _ e)
  have ko5 : KO (Wr L y) h h5 := (ko4.keep (Keep.push _ _)).but s5 (.inl rfl)
  -- node
  refine wpAny_execs_cons (wpAny_Assign_Name (wpAny_Constant_none (st12 F5 fun h6 t6 F6 s6 => ?_)))
  have i6 : IsInts h6 sa [w] := i5.at fun o e => s6.extBut _ o hsaL e
  have d6 : RowK (optKind prog wd) RI h6 da [] (fun _ => 0) := d5.at fun o e => s6.extBut _ o hdaL e
  have r6 : Row prog wd RI h6 ka [] (fun _ => 0) := r5.at fun o e => s6.extBut _ o hkaL e
  have ko6 : KO (Wr L y) h h6 := ko5.but s6 (.inl rfl)
  have hda1 : da = sa + 1 := by rw [← hda, hsz3]
  have hka1 : ka = sa + 2 := by rw [← hka, hsz4, hda1]
  have hlo2 : ∀ b, (b = ow ∨ ∃ i ∈ y.N, b = lo i) → b < sa := fun b hb => by rw [← hsa]; exact F2.inv.2.lt b hb
  have ob : DObj h.objs.size y.N ow lo sa da ka := dobj_of (hsa ▸ hsz2) hda1 hka1 hlo2
  have F6' : Fn (trEnv cd L f) hB (TrP prog wd L y s ow lo (kids w (s.P w) (s.K w)) sa da ka (DS.start w)) h6 _ := F6.say ⟨F6.inv.1, F6.inv.2, i6, d6, r6⟩ (TrP.stb ap fr ob hL)
  refine wpAny_execs_cons (tr_while ap fr ob hL hbig hM sf.dfs sf.fin (by rfl) F6' fun h7 t7 nv7 nno7 k7 F7 => ?_)
  have ko7 : KO (Wr L y) h h7 := ko6.drop k7 fun p q => by
    rcases q with q | q | q | q
    · exact .inl (.inl q)
    · exact .inr (q ▸ ob.s0)
    · exact .inr (q ▸ ob.d0)
    · exact .inr (q ▸ ob.k0)
  refine wpAny_execs_cons (wpAny_Assign_Name (Subscript_ (nmc F7.inv.1.2 (nm F7 (by walk_at "mem") (row_itm F7.inv.1.1.d hwN fun v8 t8 r8 => ?_)))))
  cases r8
  refine st14 F7 fun h9 t9 F9 s9 => ?_
  have ko9 := ko7.but s9 (.inl rfl)
  refine wpAny_execs_cons (tr_u hA hroom GG hnd ok ap fr ob hL hM hw hwN hiv sf.us F9 fun h' t' vo uo duo duwo dvo k' F' => ?_)
  exact wpAny_execs_nil (hQ h' t' _ _ _ _ _ _ _ _ _ _ _ _ _ (ko9.trans k') (F'.say F'.inv.1 (MC.stb ap)))

theorem tr_w {s : Tbl} {wo pwo po oo vo so dfo sko no nno dwo uo duo duwo dvo : Option Value} {Q : Flow → Shared → Prop} (hA : A.handled = none) (hroom : A.depth + 1 < recursionLimit)
    (GG : GIter prog wd c hB g nd y.N) (hnd : nd < hB.objs.size) (hsm : sysModules < hB.objs.size) (ndp : y.N.Nodup)
    (ok : y.Ok) (ap : Apart hB L y) (hpN : ∀ w ∈ y.prk, w ∈ y.N) (hiv : RE iv none) (safe : ∀ p w r, y.prk = p ++ w :: r → WSafe y.N y.prk (s.runTW y.N p) w)
    (F : Fn (trEnv cd L f) hB (MC prog wd L y s) h (trlo g y.pd wv iv wo pwo po oo vo so dfo sko no nno dwo uo duo duwo dvo))
    (hQ : ∀ h' t' wo pwo po oo vo so dfo sko no nno dwo uo duo duwo dvo, KO (Wr L y) h h' → Fn (trEnv cd L f) hB (MC prog wd L y (s.runTW y.N y.prk)) h' (trlo g y.pd wv iv wo pwo po oo vo so dfo sko no nno dwo uo duo duwo dvo) → Q .next (mk c h' t')) :
    wpAny (model prog wd) A (exec trW (trEnv cd L f)) Q NE (mk c h t) := by
  refine for_items (c := c) (R := RR) (knd := intKind prog wd) hA (Wr L y) (MethodCall_ (nm F (by walk_at "mem") (getmk PySem.F.slot_dict_items PySem.F.type_dict_items F.inv.1.p (callWith_builtin rfl (PySem.evalArgs_none (items_m F.inv.1.p fun hv => ?_))))))
  have F0 := F.push { cls := .type "dict_items", data := .fields #[.ref y.pd] }
  refine ⟨_, _, _, y.pd, y.prk, y.pr, fun p r h' t' => KO (Wr L y) h h' ∧ ∃ wo pwo po oo vo so dfo sko no nno dwo uo duo duwo dvo, Fn (trEnv cd L f) hB (MC prog wd L y (s.runTW y.N p)) h' (trlo g y.pd wv iv wo pwo po oo vo so dfo sko no nno dwo uo duo duwo dvo),
    rfl, rfl, hv, F0.inv.1.p, ?_, ?_, ⟨(Keep.push _ _).ko, wo, pwo, po, oo, vo, so, dfo, sko, no, nno, dwo, uo, duo, duwo, dvo, F0⟩, ?_, ?_, ?_⟩
  · rintro (q | q)
    · exact ap.pd q
    · exact ok.opd q
  · exact fun hb => Nat.lt_irrefl _ (Wr.lt F0 _ hb)
  · rintro p r h1 t1 h' t' e ⟨ko, wo, pwo, po, oo, vo, so, dfo, sko, no, nno, dwo, uo, duo, duwo, dvo, F1⟩
    exact ⟨ko.ext e (by rw [Heap.size_push]; exact Nat.le_succ _), wo, pwo, po, oo, vo, so, dfo, sko, no, nno, dwo, uo, duo, duwo, dvo, MC.off F1 F0.inv.lt F0.loc.lt (Nat.le_of_lt (Nat.lt_of_le_of_lt F0.above F0.loc.lt)) (Nat.le_refl _) e⟩
  · rintro p w r h1 t1 hN _ ⟨ko, wo, pwo, po, oo, vo, so, dfo, sko, no, nno, dwo, uo, duo, duwo, dvo, F1⟩ key v hkey hv
    have hw : w ∈ y.prk := by rw [hN]; simp
    obtain ⟨tw, rfl⟩ : ∃ tk, key = .int w tk := by
      cases key <;> simp [intKind, Value.isInt] at hkey
      subst hkey; exact ⟨_, rfl⟩
    cases hv
    have sf := safe p w r hN
    have hstep : s.runTW y.N (p ++ [w]) = (s.runTW y.N p).trW y.N w := by simp [Tbl.runTW]
    generalize s.runTW y.N p = σ at F1 sf hstep
    refine st4 F1 fun h2 t2 F2 s2 => st5 F2 fun h3 t3 F3 s3 => ?_
    have ko3 : KO (Wr L y) h1 h3 := ((KO.refl h1).but s2 (.inl rfl)).but s3 (.inl rfl)
    refine tr_body hA hroom GG hnd hsm ndp ok ap hw (hpN w hw) hiv sf F3 fun h' t' po oo vo so dfo sko no nno dwo uo duo duwo dvo k' F' => ?_
    refine ⟨h', t', rfl, ko3.trans k', (ko.trans ko3).trans k', some (.int w tw), some (.ref (y.pr w)), po, oo, vo, so, dfo, sko, no, nno, dwo, uo, duo, duwo, dvo, ?_⟩
    rw [hstep]; exact F'
  · rintro h' t' ⟨ko, wo, pwo, po, oo, vo, so, dfo, sko, no, nno, dwo, uo, duo, duwo, dvo, F1⟩
    exact hQ h' t' wo pwo po oo vo so dfo sko no nno dwo uo duo duwo dvo ko F1
end
end Mine
end
section
open PySem PySem.W PyProof.Rows PySem.Calls
set_option maxRecDepth 100000
namespace Mine
local macro_rules | `(tactic| walk_at "mem") => `(tactic| with_reducible (first | exact List.mem_cons_self | (refine List.mem_cons_of_mem _ ?_; walk_at "mem")))

theorem any_opt (B : List Int) (q : Int → Bool) : (List.range B.length).any (fun j => (B[j]?.map q).getD false) = B.any q := by
  rw [← any_rangeD B q]
  congr 1
  funext j
  cases B[j]? <;> rfl
/-- a code's table of nested codes -/
structure CodeT (h : Heap) (c P : Addr) (ps : Array Value) : Prop where
  hd : CodeHd h c P
  tab : h.get? P = some (tabObj ps)
  tri : TriplesOk ps.toList
theorem tab_ne_ns {h : Heap} {P a : Addr} {ps : Array Value} {m} (e : h.get? P = some (tabObj ps)) (x : h.Ns a m) : a ≠ P := fun q => by
  obtain ⟨o, es, ep, ho, hd, _⟩ := x
  rw [q, e] at ho; cases ho; cases hd

/-- a state, its tokens as they are -/
abbrev mk0 (c : Cst) (h : Heap) (t : Nat) : Shared := ⟨h, c.g, c.d, t, c.o⟩
section
variable {prog : Program} {w : World} {A : Around} {c : Cst} {h : Heap} {t : Nat} {E : Value → Shared → Prop} {Q : Value → Shared → Prop}
theorem with_toks_ne {α : Type} {M : Model} {A : Around} {x : Sem α} {Q : α → Shared → Prop} {n : Nat} {s : Shared} (hn : n ≤ s.toks) (k : wpAny M A x (fun a s' => n ≤ s'.toks → Q a s') NE s) : wpAny M A x Q NE s :=
  wpAny_mono (wpAny_toks_of hn k) (fun _ _ x => x.2 x.1) (fun _ _ x => x.2)
theorem nmf0 {env : Env} {x : Str} {pos : Pos} {q : Addr} {v : Value} (hv : h.IsCell q (some v)) (k : Q v (mk0 c h t)) (hc : env.cells.lookup x = some q := by rfl) (hk : env.scope.kind = .function := by rfl) (hl : env.kindOf x = some .free := by rfl) (hd : (x == ("__debug__" : Str)) = false := by kernel_rfl)
    (hn : (x == ("__classdict__" : Str)) = false := by kernel_rfl) :
    wpAny (model prog w) A (eval (.Name x pos) env) Q E (mk0 c h t) := wpAny_Name (wpAny_loadName_free (s := mk0 c h t) hk hl hc hv k hn) hd
theorem row_itm0 {α : Type} {R : Value → α → Prop} {d : Addr} {ks : List Int} {f : Int → α} {i : Int} {tk : Tok} {value slice : Expr} (x : Row prog w R h d ks f) (hi : i ∈ ks) (k : ∀ v t', R v (f i) → Q v (mk0 c h t'))
    (hs : subscripted slice false (.ref d) (.int i tk) = operate [.ref d, .int i tk] (getItem (.ref d) (.int i tk)) := by with_unfolding_all rfl) :
    wpAny (model prog w) A (subscriptTail value slice (.ref d) (.int i tk)) Q E (mk0 c h t) :=
  let ⟨_, v, q, hv, r⟩ := x.get hi
  subscriptTail_builtinR (s := mk0 c h t) (x := v) (Heap.MapOf.typeIs (s := mk0 c h t) q.mapOf) slot_dict_getitem.lookup (wpAny_getItem_of (s := mk0 c h t) (intKind_is prog w i tk) q.mapOf hv ⟨rfl, k v _ r⟩) hs
theorem lt_zero0 {tk : Tok} {a : Value} {x : Option Int} (ha : RE a x) (k : Q (.bool (ltE x (some 0))) (mk0 c h t)) : wpAny (model prog w) A (compareOp .Lt a (.int 0 tk)) Q E (mk0 c h t) := by
  cases x with
  | some m => obtain ⟨t1, rfl⟩ := ha; exact PySem.P.lt_int k
  | none => obtain ⟨t1, rfl, _⟩ := ha; exact lt_fi (s := mk0 c h t) (by rw [cmp_inf]; exact k)
end
section
variable {prog : Program} {wd : World} {A : Around} {env : Env} {c : Cst} {h : Heap} {t : Nat}
theorem GIter.walkAll {h0 : Heap} {g nd : Addr} {N : List Int} {Q : Value → Shared → Prop} (G : GIter prog wd c h0 g nd N) (hA : A.handled = none) (hroom : A.depth + 1 < recursionLimit) (k : Keep h0 h)
    (hQ : ∀ h' t' I fp P St, Keep h h' → h.objs.size ≤ I → I < h'.objs.size → (∀ A' : Around, A'.handled = none → Walks prog wd A' I fp [I] N.length P St) → St 0 h' → (∀ b ∈ fp, b < h'.objs.size ∧ (b = I ∨ b = nd)) → (∀ i v, P i v → ∃ n tk, N[i]? = some n ∧ v = .int n tk) → Q (.ref I) (mk c h' t')) :
    wpAny (model prog wd) A (pyIter (.ref g)) Q NE (mk c h t) := by
  refine G A h t _ hA hroom k fun h' t' I ep kvs hk hI1 hI2 hnd hit hat hks => ?_
  have hne : nd ≠ I := Nat.ne_of_lt (Nat.lt_of_lt_of_le hnd hI1)
  have hlen : N.length = kvs.length := by rw [← hks, List.length_map]
  rw [hlen] at hQ
  refine hQ h' t' I [I, nd] _ _ hk hI1 hI2 (fun A' hA' => Walks.dictKeys (knd := intKind prog wd) hA' I nd hne kvs ep) ⟨hit, hat⟩ (fun b hb => ?_) (fun i v hv => ?_)
  · rcases List.mem_cons.mp hb with rfl | hb
    · exact ⟨hI2, .inl rfl⟩
    · rw [List.mem_singleton.mp hb]; exact ⟨hat.lt_size, .inr rfl⟩
  · obtain ⟨k, x, hx, hkey⟩ := hv
    cases v <;> simp [intKind, Value.isInt] at hkey
    subst hkey
    refine ⟨_, _, ?_, rfl⟩
    rw [← hks, List.getElem?_map, hx]; rfl

/-- any(dist[u][u] < 0 for u in G) -/
theorem any_neg {p1 p2 p3 p4 p5 p6 p7 p8 p9 pos : Pos} {kk : Nat} {scope : Scope} {cc P g nd q : Addr} {ps : Array Value} {hB : Heap} {y : Lay} {s : Tbl} {Q : Value → Shared → Prop}
    (hA : A.handled = none) (hroom : A.depth + 1 < recursionLimit) (GG : GIter prog wd c hB g nd y.N) (kB : Keep hB h) (G : Gl h) (hgb : AllBare c.g)
    (ct : CodeT h cc P ps) (hPnd : P ≠ nd) (hPdd : P ≠ y.dd) (hProw : ¬ y.row P) (hPq : P ≠ q) (hcode : env.code = .ref cc) (hnf : codeAmong pos ps.toList = none)
    (hG : ∀ (Q' : Value → Shared → Prop), Q' (.ref g) (mk c h t) → wpAny (model prog wd) A (eval (.Name "G" p9) env) Q' NE (mk c h t))
    (hM : Mats prog wd y s h) (hq : h.IsCell q (some (.ref y.dd)))
    (hQ : ∀ h' t' g' a n, AllBare g' → KO (fun b => b = P) h h' → h'.get? P = some (tabObj (ps ++ #[rawInt pos.line, rawInt pos.col, .ref n])) → h.objs.size ≤ a → a < h'.objs.size →
      (∀ Q' : Value → Shared → Prop, (∀ h'' t'' g'', AllBare g'' → (∀ b o, b < h.objs.size → h'.get? b = some o → h''.get? b = some o) → Q' (.bool (y.N.any fun u => ltE (s.D u u) (some 0))) (mk { c with g := g'' } h'' t'')) → wpAny (model prog wd) A (call (.builtin "any") [.ref a]) Q' NE (mk { c with g := g' } h' t')) → Q (.ref a) (mk { c with g := g' } h' t'))
    (hco : scope.isCoroutine = false := by rfl) (hclos : closureFor scope env = pure [(("dist" : Str), q)] := by rfl) (hcell : (scope.names.all fun y => !(y.2 == .cell)) = true := by rfl) (h0 : scope.names.lookup (".0" : Str) = some NameKind.local := by rfl)
    (hx : scope.names.lookup ("u" : Str) = some .local := by rfl) (hfree : scope.names.lookup ("dist" : Str) = some .free := by rfl) (hkind : scope.kind = .function := by rfl) (hgl : env.globals = mainGlobals := by rfl) (hs : ∀ x, genFold (.Name "G" p9) env x = pure x := by intro _; rfl) :
    wpAny (model prog wd) A (eval (.GeneratorExp (.Compare (.Subscript (.Subscript (.Name "dist" p1) (.Name "u" p2) p3) (.Name "u" p4) p5) [.Lt] [.Constant (.int 0) kk p6] p7) [⟨.Name "u" p8, .Name "G" p9, [], 0⟩] scope pos) env) Q NE (mk c h t) := by
  refine with_toks_ne (n := t + 1) (s := mk c h t) (Nat.le_refl _) ?_
  refine wpAny_GeneratorExp_walksQ hA hco hclos (fun y hy e => ?_) h0 hx hkind (Nat.lt_of_succ_lt hroom) (hG _ (GG.walkAll hA hroom kB fun h2 t2 I fp Pw St k2 hI1 hI2 W st hfp hv => ?_)) hs
  · have := List.all_eq_true.mp hcell y hy; rw [e] at this; cases this
  have hlim2 := G.nolimit.keeps k2
  refine ⟨hlim2, ?_⟩
  have hP2 : h2.get? P = some (tabObj ps) := k2 _ _ ct.tab
  have C2 := ct.hd.keeps k2
  refine wpAny_genexprCodeX (s := mk c h2 t2) hcode (C2.code hP2 ct.tri) (C2.tab hP2) hnf fun c' h3 tk3 hx3 hge hlt hcode3 _ htab3 _ => ?_
  have hx3 : Heap.ExtBut P h2 h3 := hx3
  have hsz : h2.objs.size ≤ h3.objs.size := Nat.le_of_lt (Nat.lt_of_le_of_lt hge hlt)
  obtain ⟨mg, bm, ob, b1, b2, b3, b4, b5, b6, b7, b8⟩ := G.bi
  have hgP := tab_ne_ns ct.tab b1
  have hbP : bm ≠ P := fun z => by rw [z, ct.tab] at b5; cases b5; cases b6
  have b1' : h3.Ns env.globals mg := by rw [hgl]; exact (b1.keeps k2).extBut hx3 hgP
  refine wpAny_builtinsFor (s := mk0 c h3 tk3) b1' b2 b3 (hx3 _ _ hbP (k2 _ _ b5)) b6 b7 b8 ?_
  have hcS : cStatics ≠ P := by
    obtain ⟨_, hns, _⟩ := G.nolimit
    exact tab_ne_ns ct.tab hns
  have hlim3 := hlim2.extBut hx3 hcS
  have hIP : I ≠ P := Nat.ne_of_gt (Nat.lt_of_lt_of_le (Heap.lt_size ct.tab) hI1)
  have hcSI : cStatics ∉ [I] := fun m => by
    have e := List.mem_singleton.mp m
    obtain ⟨_, hns, _⟩ := G.nolimit
    exact absurd (e ▸ hns.lt) (Nat.not_lt.mpr hI1)
  have M3 : Mats prog wd y s h3 := Mats.dep h h3 (fun b o hb e => hx3 b o (fun z => by
    subst z
    rcases hb with z | z | z
    · exact hPdd z
    · obtain ⟨_, _, ⟨_, _, _, ho, ⟨hc, _⟩, _⟩, _⟩ := hM.p
      rw [← z, ct.tab] at ho; cases ho; cases hc
    · exact hProw z) (k2 b o e)) hM
  have q3 : h3.IsCell q (some (.ref y.dd)) := let ⟨o, e, r⟩ := hq; ⟨o, hx3 _ _ hPq.symm (k2 _ _ e), r⟩
  have hst3 : St 0 h3 := (W A hA).frame 0 h2 h3 st fun b hb o e => hx3 b o (fun z => by
    rcases (hfp b hb).2 with w | w
    · exact hIP (w.symm.trans z)
    · exact hPnd (z.symm.trans w)) e
  have hMlt : ∀ b, (b = q ∨ b = y.dd ∨ b = y.pd ∨ y.row b) → b < h.objs.size := by
    rintro b (rfl | rfl | rfl | x | x)
    · obtain ⟨_, e, _⟩ := hq; exact Heap.lt_size e
    · exact hM.d.lt
    · exact hM.p.lt
    · obtain ⟨i, hi, rfl⟩ := x; exact (hM.drow i hi).lt
    · obtain ⟨i, hi, rfl⟩ := x; exact (hM.prow i hi).lt
  refine ⟨I, fp, [I], y.N.length, Pw, St, fun _ => true, fun i v => ∃ n, y.N[i]? = some n ∧ v = .bool (ltE (s.D n n) (some 0)), rfl, W, hst3, fun b hb => Nat.lt_of_lt_of_le (hfp b hb).1 hsz, hlim3, hcSI, fun href hhref => ⟨?_, ?_⟩, ?_⟩
  · intro A' E' i v s₂ m₂ _ _ _ _ _
    exact wpAny_pure ⟨rfl, s₂.heap, s₂.toks, rfl, fun _ _ e => e⟩
  · intro A' E' i v s₂ m₂ hA' hPi _ hns hm hk
    obtain ⟨n, tk, hn, rfl⟩ := hv i v hPi
    have hnN : n ∈ y.N := List.mem_of_getElem? hn
    have e₂ : s₂ = mk0 ⟨s₂.gens, s₂.drawn, s₂.os⟩ s₂.heap s₂.toks := rfl
    have hk' : ∀ b o, b < h.objs.size → h3.get? b = some o → s₂.heap.get? b = some o := fun b o hb e => hk b (List.mem_range.mpr (Heap.lt_size e)) (fun z => Nat.lt_irrefl _ (Nat.lt_of_lt_of_le ((List.mem_singleton.mp z) ▸ hb) hI1)) o (hhref b o e)
    have M4 : Mats prog wd y s s₂.heap := Mats.dep h3 s₂.heap (fun b o hb e => hk' b o (hMlt b (.inr hb)) e) M3
    have q4 : s₂.heap.IsCell q (some (.ref y.dd)) := let ⟨o, e, r⟩ := q3; ⟨o, hk' _ _ (hMlt q (.inl rfl)) e, r⟩
    have nmu : ∀ {Q' : Value → Shared → Prop} {pp : Pos} {tt : Nat}, Q' (.int n tk) (mk0 ⟨s₂.gens, s₂.drawn, s₂.os⟩ s₂.heap tt) → wpAny (model prog wd) A' (eval (.Name "u" pp) (genEnv scope [(("dist" : Str), q)] h3.objs.size (.ref c') builtinsNs env)) Q' E' (mk0 ⟨s₂.gens, s₂.drawn, s₂.os⟩ s₂.heap tt) := fun kq =>
      wpAny_Name (wpAny_loadName_local hkind hx hns hm kq) (by kernel_rfl)
    rw [e₂]
    refine wpAny_Compare1 (Subscript_ (Subscript_ (nmf0 q4 (nmu (row_itm0 M4.d hnN fun v1 t1 r1 => ?_)) (by rfl) hkind hfree)))
    cases r1
    refine nmu (row_itm0 (M4.drow n hnN) hnN fun v2 t2' r2 => ?_)
    refine wpAny_Constant_int (lt_zero0 (c := ⟨s₂.gens, s₂.drawn, s₂.os⟩) (h := s₂.heap) (t := t2' + 1) r2 ?_)
    exact ⟨⟨n, hn, rfl⟩, s₂.heap, _, rfl, fun _ _ e => e⟩
  · intro a h5 tk5 gs hgs hag hsz5 hk5 W5 hat
    have hpass : passing (fun _ => true) y.N.length 0 = List.range y.N.length := by simp [passing]
    rw [hpass] at W5
    have hlen : (List.range y.N.length).length = y.N.length := by simp
    intro htk
    obtain ⟨tk5, rfl⟩ : ∃ m, tk5 = m + 1 := ⟨tk5 - 1, by have : t + 1 ≤ tk5 := htk; omega⟩
    refine hQ h5 tk5 (c.g.push gs) a c' (hgb.push hgs) (fun b o hb e => hk5 b o (hx3 b o hb (k2 b o e))) (hk5 _ _ htab3.2) (Nat.le_of_lt (Nat.lt_of_lt_of_le (Nat.lt_of_le_of_lt hI1 hI2) (Nat.le_trans hsz (Nat.le_of_lt hag)))) (by rw [hsz5]; exact Nat.lt_succ_self _) fun Q' hQ' => ?_
    have W6 := W5.of_in1.of_in1.of_in1
    refine call_any_walkS (W6.self 0 _ _ _ hat ⟨a, _, _, _, _, _, _, fun j => (y.N[j]?.map fun n => ltE (s.D n n) (some 0)).getD false, rfl, W6, hat, fun j v s' Q2 E2 hj hq2 => ?_, fun s' hm => ?_⟩)
    · obtain ⟨i, hi, n, hn, rfl⟩ := hj
      have hij : i = j := by
        rw [List.getElem?_range] at hi
        · exact (Option.some.inj hi).symm
        · rcases Nat.lt_or_ge j y.N.length with z | z
          · exact z
          · rw [List.getElem?_eq_none (by simpa using z)] at hi; cases hi
      subst hij
      simp only [hn, Option.map_some, Option.getD_some] at hq2
      exact wpAny_truthy_bool hq2
    · rw [hlen]
      rw [any_opt]
      have e' : s' = mk { c with g := s'.gens } s'.heap (s'.toks - 1) := by
        obtain ⟨hh, hg, hd, ho, ht⟩ := hm
        have ht : 1 ≤ s'.toks := Nat.le_trans (Nat.le_add_left 1 _) ht
        have et : s'.toks - 1 + 1 = s'.toks := Nat.sub_add_cancel ht
        cases s'
        simp only [mk] at hd ho et ⊢
        rw [hd, ho, et]
      rw [e']
      refine hQ' _ _ _ ?_ (fun b o hb e => hm.heap b o (fun z => ?_) e)
      · exact AllBare.movedS (AllBare.push hgb hgs) hm
      · have hb2 : b < h2.objs.size := Nat.lt_of_lt_of_le hb (Nat.le_of_lt (Nat.lt_of_le_of_lt hI1 hI2))
        rcases List.mem_cons.mp z with z | z
        · exact absurd z (Nat.ne_of_lt (Nat.lt_of_lt_of_le hb2 hsz))
        · exact Nat.lt_irrefl _ (Nat.lt_of_lt_of_le ((List.mem_singleton.mp z) ▸ hb) hI1)
end
end Mine
end
section
open PySem PySem.W PyProof.Rows PySem.Calls
set_option maxRecDepth 100000
namespace Mine
local macro_rules | `(tactic| walk_at "mem") => `(tactic| with_reducible (first | exact List.mem_cons_self | (refine List.mem_cons_of_mem _ ?_; walk_at "mem")))
abbrev unbBase : List Value := [.type "Exception", .type "BaseException", .type "object"]
def Unb (h : Heap) : Prop := ∃ mg, h.Ns mainGlobals mg ∧ OwnCls "NetworkXUnbounded" 68 unbBase "Exception.__new__" mg h
theorem Unb.keep {h h' : Heap} (x : Unb h) (k : Keep h h') : Unb h' := let ⟨mg, a, b⟩ := x; ⟨mg, a.keeps k, b.keeps k⟩
section
variable {prog : Program} {wd : World} {A : Around} {env : Env} {c : Cst} {h : Heap} {t : Nat} {E : Value → Shared → Prop}
theorem raise_unb {x : Str} {kk : Nat} {np cpos pos p1 : Pos} {Q : Flow → Shared → Prop} (U : Unb h) (hA : A.handled = none)
    (k : ∀ h' e t' tk, Heap.MadeExcOf h h' e (.ref 68) [.str x tk] → E (.ref e) (mk c h' t'))
    (hk : env.scope.kind = .function := by rfl) (hx' : env.kindOf "NetworkXUnbounded" = some .globalImplicit := by rfl) (hg : env.globals = mainGlobals := by rfl) :
    wpAny (model prog wd) A (exec (.Raise (some (.Call (.Name "NetworkXUnbounded" np) [.Constant (.str x) kk p1] [] cpos)) none pos) env) Q E (mk c h t) := by
  obtain ⟨mg, hns, O⟩ := U
  obtain ⟨tl, N, nm, q, bs, hdct, sn, sub, ab, col, dd, k0, k1, k2, k3, k5, mN, hC, hN, hni, T⟩ := O.obj
  refine wpAny_Raise_call_subT (C := 68) (nm := nm) (q := q) (N := N) (bs := bs) (bm := tl) (hdct := hdct) (sn := sn) (sub := sub) (ab := ab) (col := col) (dd := dd) (k0 := k0) (k1 := k1) (k2 := k2) (k3 := k3) (k5 := k5)
    PySem.F.excBase_Exception (mN := mN) (T.hasType PySem.F.excBase_Exception.hasBase) hA (by rfl) hni (Name_function_global hk hx' (loadGlobal_global (mg := mg) (by rw [hg]; exact hns) O.bound ⟨rfl, ?_⟩) (by kernel_rfl))
  refine evalArgs_plain (args_cons (wpAny_Constant_str (args_nil ⟨rfl, by rw [sizeLine_eq]; show 1 ≤ _; decide, hC, hN, T, fun h' e hx => ?_⟩)))
  exact k h' e _ _ hx

/-- the made exception leaves its first frame -/
theorem leave_made {base h1 : Heap} {outer : List Env} {L e : Addr} {args : List Value} {m : Str → Option Value} {Q : Unit → Shared → Prop} (K : Below A base outer h1) (hf : env.frame = some L) (hkd : env.scope.kind ≠ .module) (hLb : base.get? L = none) (hLn : h1.Ns L m)
    (hx : Heap.MadeExcOf h1 h e (.ref 68) args)
    (hQ : ∀ h' a0, Heap.FlyingW base outer e (.ref 68) a0 h' → h1.UpToSlots h' → Q () (mk c h' t)) : wpAny (model prog wd) (A.deeper env) (leaving env (.ref e)) Q E (mk c h t) :=
  wpAny_leaves_madeW (s := mk c h t) (Around.frames_deeper K.stack) hf K.stays (Heap.FunFrames.cons hkd hf hLn hLb K.frames) hx fun h' t' k1 _ _ k4 => hQ h' _ k1 ((Heap.UpToSlots.of_keeps hx.keeps).trans k4)
/-- a flying exception leaves another frame -/
theorem leave_fly {base h1 : Heap} {outer : List Env} {L e : Addr} {a0 : Value} {Q : Unit → Shared → Prop} (hfr : A.frames = some outer) (hf : env.frame = some L) (x : Heap.FlyingW base (env :: outer) e (.ref 68) a0 h) (u : h1.UpToSlots h)
    (hQ : ∀ h', Heap.FlyingW base outer e (.ref 68) a0 h' → h1.UpToSlots h' → Q () (mk c h' t)) : wpAny (model prog wd) (A.deeper env) (leaving env (.ref e)) Q E (mk c h t) :=
  wpAny_leaves_onW (s := mk c h t) (Around.frames_deeper hfr) hf x fun h' k1 k2 => hQ h' k1 (u.trans k2)
/-- the frames below stand -/
theorem Below.mv {base h1 h2 : Heap} {outer : List Env} (K : Below A base outer h1) (ks : Keep base h2) (u : h1.UpToSlots h2) : Below A base outer h2 :=
  ⟨K.stack, ks, K.frames.of_keeps fun b o e n => let ⟨_, q⟩ := u b o e n; ⟨_, q, rfl⟩⟩
theorem KO.slots {W : Addr → Prop} {h1 h2 : Heap} (k : KO W h1 h2) (w : ∀ b o, W b → h1.get? b = some o → ∃ vs, o.data = .fields vs) : h1.UpToSlots h2 := fun b o e n => by
  refine ⟨o.slots, k b o (fun z => ?_) e⟩
  obtain ⟨vs, q⟩ := w b o z e
  exact n vs q
end
end Mine
end
section
open PySem PySem.W PyProof.Rows PySem.Calls
set_option maxRecDepth 100000
namespace Mine
local macro_rules | `(tactic| walk_at "mem") => `(tactic| with_reducible (first | exact List.mem_cons_self | (refine List.mem_cons_of_mem _ ?_; walk_at "mem")))

section
variable {prog : Program} {w : World} {A : Around} {c : Cst} {h : Heap} {t : Nat} {E : Value → Shared → Prop}
theorem kind_callable : builtinKind "callable" = none := by decide +kernel
theorem plain_callable : plainId "callable" = true := by decide +kernel
theorem entry_callable : entryFor table "callable" = some Builtin.«callable» := entryFor_of_fast (by kernel_rfl)
theorem args_callable1 (a : Value) : argsOk "callable" ⟨[a], []⟩ := by unfold argsOk; kernel_rfl
theorem str_nocall : typeLookup (.type "str") "__call__" = pure none := by rw [typeLookup_type, builtinLookup_eq_fast]; kernel_rfl
theorem callable_str {x : Str} {tk : Tok} {Q : Value → Shared → Prop} (k : Q (.bool false) (mk c h t)) : wpAny (model prog w) A (call (.builtin "callable") [.str x tk]) Q E (mk c h t) := by
  refine call_function_tree kind_callable plain_callable entry_callable (args_callable1 _) ?_
  unfold Builtin.«callable»
  refine wpAny_bind (wpAny_pure ?_)
  refine wpAny_bind (wpAny_specialOf (s := mk c h t) (T := "str") rfl str_nocall (wpAny_pure k))
end

def retE : Stmt → Expr
  | .Return (some e) _ => e
  | _ => .Constant .none 0 default
abbrev lamE : Expr := retE (SM 7 1)
def lamArgs : Expr → Arguments
  | .Lambda a .. => a
  | _ => default
def lamBody : Expr → Expr
  | .Lambda _ b .. => b
  | _ => .Constant .none 0 default
def lamScope : Expr → Scope
  | .Lambda _ _ s .. => s
  | _ => default
def lamPos : Expr → Pos
  | .Lambda _ _ _ p => p
  | _ => default
abbrev lamQual : Str := "_weight_function" ++ ".<locals>." ++ "<lambda>"
def FnLam (h : Heap) (f : Addr) : Prop := ∃ q c' ctv nm tk, h.get? f = some (kla_obj "<lambda>" lamQual (lamArgs lamE) (lamBody lamE) (lamScope lamE) [("weight", q)] nm c' ctv) ∧ h.CodeRec (.ref c') lamQual ∧ h.IsCell q (some (.str "weight" tk))
theorem FnLam.keep {h h' : Heap} {f : Addr} (x : FnLam h f) (k : Keep h h') : FnLam h' f :=
  let ⟨q, c', ctv, nm, tk, a, b, d⟩ := x; ⟨q, c', ctv, nm, tk, k _ _ a, b.keeps k, d.keeps k⟩
/-- what the table of _weight_function's code holds -/
def Tab72 (p0 : Array Value) (h : Heap) : Prop := ∃ ps, (∃ more, ps = p0 ++ more) ∧ CodeT h 76 72 ps ∧ (codeAmong (lamPos lamE) ps.toList = none ∨ ∃ c', codeAmong (lamPos lamE) ps.toList = some (.ref c') ∧ h.CodeRec (.ref c') lamQual)

section
variable {prog : Program} {w : World} {A : Around} {c : Cst} {h : Heap} {t : Nat}
theorem weight_spec {p0 : Array Value} {gv : Value} {tk : Tok} {Q : Value → Shared → Prop} (hroom : A.depth < recursionLimit) (G : Gl h) (hf : FnAt h 77 (S 7) "_weight_function" .none (.ref 76)) (T : Tab72 p0 h)
    (hQ : ∀ h' t' f, KO (fun b => b = 72) h h' → FnLam h' f → Tab72 p0 h' → Q (.ref f) (mk c h' t')) :
    wpAny (model prog w) A (call (.ref 77) [gv, .str "weight" tk]) Q NE (mk c h t) := by
  refine wpAny_noRaise (call_cells (E := NE) G hf hroom (binds := [("G", gv), ("weight", .str "weight" tk)]) (fun pm => BindsTo.of_eq (by rfl)) [("G", some gv)] fun h1 t1 F X => wpAny_noRaise ?_)
  have hcell : h1.IsCell (h.objs.size + 1) (some (.str "weight" tk)) := X.cell "weight" _ (by rfl)
  generalize hL : h.objs.size = L at F hcell
  have G1 := G.keep F.keep
  obtain ⟨ps, ⟨mr, hmr⟩, CT, hps⟩ := T
  have hP : h1.get? 72 = some (tabObj ps) := F.keep _ _ CT.tab
  have C1 := CT.hd.keeps F.keep
  obtain ⟨mg, bm, ob, b1, b2, b3, b4, b5, b6, b7, b8⟩ := G1.bi
  have hgP := tab_ne_ns hP b1
  have hbP : bm ≠ 72 := fun z => by rw [z, hP] at b5; cases b5; cases b6
  have hB : h1.BuiltinsAt mg 72 := ⟨bm, ob, b2, b3, b4, hbP, b5, b6, b7, b8⟩
  have h72 : 72 < h.objs.size := Heap.lt_size CT.tab
  refine wpAny_execs_cons (wpAny_If (isTrue_plain (Call_ (bname G1 (by walk_at "mem") PyProof.Rows.boot_callable (callWith_builtin rfl (evalArgs_plain (args_cons (nmc hcell (args_nil (callable_str (wpAny_truthy_bool ?_)))))))))))
  rw [if_neg Bool.false_ne_true]
  refine wpAny_execs_nil (wpAny_execs_cons (wpAny_Return_some ?_))
  refine with_toks_ne (n := 1) (Nat.le_add_left _ _) ?_
  show wpAny _ _ (eval lamE (envC (S 7) "_weight_function" (.ref 76) L 77)) _ _ _
  have e : eval lamE (envC (S 7) "_weight_function" (.ref 76) L 77) = makeFunction "<lambda>" lamQual (lamArgs lamE) (.expr (lamBody lamE)) (lamScope lamE) (envC (S 7) "_weight_function" (.ref 76) L 77) [] [] [] (lamPos lamE) (lamPos lamE).line := by rfl
  rw [e]
  have hcl : closureFor (lamScope lamE) (envC (S 7) "_weight_function" (.ref 76) L 77) = pure [(("weight" : Str), (L + 1 : Addr))] := by rfl
  rcases hps with hn | ⟨c', hc, hrec⟩
  · refine kla_makeFunction (s := mk c h1 t1) (mg := mg) hcl rfl b1 rfl C1 hP CT.tri hn hgP hB fun c' ctv h' tk' hx hge hlt hrec htb => ?_
    have hx : Heap.ExtBut 72 h1 h' := hx
    have k2 : KO (fun b => b = 72) h (h'.push (kla_obj "<lambda>" lamQual (lamArgs lamE) (lamBody lamE) (lamScope lamE) [("weight", L + 1)] ((mg "__name__").getD .none) c' ctv)) := fun b o n q => Heap.get?_push_of_some _ (hx b o n (F.keep b o q))
    intro htk
    obtain ⟨tk', rfl⟩ : ∃ m, tk' = m + 1 := ⟨tk' - 1, (Nat.sub_add_cancel htk).symm⟩
    refine hQ _ tk' h'.objs.size k2 ⟨L + 1, c', ctv, _, tk, Heap.get?_push_size _ rfl, hrec.keeps fun b o q => Heap.get?_push_of_some _ q, ?_⟩ ⟨_, ⟨mr ++ _, by rw [hmr, Array.append_assoc]⟩, ⟨?_, Heap.get?_push_of_some _ htb, ?_⟩, .inr ⟨c', ?_, hrec.keeps fun b o q => Heap.get?_push_of_some _ q⟩⟩
    · obtain ⟨o, q, d⟩ := hcell
      exact ⟨o, Heap.get?_push_of_some _ (hx _ _ (Nat.ne_of_gt (Nat.lt_of_lt_of_le h72 (by rw [hL]; exact Nat.le_succ _))) q), d⟩
    · obtain ⟨o, vs, file, tf, flags, tg, inF, text, tt, q, r⟩ := C1
      exact ⟨o, vs, file, tf, flags, tg, inF, text, tt, Heap.get?_push_of_some _ (hx _ _ (by decide) q), r⟩
    · rw [Array.toList_append]
      exact TriplesOk_snoc _ _ _ _ CT.tri
    · rw [Array.toList_append]
      exact codeAmong_snoc _ CT.tri hn
  · refine kla_makeFunctionHit (s := mk c h1 t1) (mg := mg) hcl rfl b1 rfl C1 hP CT.tri hc hB fun ctv h' tk' hx hge => ?_
    have hx : ∀ b o, h1.get? b = some o → h'.get? b = some o := hx
    have kk : Keep h1 (h'.push { cls := .type "function", data := .func (kla_fn "<lambda>" lamQual (lamArgs lamE) (lamBody lamE) (lamScope lamE) [("weight", L + 1)] ((mg "__name__").getD .none) (.ref c') ctv) }) := fun b o q => Heap.get?_push_of_some _ (hx b o q)
    intro htk
    obtain ⟨tk', rfl⟩ : ∃ m, tk' = m + 1 := ⟨tk' - 1, (Nat.sub_add_cancel htk).symm⟩
    refine hQ _ tk' h'.objs.size (fun b o _ q => kk b o (F.keep b o q)) ⟨L + 1, c', ctv, _, tk, Heap.get?_push_size _ rfl, (hrec.keeps F.keep).keeps kk, hcell.keeps kk⟩ ⟨ps, ⟨mr, hmr⟩, ⟨C1.keeps kk, kk _ _ hP, CT.tri⟩, .inr ⟨c', hc, (hrec.keeps F.keep).keeps kk⟩⟩

theorem lam_call {f ad : Addr} {u v : Int} {tu tv : Tok} {ks : List Str} {af : Str → Int} {Q : Value → Shared → Prop} (hroom : A.depth < recursionLimit) (G : Gl h) (x : FnLam h f) (at_ : RowK (strKind prog w) RI h ad ks af)
    (k : ∀ h' t' tk, Keep h h' → h.objs.size ≤ h'.objs.size → Q (.int (if ("weight" : Str) ∈ ks then af "weight" else 1) tk) (mk c h' t')) :
    wpAny (model prog w) A (call (.ref f) [.int u tu, .int v tv, .ref ad]) Q NE (mk c h t) := by
  obtain ⟨q, c', ctv, nm', tk, ho, hrec, hq⟩ := x
  refine wpAny_call (kla_callFunE (s := mk c h t) hroom ho rfl (by rfl) (by rfl) rfl hrec ?_)
  refine wpAny_of_eq (a := [(("u" : Str), Value.int u tu), ("v", Value.int v tv), ("data", Value.ref ad)]) (by rfl) ?_
  refine wpAny_newFunctionEnv (s := mk c h t) (by intro y hy e; have := List.all_eq_true.mp (show ((lamScope lamE).names.all fun y => !(y.2 == .cell)) = true by rfl) y hy; rw [e] at this; cases this)
    (by intro y hy; have := List.all_eq_true.mp (show ([(("u" : Str), Value.int u tu), ("v", .int v tv), ("data", .ref ad)].all fun y => (lamScope lamE).names.lookup y.1 == some .local) = true by rfl) y hy; simpa using this) (fun h' hns hsb => ?_) (by rfl)
  have hsb : Heap.SameBut h.objs.size (h.push { cls := .type "frame", data := .dict #[] }) h' := hsb
  have k1 : Keep h h' := fun b o e => hsb.extBut b o (Nat.ne_of_lt (Heap.lt_size e)) (Heap.get?_push_of_some _ e)
  have ksz : h.objs.size ≤ h'.objs.size := by rw [hsb.1, Heap.size_push]; exact Nat.le_succ _
  refine ⟨G.nolimit.keeps k1, kla_codeExpr ?_⟩
  refine wpAny_noRaise ?_
  have F : Fn (newEnv (lamScope lamE) h.objs.size mainGlobals [("weight", q)] (lamQual ++ ".<locals>.") (some f) (.ref c') none builtinsNs) h (fun _ => True) h' [("u", some (.int u tu)), ("v", some (.int v tv)), ("data", some (.ref ad))] :=
    ⟨loc_of hns (by rfl) (by kernel_rfl) (by kernel_rfl) (by kernel_rfl), k1, Nat.le_refl _, trivial, Stb.true⟩
  show wpAny (model prog w) _ (eval (lamBody lamE) _) _ _ (mk c h' (t + 3))
  refine MethodCall_ (nm F (by walk_at "mem") (getmk PySem.F.slot_dict_get PySem.F.type_dict_get (at_.keep k1) (callWith_builtin rfl (evalArgs_plain (args_cons (nmf (hq.keeps k1) (args_cons (wpAny_Constant_int (args_nil
    (get2_m (strKind_is prog w "weight" tk) (at_.keep k1) (fun hm vv' t' r => ?_) (fun hm t' => ?_)))))))))))
  · obtain ⟨tz, rfl⟩ := r
    have := k h' t' tz k1 ksz
    rw [if_pos hm] at this
    exact this
  · have := fun tk => k h' t' tk k1 ksz
    simp only [if_neg hm] at this
    exact this _
end
end Mine
end
section
open PySem PySem.W PyProof.Rows PySem.Calls
set_option maxRecDepth 100000
namespace Mine
local macro_rules | `(tactic| walk_at "mem") => `(tactic| with_reducible (first | exact List.mem_cons_self | (refine List.mem_cons_of_mem _ ?_; walk_at "mem")))

section
variable {prog : Program} {wd : World} {A : Around} {env : Env} {c : Cst} {h : Heap} {t : Nat}
/-- {v: float('inf') for v in G} -/
theorem inf_row {h0 : Heap} {g nd : Addr} {N : List Int} {p1 p2 p3 p4 p5 p7 pos : Pos} {k1 : Nat} {scope : Scope} {Q : Value → Shared → Prop} (hA : A.handled = none) (hroom : A.depth + 1 < recursionLimit) (GG : GIter prog wd c h0 g nd N) (kB : Keep h0 h) (G : Gl h) (ndp : N.Nodup) (hlen : N.length ≤ 1000)
    (hG : ∀ (Q' : Value → Shared → Prop), Q' (.ref g) (mk c h t) → wpAny (model prog wd) A (eval (.Name "G" p7) env) Q' NE (mk c h t))
    (hQ : ∀ h' t' d, h.objs.size ≤ d → Keep h h' → Row prog wd RE h' d N (fun _ => none) → Q (.ref d) (mk c h' t'))
    (hclos : closureFor scope env = pure [] := by rfl) (hkind : scope.kind = .function := by rfl)
    (hcell : (scope.names.all fun y => !(y.2 == .cell)) = true := by rfl) (hnames : (scope.names.all fun y => !(y.2 == .local) || scope.names.lookup y.1 == some .local) = true := by rfl)
    (hx : (compEnvC scope [] 0 env).kindOf ("v" : Str) = some .local := by rfl) (hfl : ∀ C, (compEnvC scope [] C env).kindOf ("float" : Str) = some .globalImplicit := by intro C; rfl) (hgl : env.globals = mainGlobals := by rfl) (hbi : env.builtins = builtinsNs := by rfl)
    (hs : ∀ x, foldedSetIterable (.Name "G" p7) env x = pure x := by intro _; rfl) :
    wpAny (model prog wd) A (eval (.DictComp (.Name "v" p1) (.Call (.Name "float" p2) [.Constant (.str "inf") k1 p3] [] p4) [⟨.Name "v" p5, .Name "G" p7, [], 0⟩] scope pos) env) Q NE (mk c h t) := by
  rw [arm_eval_DictComp]
  refine dict_comp (c := c) (hG _ (GG.walk hA hroom kB fun h2 t2 I fp P' St hk hI1 hI2 W st0 hfp hP => ?_)) hclos hkind hcell hnames hx (by kernel_rfl) hs
  have hhs : h.objs.size ≤ h2.objs.size := Nat.le_of_lt (Nat.lt_of_le_of_lt hI1 hI2)
  have G2 := G.keep hk
  refine ⟨I, fp, N.length, P', St, h2, t2, fun i h' => Row prog wd RE h' h2.objs.size (N.take i) (fun _ => none), h, rfl, rfl, W, st0, hfp, ⟨hk, hI1, hI2⟩, ⟨?_, ?_, ?_⟩, ?_⟩
  · intro h' k; exact (RowK.new G2.low).keep k
  · intro i; exact RowK.dep ⟨Nat.ne_of_gt hI2, Nat.ne_of_lt (Nat.lt_succ_self _)⟩
  · intro i v h3 t3 hi hv F3
    obtain ⟨n, tk, hn, rfl⟩ := hP i v hv
    obtain ⟨ek, hnn⟩ := take_addk ndp hn
    have G3 := G.keep F3.keep
    refine nm F3 (by walk_at "mem") (Call_ (bname G3 (by walk_at "mem") PyProof.Rows.boot_float ?_ hkind (hfl _) hgl hbi))
    refine Pv.callWith_type1 (args_cons (wpAny_Constant_str (args_nil (call_inf rfl hA fun vi t4 ri => ?_))))
    refine dset (intKind_is prog wd n tk) F3.inv ri (by simp; omega) fun h4 t4 r4 sb => ?_
    rw [ek] at r4
    have r4 : Row prog wd RE h4 h2.objs.size (N.take (i + 1)) (fun _ => none) := r4.congr fun j _ => by unfold upd; split <;> rfl
    exact ⟨h4, t4, rfl, fun b o hb q => sb.extBut b o (fun z => hb (.inl z)) q, F3.upd (a := h2.objs.size) hhs (Nat.ne_of_lt (Nat.lt_succ_self _)) sb.extBut r4 ((RowK.dep (X := fun b => b ≠ h2.objs.size + 1) (Nat.ne_of_lt (Nat.lt_succ_self _))).stb fun z => z rfl)⟩
  · intro h3 t3 k3 hsz hx
    rw [List.take_length] at hx
    exact hQ h3 t3 _ hhs k3 hx
end
end Mine
end
section
open PySem PySem.W PyProof.Rows PySem.Calls
set_option maxRecDepth 100000
namespace Mine
local macro_rules | `(tactic| walk_at "mem") => `(tactic| with_reducible (first | exact List.mem_cons_self | (refine List.mem_cons_of_mem _ ?_; walk_at "mem")))
abbrev inEnv (cd : Value) (L f : Addr) : Env := envC (S 9) "_init_pred_dist" cd L f
abbrev inl (wo uo vo di po no eo co : Option Value) : List (Str × Option Value) :=
  [("weight", wo), ("u", uo), ("v", vo), ("dist", di), ("pred", po), ("unbr", no), ("e_attr", eo), ("cost", co)]

section
variable {prog : Program} {wd : World} {A : Around} {c : Cst} {hB h : Heap} {t : Nat} {L f g nd : Addr} {cd : Value} {N : List Int}
theorem in_dist {wo uo vo di po no eo co : Option Value} {Q : Flow → Shared → Prop} (hA : A.handled = none) (hroom : A.depth + 1 < recursionLimit) (GG : GIter prog wd c hB g nd N) (G : Gl hB) (ndp : N.Nodup) (hlen : N.length ≤ 1000)
    (hc : h.IsCell (L + 1) (some (.ref g))) (F : Fn (inEnv cd L f) hB (fun _ => True) h (inl wo uo vo di po no eo co))
    (hQ : ∀ h' t' dd dr, h.objs.size ≤ dd → (∀ i ∈ N, h.objs.size ≤ dr i ∧ dr i ≠ dd) → (∀ i ∈ N, ∀ j ∈ N, dr i = dr j → i = j) → (∀ b o, b ≠ L → h.get? b = some o → h'.get? b = some o) →
      Row prog wd RR h' dd N dr → (∀ i ∈ N, Row prog wd RE h' (dr i) N (fun _ => none)) → Fn (inEnv cd L f) hB (fun _ => True) h' (inl wo uo vo (some (.ref dd)) po no eo co) → Q .next (mk c h' t')) :
    wpAny (model prog wd) A (exec (SM 9 0) (inEnv cd L f)) Q NE (mk c h t) := by
  refine asg_dcomp (dict_comp (c := c) (cl := [("G", L + 1)]) (nmc hc (GG.walk hA hroom F.keep fun h2 t2 I fp P' St hk hI1 hI2 W st0 hfp hP => ?_)))
  have hhs : h.objs.size ≤ h2.objs.size := Nat.le_of_lt (Nat.lt_of_le_of_lt hI1 hI2)
  have Gh := G.keep F.keep
  have hsm2 : sysModules < h2.objs.size := Nat.lt_of_lt_of_le Gh.low hhs
  refine ⟨I, fp, N.length, P', St, h2, t2, fun i h' => ∃ lo : Int → Addr, (∀ j ∈ N.take i, h2.objs.size + 1 < lo j) ∧ (∀ a ∈ N.take i, ∀ b ∈ N.take i, lo a = lo b → a = b) ∧ Row prog wd RR h' h2.objs.size (N.take i) lo ∧ ∀ j ∈ N.take i, Row prog wd RE h' (lo j) N (fun _ => none), h, rfl, rfl, W, st0, hfp, ⟨hk, hI1, hI2⟩, ⟨?_, ?_, ?_⟩, ?_⟩
  · intro h' k
    exact ⟨fun _ => 0, by simp, by simp, (RowK.new hsm2).keep k, by simp⟩
  · intro i
    refine Dep.ex fun lo => Dep.guard fun h1 => Dep.guard fun _ => Dep.and (RowK.dep ⟨Nat.ne_of_gt hI2, Nat.ne_of_lt (Nat.lt_succ_self _)⟩) (Dep.all fun j => Dep.imp fun hj => RowK.dep ⟨?_, Nat.ne_of_gt (h1 j hj)⟩)
    exact Nat.ne_of_gt (Nat.lt_trans hI2 (Nat.lt_trans (Nat.lt_succ_self _) (h1 j hj)))
  · intro i v h3 t3 hi hv F3
    obtain ⟨n, tk, hn, rfl⟩ := hP i v hv
    obtain ⟨ek, hnn⟩ := take_addk ndp hn
    obtain ⟨lo, l1, l2, r, l3⟩ := F3.inv
    have hC := F3.loc.lt
    have hc3 : h3.IsCell (L + 1) (some (.ref g)) := hc.keeps F3.keep
    refine nm F3 (by walk_at "mem") ?_
    refine inf_row hA hroom GG (F.keep.trans F3.keep) (Gh.keep F3.keep) ndp hlen (fun Q' kq => nmc hc3 kq) fun h4 t4 d hd k4 r4 => ?_
    have F4 := F3.ext k4
    obtain ⟨rk, l3k⟩ : Row prog wd RR h4 h2.objs.size (N.take i) lo ∧ ∀ j ∈ N.take i, Row prog wd RE h4 (lo j) N (fun _ => none) := ⟨r.keep k4, fun j hj => (l3 j hj).keep k4⟩
    refine dset (intKind_is prog wd n tk) rk (show RR _ d from rfl) (by simp; omega) fun h5 t5 r5 sb => ?_
    have hDlt : h2.objs.size < h3.objs.size := r.lt
    have hdD : h2.objs.size < d := Nat.lt_of_lt_of_le hDlt hd
    refine ⟨h5, t5, rfl, fun b o hb q => sb.extBut b o (fun z => hb (.inl z)) (k4 b o q), ?_⟩
    refine F4.upd (a := h2.objs.size) hhs (Nat.ne_of_lt (Nat.lt_succ_self _)) sb.extBut ⟨upd lo n d, ?_, ?_, by rw [← ek]; exact r5, ?_⟩ ?_
    · intro j hj
      rw [← ek] at hj
      unfold upd; split
      · exact Nat.lt_of_lt_of_le hC hd
      · rename_i hne
        rcases addk_mem.mp hj with q | q
        · exact l1 j q
        · exact absurd q hne
    · intro a ha b hb e
      rw [← ek] at ha hb
      have hlt : ∀ j, j ∈ N.take i → lo j < d := fun j hj => Nat.lt_of_lt_of_le (l3 j hj).lt hd
      unfold upd at e
      rcases addk_mem.mp ha with qa | qa <;> rcases addk_mem.mp hb with qb | qb
      · rw [if_neg (fun z : a = n => hnn (z ▸ qa)), if_neg (fun z : b = n => hnn (z ▸ qb))] at e; exact l2 a qa b qb e
      · rw [if_neg (fun z : a = n => hnn (z ▸ qa)), if_pos qb] at e; exact absurd e (Nat.ne_of_lt (hlt a qa))
      · rw [if_pos qa, if_neg (fun z : b = n => hnn (z ▸ qb))] at e; exact absurd e.symm (Nat.ne_of_lt (hlt b qb))
      · rw [qa, qb]
    · intro j hj
      rw [← ek] at hj
      unfold upd; split
      · exact r4.at fun o q => sb.extBut _ o (Nat.ne_of_gt hdD) q
      · rename_i hne
        rcases addk_mem.mp hj with q | q
        · exact (l3k j q).at fun o z => sb.extBut _ o (Nat.ne_of_gt (Nat.lt_trans (Nat.lt_succ_self _) (l1 j q))) z
        · exact absurd q hne
    · refine Dep.stb (X := fun b => b ≠ h2.objs.size + 1) ?_ (fun z => z rfl)
      refine Dep.ex fun lo => Dep.guard fun h1 => Dep.guard fun _ => Dep.and (RowK.dep (Nat.ne_of_lt (Nat.lt_succ_self _))) (Dep.all fun j => Dep.imp fun hj => RowK.dep (Nat.ne_of_gt (h1 j hj)))
  · intro h3 t3 k3 hsz hx
    rw [List.take_length] at hx
    obtain ⟨lo, l1, l2, r, l3⟩ := hx
    refine wpAny_assign_Name (st3 (F.ext k3) fun h4 t4 F4 sb => ⟨h4, t4, rfl, fun o q => sb.extBut _ o (Nat.ne_of_gt (Nat.lt_trans F.loc.lt (Nat.lt_of_le_of_lt hhs (Nat.lt_succ_self _)))) q, fun h5 k5 => ?_⟩)
    have hLC : L < h.objs.size := F.loc.lt
    have e5 : ∀ b o, b ≠ L → b ≠ h2.objs.size + 1 → h3.get? b = some o → h5.get? b = some o := fun b o h1 h2' q => k5 b o h2' (sb.extBut b o h1 q)
    have hbig : ∀ b, h2.objs.size ≤ b → b ≠ L := fun b hb => Nat.ne_of_gt (Nat.lt_of_lt_of_le hLC (Nat.le_trans hhs hb))
    refine hQ h5 t4 h2.objs.size lo hhs (fun i hi => ⟨Nat.le_trans hhs (Nat.le_of_lt (Nat.lt_trans (Nat.lt_succ_self _) (l1 i hi))), Nat.ne_of_gt (Nat.lt_trans (Nat.lt_succ_self _) (l1 i hi))⟩) l2
      (fun b o hb q => e5 b o hb (Nat.ne_of_lt (Nat.lt_of_lt_of_le (Heap.lt_size q) (Nat.le_trans hhs (Nat.le_succ _)))) (k3 b o q)) (r.at fun o q => e5 _ o (hbig _ (Nat.le_refl _)) (Nat.ne_of_lt (Nat.lt_succ_self _)) q) (fun j hj => (l3 j hj).at fun o q => e5 _ o (hbig _ (Nat.le_of_lt (Nat.lt_trans (Nat.lt_succ_self _) (l1 j hj)))) (Nat.ne_of_gt (l1 j hj)) q) ?_
    refine F4.off (I := h2.objs.size + 1) (X := fun _ => False) (fun _ _ _ x => x) (fun z => z) ?_ ?_ k5
    · exact Nat.le_trans F.above (Nat.le_trans (Nat.le_of_lt hLC) (Nat.le_trans hhs (Nat.le_succ _)))
    · exact hbig _ (Nat.le_succ _)
end
end Mine
end
section
open PySem PySem.W PyProof.Rows PySem.Calls
set_option maxRecDepth 100000
namespace Mine
local macro_rules | `(tactic| walk_at "mem") => `(tactic| with_reducible (first | exact List.mem_cons_self | (refine List.mem_cons_of_mem _ ?_; walk_at "mem")))

def LamA (f q c' : Addr) (h : Heap) : Prop := ∃ ctv nm tk, h.get? f = some (kla_obj "<lambda>" lamQual (lamArgs lamE) (lamBody lamE) (lamScope lamE) [("weight", q)] nm c' ctv) ∧ h.CodeRec (.ref c') lamQual ∧ h.IsCell q (some (.str "weight" tk))
theorem LamA.fn {f q c' h} (x : LamA f q c' h) : FnLam h f := let ⟨ctv, nm, tk, a, b, d⟩ := x; ⟨q, c', ctv, nm, tk, a, b, d⟩
theorem FnLam.at {f h} (x : FnLam h f) : ∃ q c', LamA f q c' h := let ⟨q, c', ctv, nm, tk, a, b, d⟩ := x; ⟨q, c', ctv, nm, tk, a, b, d⟩
theorem LamA.dep {f q c'} : Dep (fun b => b = f ∨ b = q ∨ b = c') (LamA f q c') := fun h h' k ⟨ctv, nm, tk, a, b, d⟩ => ⟨ctv, nm, tk, k _ _ (.inl rfl) a, by
  obtain ⟨c, o, vs, t, e, ho, r⟩ := b
  cases e
  exact ⟨_, o, vs, t, rfl, k _ _ (.inr (.inr rfl)) ho, r⟩, by
  obtain ⟨o, ho, r⟩ := d
  exact ⟨o, k _ _ (.inr (.inl rfl)) ho, r⟩⟩

/-- tables while they are laid out -/
structure InSt (prog : Program) (wd : World) (Fr : Addr → Prop) (y : Lay) (s : Tbl) (h : Heap) : Prop where
  ok : y.Ok
  low : ∀ b, (b = y.dd ∨ b = y.pd ∨ y.row b) → Fr b
  mats : Mats prog wd y s h
theorem InSt.dep {prog wd Fr y s} : Dep (fun b => b = y.dd ∨ b = y.pd ∨ y.row b) (InSt prog wd Fr y s) := fun h h' k x => ⟨x.ok, x.low, Mats.dep h h' k x.mats⟩
def rowU (W : Int → Int) (q : List Int) : Int → Option Int := fun j => if j ∈ q then some (W j) else none
theorem rowU_snoc (W : Int → Int) (q : List Int) (v : Int) : rowU W (q ++ [v]) = upd (rowU W q) v (some (W v)) := by
  funext j
  unfold rowU upd
  by_cases e : j = v
  · subst e; simp
  · simp [e]
def layU (y : Lay) (u : Int) (q : List Int) (a : Addr) : Lay := match q with | [] => y | _ :: _ => { y with prk := y.prk ++ [u], pr := upd y.pr u a }
def tabU (s : Tbl) (W : Int → Int) (u : Int) (q : List Int) : Tbl := ⟨upd s.D u (rowU W q), upd s.K u q, upd s.P u fun _ => u⟩
theorem layU_N {y u q a} : (layU y u q a).N = y.N ∧ (layU y u q a).dd = y.dd ∧ (layU y u q a).pd = y.pd ∧ (layU y u q a).dr = y.dr := by cases q <;> exact ⟨rfl, rfl, rfl, rfl⟩

section
variable {prog : Program} {wd : World} {A : Around} {c : Cst} {hB h : Heap} {t : Nat} {L f g nd : Addr} {cd : Value}

/-- pred.setdefault(u, {})[v] = u: the row -/
theorem setdef_new {K : Type} [DecidableEq K] {knd : KeyKind prog wd K} {α : Type} {R : Value → α → Prop} {d : Addr} {ks : List K} {fv : K → α} {i : K} {key x : Value} {y : α} {E : Value → Shared → Prop} {Q : Value → Shared → Prop} (hkey : knd.is i key = true) (r : RowK knd R h d ks fv) (hsz : ks.length ≤ 1000000) (hx : R x y)
    (k1 : i ∈ ks → ∀ v t', R v (fv i) → Q v (mk c h t')) (k2 : i ∉ ks → ∀ h' t', RowK knd R h' d (addk ks i) (upd fv i y) → Heap.SameBut d h h' → Q x (mk c h' t')) :
    wpAny (model prog wd) A (call (.builtin "dict.setdefault") [.ref d, key, x]) Q E (mk c h t) := by
  obtain ⟨kvs, q, hk, rr⟩ := id r.2
  refine call_meetsIn (s := mk c h t) PySem.F.slot_dict_setdefault (Heap.DictOf.typeIs (s := mk c h t) q) PySem.F.entry_dict_setdefault (PySem.F.args_dict_setdefault_3 _ _ _) (kt_meets_setdefault knd d hkey r.1 x) ⟨kvs, q, sz_of (by rw [← hk, List.length_map] at hsz; exact hsz), fun v hv => ?_, fun hn h' hd hs => ?_⟩
  · have hi : i ∈ ks := by
      rw [← hk]
      refine Classical.byContradiction fun z => ?_
      rw [valueAt_none_of z] at hv; cases hv
    obtain ⟨v', e1, e2⟩ := valueAt_of (hk ▸ hi : i ∈ kvs.map (·.1))
    rw [hv] at e1; cases e1
    exact k1 hi v _ (rr _ e2)
  · have hi : i ∉ ks := by
      rw [← hk]; intro z
      obtain ⟨v', e1, _⟩ := valueAt_of z
      rw [hn] at e1; cases e1
    exact k2 hi h' _ (r.put hk rr hx hd) hs
end
end Mine
end
section
open PySem PySem.W PyProof.Rows PySem.Calls
set_option maxRecDepth 100000
namespace Mine
local macro_rules | `(tactic| walk_at "mem") => `(tactic| with_reducible (first | exact List.mem_cons_self | (refine List.mem_cons_of_mem _ ?_; walk_at "mem")))
theorem InSt.lt {prog wd Fr y s h} (x : InSt prog wd Fr y s h) : ∀ b, (b = y.dd ∨ b = y.pd ∨ y.row b) → b < h.objs.size := fun b q => by
  rcases q with rfl | rfl | q | q
  · exact x.mats.d.lt
  · exact x.mats.p.lt
  · obtain ⟨i, hi, rfl⟩ := q; exact (x.mats.drow i hi).lt
  · obtain ⟨i, hi, rfl⟩ := q; exact (x.mats.prow i hi).lt
theorem InSt.free {prog wd Fr Fr' y s h} (x : InSt prog wd Fr y s h) (k : ∀ b, b < h.objs.size → Fr b → Fr' b) : InSt prog wd Fr' y s h := ⟨x.ok, fun b q => k b (x.lt b q) (x.low b q), x.mats⟩
/-- a new row for u among the predecessors -/
theorem Mats.newP {prog wd} {y : Lay} {s : Tbl} {h h' : Heap} {u : Int} {a : Addr} {k : List Int} {f : Int → Int} (o : y.Ok) (hup : u ∉ y.prk) (huN : u ∈ y.N) (x : Mats prog wd y s h) (ha : h.objs.size ≤ a) (sb : ∀ b o, b ≠ y.pd → b ≠ a → h.get? b = some o → h'.get? b = some o)
    (rp : Row prog wd RR h' y.pd (y.prk ++ [u]) (upd y.pr u a)) (ra : Row prog wd RI h' a k f) :
    let y' : Lay := { y with prk := y.prk ++ [u], pr := upd y.pr u a }
    y'.Ok ∧ Mats prog wd y' { s with K := upd s.K u k, P := upd s.P u f } h' := by
  have lt : ∀ b, (b = y.dd ∨ b = y.pd ∨ y.row b) → b < h.objs.size := fun b q => by
    rcases q with rfl | rfl | q | q
    · exact x.d.lt
    · exact x.p.lt
    · obtain ⟨i, hi, rfl⟩ := q; exact (x.drow i hi).lt
    · obtain ⟨i, hi, rfl⟩ := q; exact (x.prow i hi).lt
  have na : ∀ b, (b = y.dd ∨ b = y.pd ∨ y.row b) → b ≠ a := fun b q => Nat.ne_of_lt (Nat.lt_of_lt_of_le (lt b q) ha)
  have mem : ∀ i, i ∈ y.prk ++ [u] → (i ∈ y.prk ∧ i ≠ u) ∨ i = u := fun i hi => by
    rcases List.mem_append.mp hi with q | q
    · exact .inl ⟨q, fun z => hup (z ▸ q)⟩
    · exact .inr (List.mem_singleton.mp q)
  have eo : ∀ i, i ≠ u → upd y.pr u a i = y.pr i := fun i hi => by simp [upd, hi]
  have es : upd y.pr u a u = a := by simp [upd]
  refine ⟨⟨o.dinj, fun i hi j hj e => ?_, fun i hi j hj => ?_, ?_, ?_, o.dpd, o.len⟩, ⟨?_, fun i hi => ?_, rp, fun i hi => ?_⟩⟩
  · rcases mem i hi with ⟨qi, ni⟩ | rfl <;> rcases mem j hj with ⟨qj, nj⟩ | rfl
    · dsimp only at e; rw [eo i ni, eo j nj] at e; exact o.pinj i qi j qj e
    · dsimp only at e; rw [eo i ni, es] at e; exact absurd e (na _ (.inr (.inr (.inr ⟨i, qi, rfl⟩))))
    · dsimp only at e; rw [es, eo j nj] at e; exact absurd e.symm (na _ (.inr (.inr (.inr ⟨j, qj, rfl⟩))))
    · rfl
  · rcases mem j hj with ⟨qj, nj⟩ | rfl
    · show y.dr i ≠ upd y.pr u a j; rw [eo j nj]; exact o.dp i hi j qj
    · show y.dr i ≠ upd y.pr j a j; rw [es]; exact na _ (.inr (.inr (.inl ⟨i, hi, rfl⟩)))
  · rintro (⟨i, hi, e⟩ | ⟨j, hj, e⟩)
    · exact o.odd (.inl ⟨i, hi, e⟩)
    · rcases mem j hj with ⟨qj, nj⟩ | rfl
      · have e : y.dd = upd y.pr u a j := e
        rw [eo j nj] at e; exact o.odd (.inr ⟨j, qj, e⟩)
      · have e : y.dd = upd y.pr j a j := e
        rw [es] at e; exact na _ (.inl rfl) e
  · rintro (⟨i, hi, e⟩ | ⟨j, hj, e⟩)
    · exact o.opd (.inl ⟨i, hi, e⟩)
    · rcases mem j hj with ⟨qj, nj⟩ | rfl
      · have e : y.pd = upd y.pr u a j := e
        rw [eo j nj] at e; exact o.opd (.inr ⟨j, qj, e⟩)
      · have e : y.pd = upd y.pr j a j := e
        rw [es] at e; exact na _ (.inr (.inl rfl)) e
  · exact x.d.at fun q e => sb _ q o.dpd (na _ (.inl rfl)) e
  · exact (x.drow i hi).at fun q e => sb _ q (fun z => o.opd (.inl ⟨i, hi, z.symm⟩)) (na _ (.inr (.inr (.inl ⟨i, hi, rfl⟩)))) e
  · rcases mem i hi with ⟨qi, ni⟩ | rfl
    · show Row prog wd RI h' (upd y.pr u a i) (upd s.K u k i) (upd s.P u f i)
      rw [eo i ni]; simp only [upd, if_neg ni]
      exact (x.prow i qi).at fun q e => sb _ q (fun z => o.opd (.inr ⟨i, qi, z.symm⟩)) (na _ (.inr (.inr (.inr ⟨i, qi, rfl⟩)))) e
    · show Row prog wd RI h' (upd y.pr i a i) (upd s.K i k i) (upd s.P i f i)
      rw [es]; simp only [upd, if_true]; exact ra
end Mine
end
section
open PySem PySem.W PyProof.Rows PySem.Calls
set_option maxRecDepth 100000
namespace Mine
local macro_rules | `(tactic| walk_at "mem") => `(tactic| with_reducible (first | exact List.mem_cons_self | (refine List.mem_cons_of_mem _ ?_; walk_at "mem")))
abbrev inF : Stmt := SM 9 3
abbrev inP (prog : Program) (wd : World) (Fr : Addr → Prop) (wf wq wc : Addr) (y : Lay) (s : Tbl) (h : Heap) : Prop := InSt prog wd Fr y s h ∧ LamA wf wq wc h
theorem inP.dep {prog wd Fr wf wq wc y s} : Dep (fun b => (b = y.dd ∨ b = y.pd ∨ y.row b) ∨ (b = wf ∨ b = wq ∨ b = wc)) (inP prog wd Fr wf wq wc y s) :=
  Dep.and (InSt.dep.mono fun _ x => .inl x) (LamA.dep.mono fun _ x => .inr x)
/-- what may be changed: not the lambda, not the frame, nothing old -/
structure FrOk (Fr : Addr → Prop) (hB : Heap) (L wf wq wc : Addr) : Prop where
  old : ∀ b, Fr b → hB.objs.size ≤ b
  fl : ∀ b, Fr b → b ≠ L
  lam : ∀ b, Fr b → b ≠ wf ∧ b ≠ wq ∧ b ≠ wc
  ll : wf ≠ L ∧ wq ≠ L ∧ wc ≠ L
structure NbAt (prog : Program) (wd : World) (h : Heap) (d : Addr) (nb : List Int) (W : Int → Int) : Prop where
  row : ∃ ea : Int → Addr, Row prog wd RR h d nb ea ∧ ∀ v ∈ nb, ∃ ks af, RowK (strKind prog wd) RI h (ea v) ks af ∧ W v = if ("weight" : Str) ∈ ks then af "weight" else 1

section
variable {prog : Program} {wd : World} {A : Around} {c : Cst} {hB h : Heap} {t : Nat} {L f g nd wf wq wc : Addr} {cd : Value}
theorem inP.stb {Fr y s} (fo : FrOk Fr hB L wf wq wc) (low : ∀ b, (b = y.dd ∨ b = y.pd ∨ y.row b) → Fr b) : Stb L (inP prog wd Fr wf wq wc y s) := inP.dep.stb fun x => by
  rcases x with x | x | x | x
  · exact fo.fl _ (low _ x) rfl
  · exact fo.ll.1 x.symm
  · exact fo.ll.2.1 x.symm
  · exact fo.ll.2.2 x.symm
theorem LamA.lt {wf wq wc h} (x : LamA wf wq wc h) : ∀ b, (b = wf ∨ b = wq ∨ b = wc) → b < h.objs.size := fun b q => by
  obtain ⟨_, _, _, e1, ⟨_, _, _, _, e2, e3, _⟩, ⟨_, e4, _⟩⟩ := x
  rcases q with rfl | rfl | rfl
  · exact Heap.lt_size e1
  · exact Heap.lt_size e4
  · cases e2; exact Heap.lt_size e3
theorem LamA.but {Fr h h' a} (fo : FrOk Fr hB L wf wq wc) (ha : Fr a) (x : LamA wf wq wc h) (e : ∀ b o, b ≠ a → h.get? b = some o → h'.get? b = some o) : LamA wf wq wc h' :=
  LamA.dep h h' (fun b o q z => e b o (by
    obtain ⟨n1, n2, n3⟩ := fo.lam a ha
    rcases q with rfl | rfl | rfl
    · exact n1.symm
    · exact n2.symm
    · exact n3.symm) z) x

theorem upd_upd {K α : Type} [DecidableEq K] (f : K → α) (i : K) (a b : α) : upd (upd f i a) i b = upd f i b := by
  funext j; unfold upd; split <;> rfl
theorem upd_at {K α : Type} [DecidableEq K] (f : K → α) (i : K) (a : α) : upd f i a i = a := by simp [upd]
theorem upd_same {K α : Type} [DecidableEq K] (u : α) (i : K) : upd (fun _ => u) i u = fun _ => u := by funext j; simp [upd]

theorem in_edges {Fr : Addr → Prop} {s : Tbl} {y : Lay} {u : Int} {tu : Tok} {nb : List Int} {W : Int → Int} {inn : Addr} {vo eo co : Option Value} {Q : Flow → Shared → Prop} (hA : A.handled = none) (hroom : A.depth < recursionLimit) (G : Gl hB)
    (hu : u ∈ y.N) (hup : u ∉ y.prk) (nbN : ∀ v ∈ nb, v ∈ y.N) (NB : NbAt prog wd hB inn nb W) (len1 : nb.length ≤ 1000) (len2 : y.prk.length ≤ 1000) (fo : FrOk Fr hB L wf wq wc) (hFr : ∀ b, h.objs.size ≤ b → Fr b)
    (F : Fn (inEnv cd L f) hB (inP prog wd Fr wf wq wc y (tabU s W u [])) h (inl (some (.ref wf)) (some (.int u tu)) vo (some (.ref y.dd)) (some (.ref y.pd)) (some (.ref inn)) eo co))
    (hQ : ∀ h' t' a vo eo co, KO (fun b => b = L ∨ Fr b) h h' → Fn (inEnv cd L f) hB (inP prog wd Fr wf wq wc (layU y u nb a) (tabU s W u nb)) h' (inl (some (.ref wf)) (some (.int u tu)) vo (some (.ref y.dd)) (some (.ref y.pd)) (some (.ref inn)) eo co) → Q .next (mk c h' t')) :
    wpAny (model prog wd) A (exec (at' (dFor inF) 0) (inEnv cd L f)) Q NE (mk c h t) := by
  obtain ⟨ea, hrow, hatt⟩ := NB.row
  have hI : h.objs.size + 1 = (h.push { cls := .type "dict_items", data := .fields #[.ref inn] }).objs.size := (Heap.size_push ..).symm
  have fo' : FrOk (fun b => Fr b ∧ b ≠ h.objs.size + 1) hB L wf wq wc := ⟨fun b x => fo.old b x.1, fun b x => fo.fl b x.1, fun b x => fo.lam b x.1, fo.ll⟩
  refine for_items (c := c) (R := RR) (knd := intKind prog wd) hA (fun b => b = L ∨ (Fr b ∧ b ≠ h.objs.size + 1)) (MethodCall_ (nm F (by walk_at "mem") (getmk PySem.F.slot_dict_items PySem.F.type_dict_items (hrow.keep F.keep) (callWith_builtin rfl (PySem.evalArgs_none (items_m (hrow.keep F.keep) fun hv => ?_))))))
  have F0 := F.push { cls := .type "dict_items", data := .fields #[.ref inn] }
  have hLI : L ≠ h.objs.size + 1 := Nat.ne_of_lt (Nat.lt_succ_of_lt F.loc.lt)
  refine ⟨_, _, _, inn, nb, ea, fun p r h' t' => KO (fun b => b = L ∨ Fr b) h h' ∧ ∃ a vo eo co, Fn (inEnv cd L f) hB (inP prog wd (fun b => Fr b ∧ b ≠ h.objs.size + 1) wf wq wc (layU y u p a) (tabU s W u p)) h' (inl (some (.ref wf)) (some (.int u tu)) vo (some (.ref y.dd)) (some (.ref y.pd)) (some (.ref inn)) eo co),
    rfl, rfl, hv, (hrow.keep F0.keep), ?_, ?_, ⟨(Keep.push _ _).ko, 0, vo, eo, co, ?_⟩, ?_, ?_, ?_⟩
  · rintro (q | q)
    · exact absurd (q ▸ hrow.lt) (Nat.not_lt.mpr F.above)
    · exact absurd hrow.lt (Nat.not_lt.mpr (fo.old _ q.1))
  · rintro (q | q)
    · exact hLI (q.symm.trans hI.symm)
    · exact q.2 hI.symm
  · have Fx := F.say (P' := inP prog wd (fun b => Fr b ∧ b ≠ h.objs.size + 1) wf wq wc y (tabU s W u [])) ⟨F.inv.1.free fun b hb x => ⟨x, Nat.ne_of_lt (Nat.lt_succ_of_lt hb)⟩, F.inv.2⟩ (inP.stb fo' fun b q => ⟨F.inv.1.low b q, Nat.ne_of_lt (Nat.lt_succ_of_lt (F.inv.1.lt b q))⟩)
    exact Fx.push _
  · rintro p r h1 t1 h' t' e ⟨ko, a, vo, eo, co, F1⟩
    have e : ∀ b o, b ≠ h.objs.size + 1 → h1.get? b = some o → h'.get? b = some o := fun b o n q => e b o (fun z => n (z.trans hI.symm)) q
    refine ⟨ko.ext e (Nat.le_succ _), a, vo, eo, co, F1.off inP.dep ?_ ?_ ?_ e⟩
    · rintro (x | x)
      · exact (F1.inv.1.low _ x).2 rfl
      · exact Nat.lt_irrefl _ (Nat.lt_succ_of_lt (F.inv.2.lt _ x))
    · exact Nat.le_trans F.above (Nat.le_of_lt (Nat.lt_succ_of_lt F.loc.lt))
    · exact hLI.symm
  · rintro p v r h1 t1 hN hbig ⟨ko, a, vo, eo, co, F1⟩ key ev hkey hev
    have hbig : h.objs.size + 1 < h1.objs.size := by rw [hI]; exact hbig
    have hv : v ∈ nb := by rw [hN]; simp
    have hvN := nbN v hv
    obtain ⟨tv, rfl⟩ : ∃ tk, key = .int v tk := by
      cases key <;> simp [intKind, Value.isInt] at hkey
      subst hkey; exact ⟨_, rfl⟩
    cases hev
    obtain ⟨ks, af, hat, hW⟩ := hatt v hv
    obtain ⟨e1, e2, e3, e4⟩ := layU_N (y := y) (u := u) (q := p) (a := a)
    have hpl : p.length ≤ 1000 := by
      have : p.length ≤ nb.length := by rw [hN]; simp
      omega
    refine st2 F1 fun h2 t2 F2 s2 => st6 F2 fun h3 t3 F3 s3 => ?_
    have ko3 : KO (fun b => b = L ∨ (Fr b ∧ b ≠ h.objs.size + 1)) h1 h3 := ((KO.refl h1).but s2 (.inl rfl)).but s3 (.inl rfl)
    have hsz3 : h3.objs.size = h1.objs.size := by rw [s3.1, s2.1]
    obtain ⟨ctv, nmv, tkw, hof, _, _⟩ := F3.inv.2
    refine wpAny_execs_cons (wpAny_Assign_Name (Call_ (nm F3 (by walk_at "mem") (callWith_def (fd := kla_fn "<lambda>" lamQual (lamArgs lamE) (lamBody lamE) (lamScope lamE) [("weight", wq)] nmv (.ref wc) ctv) (by rfl) (args_cons (nm F3 (by walk_at "mem") (args_cons (nm F3 (by walk_at "mem") (args_cons (nm F3 (by walk_at "mem") (args_nil ⟨hof, ?_⟩)))))))))))
    refine lam_call hroom (G.keep F3.keep) F3.inv.2.fn (hat.keep F3.keep) fun h4 t4 tc k4 hsz4 => ?_
    rw [← hW]
    refine st7 (F3.ext k4) fun h5 t5 F5 s5 => ?_
    have ko5 : KO (fun b => b = L ∨ (Fr b ∧ b ≠ h.objs.size + 1)) h1 h5 := (ko3.keep k4).but s5 (.inl rfl)
    have hsz5 : h1.objs.size ≤ h5.objs.size := by rw [s5.1, ← hsz3]; exact hsz4
    refine wpAny_execs_cons (wpAny_If (wpAny_isTrue_Compare1 (nm F5 (by walk_at "mem") (wpAny_Constant_none (isnot_int_none (wpAny_truthy_bool ?_))))))
    rw [if_pos rfl]
    have hvp : v ∉ p := fun z => by
      have nd := hrow.nodup
      rw [hN] at nd
      exact (List.nodup_append.mp nd).2.2 v z v (.head _) rfl
    have FrN : ∀ b, h5.objs.size ≤ b → Fr b ∧ b ≠ h.objs.size + 1 := fun b hb =>
      ⟨hFr b (Nat.le_trans (Nat.le_of_lt (Nat.lt_of_succ_lt hbig)) (Nat.le_trans hsz5 hb)), Nat.ne_of_gt (Nat.lt_of_lt_of_le hbig (Nat.le_trans hsz5 hb))⟩
    have fin : ∀ h' t' a', KO (fun b => b = L ∨ (Fr b ∧ b ≠ h.objs.size + 1)) h1 h' → Fn (inEnv cd L f) hB (inP prog wd (fun b => Fr b ∧ b ≠ h.objs.size + 1) wf wq wc (layU y u (p ++ [v]) a') (tabU s W u (p ++ [v]))) h' (inl (some (.ref wf)) (some (.int u tu)) (some (.int v tv)) (some (.ref y.dd)) (some (.ref y.pd)) (some (.ref inn)) (some (.ref (ea v))) (some (.int (W v) tc))) →
        Turn c (fun b => b = L ∨ (Fr b ∧ b ≠ h.objs.size + 1)) h1 Q (fun h' t' => KO (fun b => b = L ∨ Fr b) h h' ∧ ∃ a vo eo co, Fn (inEnv cd L f) hB (inP prog wd (fun b => Fr b ∧ b ≠ h.objs.size + 1) wf wq wc (layU y u (p ++ [v]) a) (tabU s W u (p ++ [v]))) h' (inl (some (.ref wf)) (some (.int u tu)) vo (some (.ref y.dd)) (some (.ref y.pd)) (some (.ref inn)) eo co)) .next (mk c h' t') := fun h' t' a' k' F' =>
      ⟨h', t', rfl, k', ko.trans (k'.mono fun b x => x.elim .inl fun z => .inr z.1), a', _, _, _, F'⟩
    have huu : ∀ (y' : Lay), y'.N = y.N → u ∈ y'.N := fun y' e => e ▸ hu
    cases p with
    | nil =>
      have M5 : Mats prog wd y (tabU s W u []) h5 := F5.inv.1.mats
      have ok5 : y.Ok := F5.inv.1.ok
      refine wpAny_execs_cons (wpAny_Assign_Subscript (nm F5 (by walk_at "mem") (Subscript_ (nm F5 (by walk_at "mem") (nm F5 (by walk_at "mem") (row_itm (d := y.dd) M5.d hu fun v6 t6 r6 => ?_))))))
      cases r6
      refine nm F5 (by walk_at "mem") (row_set (M5.drow u hu) (show RE _ (some (W v)) from ⟨tc, rfl⟩) (Nat.le_trans ok5.len (by decide)) fun h7 t7 r7 sb7 => ?_)
      have r7 : Row prog wd RE h7 (y.dr u) y.N (rowU W [v]) := by
        have : Row prog wd RE h7 (y.dr u) (addk y.N v) (upd ((tabU s W u []).D u) v (some (W v))) := r7
        rw [show addk y.N v = y.N by rw [addk, if_pos hvN]] at this
        rw [show rowU W [v] = upd (rowU W []) v (some (W v)) from rowU_snoc W [] v]
        exact this.congr fun j _ => by simp [tabU, upd]
      have M7 := M5.setD ok5 hu r7 sb7
      have hdu : Fr (y.dr u) ∧ y.dr u ≠ h.objs.size + 1 := F5.inv.1.low _ (.inr (.inr (.inl ⟨u, hu, rfl⟩)))
      have lam7 : LamA wf wq wc h7 := F5.inv.2.but fo' hdu sb7.extBut
      have F7 := F5.upd (P' := inP prog wd (fun b => Fr b ∧ b ≠ h.objs.size + 1) wf wq wc y { tabU s W u [] with D := upd (tabU s W u []).D u (rowU W [v]) }) (fo.old _ hdu.1) (fo.fl _ hdu.1) sb7.extBut ⟨⟨ok5, F5.inv.1.low, M7⟩, lam7⟩ (inP.stb fo' F5.inv.1.low)
      have ko7 := ko5.but sb7 (.inr hdu)
      have hsz7 : h5.objs.size = h7.objs.size := sb7.1.symm
      refine wpAny_execs_cons (wpAny_Assign_Subscript (nm F7 (by walk_at "mem") (MethodCall_ (nm F7 (by walk_at "mem") (getmk PySem.F.slot_dict_setdefault PySem.F.type_dict_setdefault M7.p (callWith_builtin rfl (evalArgs_plain (args_cons (nm F7 (by walk_at "mem") (args_cons (wpAny_Dict_empty (args_nil
        (setdef_new (intKind_is prog wd u tu) (M7.p.keep (Keep.push _ _)) (Nat.le_trans len2 (by decide)) (show RR _ h7.objs.size from rfl) (fun hm => absurd hm hup) fun _ h9 t9 r9 sb9 => ?_)))))))))))))
      have hpd : Fr y.pd ∧ y.pd ≠ h.objs.size + 1 := F7.inv.1.low _ (.inr (.inl rfl))
      have hpdlt : y.pd < h7.objs.size := M7.p.lt
      have hnew : Row prog wd RI h9 h7.objs.size [] (fun _ => u) := (RowK.new (G.keep F7.keep).low).at fun o e => sb9.extBut _ o (Nat.ne_of_gt hpdlt) e
      have k9 : ∀ b o, b ≠ y.pd → h7.get? b = some o → h9.get? b = some o := fun b o n e => sb9.extBut b o n (Heap.get?_push_of_some _ e)
      have F9 := F7.upd (h' := h9) (P' := fun _ => True) (fo.old _ hpd.1) (fo.fl _ hpd.1) k9 trivial Stb.true
      refine nm F9 (by walk_at "mem") (row_set hnew ⟨tu, rfl⟩ (by simp) fun h10 t10 r10 sb10 => ?_)
      have k10 : ∀ b o, b ≠ y.pd → b ≠ h7.objs.size → h7.get? b = some o → h10.get? b = some o := fun b o n1 n2 e => sb10.extBut b o n2 (k9 b o n1 e)
      have rp : Row prog wd RR h10 y.pd (y.prk ++ [u]) (upd y.pr u h7.objs.size) := by
        have := r9.at (h' := h10) fun o e => sb10.extBut _ o (Nat.ne_of_lt hpdlt) e
        rwa [show addk y.prk u = y.prk ++ [u] by rw [addk, if_neg hup]] at this
      have ra : Row prog wd RI h10 h7.objs.size [v] (fun _ => u) := by
        have := r10
        rw [show addk ([] : List Int) v = [v] by simp [addk], upd_same] at this
        exact this
      obtain ⟨ok10, M10⟩ := Mats.newP ok5 hup hu M7 (Nat.le_refl _) k10 rp ra
      have hfa := FrN h7.objs.size (Nat.le_of_eq hsz7)
      have low10 : ∀ b, (b = y.dd ∨ b = y.pd ∨ (layU y u [v] h7.objs.size).row b) → Fr b ∧ b ≠ h.objs.size + 1 := fun b hb => by
        rcases hb with rfl | rfl | hb | ⟨j, hj, rfl⟩
        · exact F5.inv.1.low _ (.inl rfl)
        · exact hpd
        · exact F5.inv.1.low _ (.inr (.inr (.inl hb)))
        · show Fr (upd y.pr u h7.objs.size j) ∧ upd y.pr u h7.objs.size j ≠ _
          by_cases ej : j = u
          · subst ej; rw [upd_at]; exact hfa
          · rw [show upd y.pr u h7.objs.size j = y.pr j by simp [upd, ej]]
            rcases List.mem_append.mp hj with q | q
            · exact F5.inv.1.low _ (.inr (.inr (.inr ⟨j, q, rfl⟩)))
            · exact absurd (List.mem_singleton.mp q) ej
      have et : ({ tabU s W u [] with D := upd (tabU s W u []).D u (rowU W [v]), K := upd (tabU s W u []).K u [v], P := upd (tabU s W u []).P u fun _ => u } : Tbl) = tabU s W u ([] ++ [v]) := by
        simp only [tabU, upd_upd, List.nil_append]
      have lam10 : LamA wf wq wc h10 := LamA.dep h7 h10 (fun b o qb e => k10 b o (by
        obtain ⟨n1, n2, n3⟩ := fo.lam _ hpd.1
        rcases qb with rfl | rfl | rfl
        · exact n1.symm
        · exact n2.symm
        · exact n3.symm) (Nat.ne_of_lt (lam7.lt b qb)) e) lam7
      have ko10 : KO (fun b => b = L ∨ (Fr b ∧ b ≠ h.objs.size + 1)) h1 h10 := ko7.drop (V := fun b => b = y.pd ∨ b = h7.objs.size) (fun b o n e => k10 b o (fun z => n (.inl z)) (fun z => n (.inr z)) e) fun b hb => by
        rcases hb with rfl | rfl
        · exact .inl (.inr hpd)
        · exact .inl (.inr hfa)
      refine wpAny_execs_nil (wpAny_execs_nil (fin h10 t10 h7.objs.size ko10 ?_))
      refine F9.upd (a := h7.objs.size) (Nat.le_trans F7.above (Nat.le_of_lt F7.loc.lt)) (Nat.ne_of_gt F7.loc.lt) sb10.extBut ⟨?_, lam10⟩ (inP.stb fo' low10)
      rw [← et]
      exact ⟨ok10, low10, M10⟩
    | cons z q =>
      let y' : Lay := { y with prk := y.prk ++ [u], pr := upd y.pr u a }
      have hupr : u ∈ y'.prk := List.mem_append_right _ (.head _)
      have hpra : y'.pr u = a := upd_at ..
      have M5 : Mats prog wd y' (tabU s W u (z :: q)) h5 := F5.inv.1.mats
      have ok5 : y'.Ok := F5.inv.1.ok
      have low5 : ∀ b, (b = y.dd ∨ b = y.pd ∨ y'.row b) → Fr b ∧ b ≠ h.objs.size + 1 := F5.inv.1.low
      refine wpAny_execs_cons (wpAny_Assign_Subscript (nm F5 (by walk_at "mem") (Subscript_ (nm F5 (by walk_at "mem") (nm F5 (by walk_at "mem") (row_itm (d := y.dd) M5.d hu fun v6 t6 r6 => ?_))))))
      cases r6
      refine nm F5 (by walk_at "mem") (row_set (M5.drow u hu) (show RE _ (some (W v)) from ⟨tc, rfl⟩) (Nat.le_trans ok5.len (by decide)) fun h7 t7 r7 sb7 => ?_)
      have r7 : Row prog wd RE h7 (y.dr u) y.N (rowU W (z :: q ++ [v])) := by
        have : Row prog wd RE h7 (y.dr u) (addk y.N v) (upd ((tabU s W u (z :: q)).D u) v (some (W v))) := r7
        rw [show addk y.N v = y.N by rw [addk, if_pos hvN]] at this
        rw [rowU_snoc]
        exact this.congr fun j _ => by simp [tabU, upd]
      have M7 : Mats prog wd y' { tabU s W u (z :: q) with D := upd (tabU s W u (z :: q)).D u (rowU W (z :: q ++ [v])) } h7 := M5.setD ok5 hu r7 sb7
      have hdu : Fr (y.dr u) ∧ y.dr u ≠ h.objs.size + 1 := low5 _ (.inr (.inr (.inl ⟨u, hu, rfl⟩)))
      have hpu : Fr (y'.pr u) ∧ y'.pr u ≠ h.objs.size + 1 := low5 _ (.inr (.inr (.inr ⟨u, hupr, rfl⟩)))
      have lam7 : LamA wf wq wc h7 := F5.inv.2.but fo' hdu sb7.extBut
      have F7 := F5.upd (P' := inP prog wd (fun b => Fr b ∧ b ≠ h.objs.size + 1) wf wq wc y' { tabU s W u (z :: q) with D := upd (tabU s W u (z :: q)).D u (rowU W (z :: q ++ [v])) }) (fo.old _ hdu.1) (fo.fl _ hdu.1) sb7.extBut ⟨⟨ok5, low5, M7⟩, lam7⟩ (inP.stb fo' low5)
      have ko7 := ko5.but sb7 (.inr hdu)
      have M7p : Row prog wd RR h7 y.pd y'.prk y'.pr := M7.p
      have F8 := F7.push { cls := .type "dict", data := .dict #[] }
      refine wpAny_execs_cons (wpAny_Assign_Subscript (nm F7 (by walk_at "mem") (MethodCall_ (nm F7 (by walk_at "mem") (getmk PySem.F.slot_dict_setdefault PySem.F.type_dict_setdefault M7p (callWith_builtin rfl (evalArgs_plain (args_cons (nm F7 (by walk_at "mem") (args_cons (wpAny_Dict_empty (args_nil
        (setdef_new (intKind_is prog wd u tu) (M7p.keep (Keep.push _ _)) (by show (y.prk ++ [u]).length ≤ _; simp; omega) (show RR _ h7.objs.size from rfl) (fun _ v9 t9 r9 => ?_) (fun hm => absurd hupr hm))))))))))))))
      cases r9
      refine nm F8 (by walk_at "mem") (row_set (F8.inv.1.mats.prow u hupr) ⟨tu, rfl⟩ (by show (upd s.K u (z :: q) u).length ≤ _; rw [upd_at]; omega) fun h10 t10 r10 sb10 => ?_)
      have M10 := F8.inv.1.mats.setP ok5 hupr r10 sb10
      have et : ({ tabU s W u (z :: q) with D := upd (tabU s W u (z :: q)).D u (rowU W (z :: q ++ [v])), K := upd (tabU s W u (z :: q)).K u (addk ((tabU s W u (z :: q)).K u) v), P := upd (tabU s W u (z :: q)).P u (upd ((tabU s W u (z :: q)).P u) v u) } : Tbl) = tabU s W u (z :: q ++ [v]) := by
        simp only [tabU, upd_upd, upd_at, upd_same]
        rw [show addk (z :: q) v = z :: q ++ [v] by rw [addk, if_neg hvp]]
      have lam10 : LamA wf wq wc h10 := F8.inv.2.but fo' hpu sb10.extBut
      have ko10 := (ko7.keep (Keep.push h7 { cls := .type "dict", data := .dict #[] })).but sb10 (.inr hpu)
      refine wpAny_execs_nil (wpAny_execs_nil (fin h10 t10 a ko10 ?_))
      refine F8.upd (a := y'.pr u) (fo.old _ hpu.1) (fo.fl _ hpu.1) sb10.extBut ⟨?_, lam10⟩ (inP.stb fo' low5)
      rw [← et]
      exact ⟨ok5, low5, M10⟩
  · rintro h' t' ⟨ko, a, vo, eo, co, F1⟩
    refine hQ h' t' a vo eo co ko (F1.say ⟨F1.inv.1.free fun b _ x => x.1, F1.inv.2⟩ (inP.stb fo fun b q => (F1.inv.1.low b q).1))
end
end Mine
end
section
open PySem PySem.W PyProof.Rows PySem.Calls
set_option maxRecDepth 100000
namespace Mine
section
variable {prog : Program} {w : World} {A : Around} {env : Env} {c : Cst} {h : Heap} {t : Nat} {s : Shared}
variable {K : Type} [DecidableEq K] {knd : KeyKind prog w K} {α : Type} {R : Value → α → Prop} {d : Addr} {ks : List K} {f : K → α}

theorem for_rule_E {E : Value → Shared → Prop} {target iter : Expr} {body : List Stmt} {pos : Pos} {Q : Flow → Shared → Prop} (hE : PassesOwn (model prog w) A env E)
    (hi : wpAny (model prog w) A (eval iter env) (fun x s₁ => wpAny (model prog w) A (pyIter x) (fun it s₂ =>
      ∃ J : Nat → Shared → Prop, (∃ n₀, J n₀ s₂) ∧ ∀ n s, J n s → wpAny (model prog w) A (pyNext it) (fun r s₁ => match r with
        | none => Q .next s₁
        | some v => wpAny (model prog w) A (letOwnedTupleGo target it v) (fun _ s₁' => wpAny (model prog w) A (assign target env v) (fun _ s₂ =>
            wpAny (model prog w) A (execs body env) (fun f s₃ => match f with
              | .next | .cont => ∃ m, m < n ∧ J m s₃
              | .brk => Q .next s₃
              | .ret v => Q (.ret v) s₃) E s₂) NE s₁') NE s₁) NE s) NE s₁) NE s)
    (hs : ∀ x, foldedSetIterable iter env x = pure x := by intro _; rfl) :
    wpAny (model prog w) A (exec (.For target iter body [] pos) env) Q E s := by
  refine wpAny_For ?_ hs
  refine wpAny_noRaise (wpAny_mono hi (fun x s₁ h₁ => ?_) (fun _ _ x => x))
  refine wpAny_noRaise (wpAny_mono h₁ (fun it s₂ h₂ => ?_) (fun _ _ x => x))
  obtain ⟨J, ⟨n₀, h0⟩, turn⟩ := h₂
  refine codeAny_forLoop_any J (fun n s hJ => ?_) n₀ h0
  refine wpAny_noRaise (wpAny_mono (turn n s hJ) (fun r s₁ h₁ => ?_) (fun _ _ x => x))
  cases r with
  | none => exact wpAny_execs_nil h₁
  | some v =>
    refine wpAny_noRaise (wpAny_mono h₁ (fun _ s₁' h₁' => ?_) (fun _ _ x => x))
    refine wpAny_noRaise (wpAny_mono h₁' (fun _ s₂ h₂ => ?_) (fun _ _ x => x))
    exact wpAny_passesOwn hE (wpAny_mono h₂ (fun f s₃ h₃ => by cases f <;> exact h₃) fun _ _ x => x)

def ItemsE (E : Value → Shared → Prop) (knd : KeyKind prog w K) (R : Value → α → Prop) (A : Around) (env : Env) (c : Cst) (xa xb : Str) (body : List Stmt) (Q : Flow → Shared → Prop) (Wr : Addr → Prop) (x : Value) (s₁ : Shared) : Prop :=
  ∃ (v : Addr) (h1 : Heap) (t1 : Nat) (d : Addr) (ks : List K) (f : K → α) (Inv : List K → List K → Heap → Nat → Prop), x = .ref v ∧ s₁ = mk c h1 t1 ∧ h1.IsItemsView v d ∧ RowK knd R h1 d ks f ∧ ¬ Wr d ∧ ¬ Wr h1.objs.size ∧
    Inv [] ks h1 t1 ∧ (∀ p r h t h' t', (∀ b o, b ≠ h1.objs.size → h.get? b = some o → h'.get? b = some o) → Inv p r h t → Inv p r h' t') ∧
    (∀ p i r h t, ks = p ++ i :: r → h1.objs.size < h.objs.size → Inv p (i :: r) h t → ∀ key v, knd.is i key = true → R v (f i) → wpAny (model prog w) A (storeName env xa key) (fun _ s₂ => wpAny (model prog w) A (storeName env xb v) (fun _ s₃ =>
      wpAny (model prog w) A (execs body env) (Turn c Wr h Q (Inv (p ++ [i]) r)) E s₃) NE s₂) NE (mk c h t)) ∧
    (∀ h t, Inv ks [] h t → Q .next (mk c h t))

theorem for_items_E {xa xb : Str} {pa pb pt pos : Pos} {kk} {iter : Expr} {body : List Stmt} {Q : Flow → Shared → Prop} {E : Value → Shared → Prop} (hE : PassesOwn (model prog w) A env E) (hA : A.handled = none) (Wr : Addr → Prop)
    (hi : wpAny (model prog w) A (eval iter env) (ItemsE E knd R A env c xa xb body Q Wr) NE s)
    (hs : ∀ x, foldedSetIterable iter env x = pure x := by intro _; rfl) :
    wpAny (model prog w) A (exec (.For (.Tuple [.Name xa pa, .Name xb pb] kk pt) iter body [] pos) env) Q E s := by
  refine for_rule_E hE (wpAny_mono hi (fun x s₁ h₁ => ?_) fun _ _ e => e) hs
  obtain ⟨v, h1, t1, d, ks, f, Inv, rfl, rfl, hv, x, hd, hWI, i0, hst, turn, fin⟩ := h₁
  have hlt := x.lt
  obtain ⟨hs, kvs, q, hk, r⟩ := x
  obtain ⟨ep, hat⟩ := q.dictAt
  have hne : d ≠ h1.objs.size := Nat.ne_of_lt hlt
  have hlen : ks.length = kvs.length := by rw [← hk, List.length_map]
  refine wpAny_pyIter_items (s := mk c h1 t1) hv hat ?_
  refine ⟨fun k s => ∃ i h t ok ov, s = mk c h t ∧ k = kvs.length - i ∧ i ≤ kvs.length ∧ IsItemIter h h1.objs.size d i kvs.length ep ok ov ∧ h.DictAt knd d kvs ep ∧ Inv (ks.take i) (ks.drop i) h t,
    ⟨kvs.length, 0, _, t1, .none, .none, rfl, rfl, Nat.zero_le _, Heap.get?_push_size _ rfl, hat.push _, hst [] ks h1 t1 _ t1 (fun b o _ e => Heap.get?_push_of_some _ e) i0⟩, ?_⟩
  rintro k s ⟨i, h, t, ok, ov, rfl, rfl, hle, hit, hat, iv⟩
  rcases Nat.lt_or_ge i kvs.length with hi | hge
  · obtain ⟨⟨kk, xv⟩, hx⟩ : ∃ p, kvs[i]? = some p := ⟨kvs[i], by simp [hi]⟩
    refine wpAny_pyNext_items_item (s := mk c h t) hit hat hx fun key h2 hkey hout htup hsz hk2 => ?_
    refine wpAny_letOwnedTupleGo_items hout fun h3 hit3 hs3 => ?_
    have hit3n : h.objs.size ≠ h1.objs.size := Nat.ne_of_gt (Heap.lt_size hit)
    have htup3 : h3.get? h.objs.size = some { cls := .type "tuple", data := .seq #[key, xv] } := hs3.extBut _ _ hit3n htup
    refine assign2 (c := c) (t := t) hA ⟨_, htup3⟩ fun h4 k4 => ?_
    have hk4 : ∀ b o, b ≠ h1.objs.size → h.get? b = some o → h4.get? b = some o := fun b o hb e => k4 b o (hs3.extBut b o hb (hk2 b o hb e))
    have hi' : i < ks.length := by rw [hlen]; exact hi
    have hki : ks[i] = kk := by
      have := List.getElem?_map (f := (·.1)) (l := kvs) (i := i)
      rw [hk, hx] at this
      rw [List.getElem?_eq_getElem hi'] at this
      exact Option.some.inj this
    have e1 : ks.drop i = kk :: ks.drop (i + 1) := by rw [List.drop_eq_getElem_cons hi', hki]
    have e2 : ks.take (i + 1) = ks.take i ++ [kk] := by rw [List.take_succ, List.getElem?_eq_getElem hi', hki]; rfl
    have iv4 := hst _ _ h t h4 t hk4 iv
    rw [e1] at iv4
    have hR : R xv (f kk) := r (kk, xv) (List.mem_of_getElem? hx)
    refine wpAny_mono (turn (ks.take i) kk (ks.drop (i + 1)) h4 t (by rw [← e1, List.take_append_drop]) (Heap.lt_size (k4 _ _ hit3)) iv4 key xv hkey hR) (fun _ s₂ h₂ => wpAny_mono h₂ (fun _ s₃ h₃ => wpAny_mono h₃ (fun fl s₄ h₄ => ?_) fun _ _ e => e) fun _ _ e => e) fun _ _ e => e
    have hit4 : IsItemIter h4 h1.objs.size d (i + 1) kvs.length ep key xv := k4 _ _ hit3
    have hat4 : h4.DictAt knd d kvs ep := (hat.extBut (fun b o hb e => hk2 b o hb e) hne).extBut hs3.extBut hne |>.keep k4
    have fin' : ∀ h' t', s₄ = mk c h' t' → KO Wr h4 h' → Inv (ks.take i ++ [kk]) (ks.drop (i + 1)) h' t' → ∃ m, m < kvs.length - i ∧ ∃ i h t ok ov, s₄ = mk c h t ∧ m = kvs.length - i ∧ i ≤ kvs.length ∧ IsItemIter h h1.objs.size d i kvs.length ep ok ov ∧ h.DictAt knd d kvs ep ∧ Inv (ks.take i) (ks.drop i) h t :=
      fun h' t' e ko iv' => ⟨kvs.length - (i + 1), by omega, i + 1, h', t', key, xv, e, rfl, hi, ko _ _ hWI hit4, let ⟨o, es, ho, r⟩ := hat4; ⟨o, es, ko _ _ hd ho, r⟩, by rw [e2]; exact iv'⟩
    cases fl with
    | next => obtain ⟨h', t', e, ko, iv'⟩ := h₄; exact fin' h' t' e ko iv'
    | cont => obtain ⟨h', t', e, ko, iv'⟩ := h₄; exact fin' h' t' e ko iv'
    | brk => exact h₄
    | ret v => exact h₄
  · obtain rfl : i = kvs.length := Nat.le_antisymm hle hge
    refine wpAny_pyNext_items_end (s := mk c h t) hA hit hat (by simp) fun h' he => ?_
    have iv' := hst _ _ h t h' t (fun b o hb e => he b o hb e) iv
    rw [← hlen, List.take_length, List.drop_length] at iv'
    exact fin h' t iv'

end
end Mine
end
section
open PySem PySem.W PyProof.Rows PySem.Calls
set_option maxRecDepth 100000
namespace Mine
local macro_rules | `(tactic| walk_at "mem") => `(tactic| with_reducible (first | exact List.mem_cons_self | (refine List.mem_cons_of_mem _ ?_; walk_at "mem")))
/-- an attribute of the graph -/
def GAttr (prog : Program) (wd : World) (h0 : Heap) (g : Addr) (x : Str) (v : Value) : Prop :=
  ∀ (A : Around) (c : Cst) h t (Q : Value → Shared → Prop) (b : Bool), Keep h0 h → (∀ t', Q v (mk c h t')) → wpAny (model prog wd) A (getAttr (.ref g) x b) Q NE (mk c h t)
theorem Mats.tab0 {prog wd} {y : Lay} {s : Tbl} {h : Heap} {u : Int} (W : Int → Int) (hup : u ∉ y.prk) (hD : s.D u = fun _ => none) (x : Mats prog wd y s h) : Mats prog wd y (tabU s W u []) h := by
  refine ⟨x.d, fun i hi => ?_, x.p, fun i hi => ?_⟩
  · by_cases e : i = u
    · subst e
      have := x.drow i hi
      rw [hD] at this
      show Row prog wd RE h (y.dr i) y.N (upd s.D i (rowU W []) i)
      rw [upd_at]; exact this
    · show Row prog wd RE h (y.dr i) y.N (upd s.D u (rowU W []) i)
      simp only [upd, if_neg e]; exact x.drow i hi
  · have e : i ≠ u := fun z => hup (z ▸ hi)
    show Row prog wd RI h (y.pr i) (upd s.K u [] i) (upd s.P u (fun _ => u) i)
    simp only [upd, if_neg e]; exact x.prow i hi
def stepT (nbr : Int → List Int) (W : Int → Int → Int) (s : Tbl) (u : Int) : Tbl := ⟨upd s.D u (upd (rowU (W u) (nbr u)) u (some 0)), upd s.K u (nbr u), upd s.P u fun _ => u⟩
def tab00 : Tbl := ⟨fun _ _ => none, fun _ => [], fun _ _ => 0⟩
def foldT (nbr : Int → List Int) (W : Int → Int → Int) (p : List Int) : Tbl := p.foldl (stepT nbr W) tab00
theorem foldT_none (nbr : Int → List Int) (W : Int → Int → Int) (u : Int) : ∀ (p : List Int) (s : Tbl), u ∉ p → s.D u = (fun _ => none) → (p.foldl (stepT nbr W) s).D u = fun _ => none
  | [], _, _, h => h
  | v :: r, s, hn, h => by
    refine foldT_none nbr W u r _ (fun z => hn (.tail _ z)) ?_
    show upd s.D v _ u = _
    rw [upd, if_neg (fun z : u = v => hn (by rw [z]; exact .head _))]; exact h
def NegLoop (N : List Int) (nbr : Int → List Int) (W : Int → Int → Int) (u : Int) : Prop := u ∈ N ∧ u ∈ nbr u ∧ W u u < 0

section
variable {prog : Program} {wd : World} {A : Around} {c : Cst} {hB h : Heap} {t : Nat} {L f g nd wf wq wc adj dd pd : Addr} {cd : Value} {E : Value → Shared → Prop}
theorem in_loop {Fr : Addr → Prop} {y0 : Lay} {nbr : Int → List Int} {W : Int → Int → Int} {inn : Int → Addr} {uo vo no eo co : Option Value} {Q : Flow → Shared → Prop} (hE : PassesOwn (model prog wd) A (inEnv cd L f) E) (hA : A.handled = none) (hroom : A.depth < recursionLimit) (G : Gl hB) (U : Unb hB)
    (ndp : y0.N.Nodup) (hlen : y0.N.length ≤ 1000) (hp0 : y0.prk = []) (GA : GAttr prog wd hB g "_adj" (.ref adj)) (hadj : Row prog wd RR hB adj y0.N inn) (hnb : ∀ u ∈ y0.N, NbAt prog wd hB (inn u) (nbr u) (W u) ∧ (∀ v ∈ nbr u, v ∈ y0.N) ∧ (nbr u).length ≤ 1000)
    (fo : FrOk Fr hB L wf wq wc) (hFr : ∀ b, h.objs.size ≤ b → Fr b) (hc : h.IsCell (L + 1) (some (.ref g)))
    (F : Fn (inEnv cd L f) hB (inP prog wd Fr wf wq wc y0 tab00) h (inl (some (.ref wf)) uo vo (some (.ref y0.dd)) (some (.ref y0.pd)) no eo co))
    (hR : ∀ u, NegLoop y0.N nbr W u → ∀ h' l, Fn (inEnv cd L f) hB (fun _ => True) h' l → KO (fun b => b = L ∨ Fr b) h h' → ∀ h'' e t'' args, Heap.MadeExcOf h' h'' e (.ref 68) args → E (.ref e) (mk c h'' t''))
    (hQ : ∀ h' t' y uo vo no eo co, (∀ u, ¬ NegLoop y0.N nbr W u) → y.N = y0.N → y.dd = y0.dd → y.pd = y0.pd → y.prk = y0.N.filter (fun u => !(nbr u).isEmpty) → KO (fun b => b = L ∨ Fr b) h h' →
      Fn (inEnv cd L f) hB (inP prog wd Fr wf wq wc y (foldT nbr W y0.N)) h' (inl (some (.ref wf)) uo vo (some (.ref y0.dd)) (some (.ref y0.pd)) no eo co) → Q .next (mk c h' t')) :
    wpAny (model prog wd) A (exec inF (inEnv cd L f)) Q E (mk c h t) := by
  have fo' : FrOk (fun b => Fr b ∧ b ≠ h.objs.size + 1) hB L wf wq wc := ⟨fun b x => fo.old b x.1, fun b x => fo.fl b x.1, fun b x => fo.lam b x.1, fo.ll⟩
  have hI : h.objs.size + 1 = (h.push { cls := .type "dict_items", data := .fields #[.ref adj] }).objs.size := (Heap.size_push ..).symm
  have hLI : L ≠ h.objs.size + 1 := Nat.ne_of_lt (Nat.lt_succ_of_lt F.loc.lt)
  refine for_items_E (c := c) (R := RR) (knd := intKind prog wd) hE hA (fun b => b = L ∨ (Fr b ∧ b ≠ h.objs.size + 1)) (MethodCall_ (Attribute_Name_ (nmc hc (GA _ _ _ _ _ _ F.keep fun t1 => getmk PySem.F.slot_dict_items PySem.F.type_dict_items (hadj.keep F.keep) (callWith_builtin rfl (PySem.evalArgs_none (items_m (hadj.keep F.keep) fun hv => ?_)))))))
  have F0 := F.push { cls := .type "dict_items", data := .fields #[.ref adj] }
  refine ⟨_, _, _, adj, y0.N, inn, fun p r h' t' => (∀ u ∈ p, ¬ NegLoop y0.N nbr W u) ∧ KO (fun b => b = L ∨ Fr b) h h' ∧ ∃ y uo vo no eo co, y.N = y0.N ∧ y.dd = y0.dd ∧ y.pd = y0.pd ∧ y.prk = p.filter (fun u => !(nbr u).isEmpty) ∧
      Fn (inEnv cd L f) hB (inP prog wd (fun b => Fr b ∧ b ≠ h.objs.size + 1) wf wq wc y (foldT nbr W p)) h' (inl (some (.ref wf)) uo vo (some (.ref y0.dd)) (some (.ref y0.pd)) no eo co),
    rfl, rfl, hv, (hadj.keep F0.keep), ?_, ?_, ⟨by simp, (Keep.push _ _).ko, y0, uo, vo, no, eo, co, rfl, rfl, rfl, by simpa using hp0, ?_⟩, ?_, ?_, ?_⟩
  · rintro (q | q)
    · exact absurd (q ▸ hadj.lt) (Nat.not_lt.mpr F.above)
    · exact absurd hadj.lt (Nat.not_lt.mpr (fo.old _ q.1))
  · rintro (q | q)
    · exact hLI (q.symm.trans hI.symm)
    · exact q.2 hI.symm
  · have Fx := F.say (P' := inP prog wd (fun b => Fr b ∧ b ≠ h.objs.size + 1) wf wq wc y0 (foldT nbr W [])) ⟨F.inv.1.free fun b hb x => ⟨x, Nat.ne_of_lt (Nat.lt_succ_of_lt hb)⟩, F.inv.2⟩ (inP.stb fo' fun b q => ⟨F.inv.1.low b q, Nat.ne_of_lt (Nat.lt_succ_of_lt (F.inv.1.lt b q))⟩)
    exact Fx.push _
  · rintro p r h1 t1 h' t' e ⟨hneg, ko, y, uo, vo, no, eo, co, y1, y2, y3, y4, F1⟩
    have e : ∀ b o, b ≠ h.objs.size + 1 → h1.get? b = some o → h'.get? b = some o := fun b o n q => e b o (fun z => n (z.trans hI.symm)) q
    refine ⟨hneg, ko.ext e (Nat.le_succ _), y, uo, vo, no, eo, co, y1, y2, y3, y4, F1.off inP.dep ?_ ?_ ?_ e⟩
    · rintro (x | x)
      · exact (F1.inv.1.low _ x).2 rfl
      · exact Nat.lt_irrefl _ (Nat.lt_succ_of_lt (F.inv.2.lt _ x))
    · exact Nat.le_trans F.above (Nat.le_of_lt (Nat.lt_succ_of_lt F.loc.lt))
    · exact hLI.symm
  · rintro p u r h1 t1 hN hbig ⟨hneg, ko, y, uo, vo, no, eo, co, y1, y2, y3, y4, F1⟩ key iv hkey hiv
    have hbig : h.objs.size + 1 < h1.objs.size := by rw [hI]; exact hbig
    have hu0 : u ∈ y0.N := by rw [hN]; simp
    have hu : u ∈ y.N := y1 ▸ hu0
    have hup0 : u ∉ p := fun z => by
      have nd := ndp
      rw [hN] at nd
      exact (List.nodup_append.mp nd).2.2 u z u (.head _) rfl
    have hup : u ∉ y.prk := fun z => hup0 (by rw [y4] at z; exact (List.mem_filter.mp z).1)
    obtain ⟨tu, rfl⟩ : ∃ tk, key = .int u tk := by
      cases key <;> simp [intKind, Value.isInt] at hkey
      subst hkey; exact ⟨_, rfl⟩
    cases hiv
    obtain ⟨hNB, hnN, hnl⟩ := hnb u hu0
    have hprl : y.prk.length ≤ 1000 := by
      rw [y4]
      have h1 := List.length_filter_le (fun u => !(nbr u).isEmpty) p
      have h2 : p.length ≤ y0.N.length := by rw [hN]; simp
      omega
    have hstep : foldT nbr W (p ++ [u]) = stepT nbr W (foldT nbr W p) u := by simp [foldT]
    have hDn : (foldT nbr W p).D u = fun _ => none := foldT_none nbr W u p tab00 hup0 rfl
    generalize foldT nbr W p = σ at F1 hstep hDn
    rw [← y2, ← y3] at F1
    refine st1 F1 fun h2 t2 F2 s2 => st5 F2 fun h3 t3 F3 s3 => ?_
    have ko3 : KO (fun b => b = L ∨ (Fr b ∧ b ≠ h.objs.size + 1)) h1 h3 := ((KO.refl h1).but s2 (.inl rfl)).but s3 (.inl rfl)
    have hsz3 : h3.objs.size = h1.objs.size := by rw [s3.1, s2.1]
    have F3' := F3.say (P' := inP prog wd (fun b => Fr b ∧ b ≠ h.objs.size + 1) wf wq wc y (tabU σ (W u) u [])) ⟨⟨F3.inv.1.ok, F3.inv.1.low, F3.inv.1.mats.tab0 (W u) hup hDn⟩, F3.inv.2⟩ (inP.stb fo' F3.inv.1.low)
    have hFr3 : ∀ b, h3.objs.size ≤ b → Fr b ∧ b ≠ h.objs.size + 1 := fun b hb => by
      rw [hsz3] at hb
      exact ⟨hFr b (Nat.le_trans (Nat.le_of_lt (Nat.lt_of_succ_lt hbig)) hb), Nat.ne_of_gt (Nat.lt_of_lt_of_le hbig hb)⟩
    refine wpAny_execs_cons (wpAny_noRaise (in_edges hA hroom G hu hup (fun v hv => y1 ▸ hnN v hv) hNB hnl hprl fo' hFr3 F3' fun h4 t4 a vo eo co ko4 F4 => ?_))
    obtain ⟨e1, e2, e3, e4⟩ := layU_N (y := y) (u := u) (q := nbr u) (a := a)
    have ko4' := ko3.trans ko4
    generalize hy' : layU y u (nbr u) a = y' at F4 e1 e2 e3 e4
    rw [← e2, ← e3] at F4
    have hu' : u ∈ y'.N := e1 ▸ hu
    have M4 := F4.inv.1.mats
    have hDu : (tabU σ (W u) u (nbr u)).D u = rowU (W u) (nbr u) := upd_at ..
    refine wpAny_execs_cons (wpAny_If (wpAny_isTrue_Compare1 (Subscript_ (Subscript_ (nm F4 (by walk_at "mem") (nm F4 (by walk_at "mem") (row_itm M4.d hu' fun v5 t5 r5 => ?_)))))))
    cases r5
    refine nm F4 (by walk_at "mem") (row_itm (M4.drow u hu') hu' fun v6 t6 r6 => ?_)
    rw [hDu] at r6
    refine wpAny_Constant_int (lt_zero (c := c) (h := h4) (t := t6 + 1) r6 (wpAny_truthy_bool ?_))
    split
    · rename_i hlt
      have hng : NegLoop y0.N nbr W u := by
        unfold rowU at hlt
        split at hlt
        · rename_i hm
          exact ⟨hu0, hm, by simpa [ltE] using hlt⟩
        · simp [ltE] at hlt
      refine wpAny_execs_cons (raise_unb (U.keep F4.keep) hA fun h'' e t'' tk hx => ?_)
      exact hR u hng h4 _ (F4.say trivial Stb.true) (ko.trans (ko4'.mono fun b x => x.elim .inl fun z => .inr z.1)) h'' e t'' _ hx
    · rename_i hlt
      refine wpAny_execs_nil ?_
      refine wpAny_execs_cons (wpAny_noRaise (wpAny_Assign_Subscript (wpAny_Constant_int (Subscript_ (nm F4 (by walk_at "mem") (nm F4 (by walk_at "mem") (row_itm (c := c) (t := t6 + 1 + 1) M4.d hu' fun v7 t7 r7 => ?_)))))))
      cases r7
      refine nm F4 (by walk_at "mem") (row_set (M4.drow u hu') (show RE _ (some 0) from ⟨_, rfl⟩) (Nat.le_trans F4.inv.1.ok.len (by decide)) fun h8 t8 r8 sb8 => ?_)
      have r8 : Row prog wd RE h8 (y'.dr u) y'.N (upd (rowU (W u) (nbr u)) u (some 0)) := by
        have := r8
        rw [show addk y'.N u = y'.N by rw [addk, if_pos hu'], hDu] at this
        exact this
      have M8 := M4.setD F4.inv.1.ok hu' r8 sb8
      have hdu : Fr (y'.dr u) ∧ y'.dr u ≠ h.objs.size + 1 := F4.inv.1.low _ (.inr (.inr (.inl ⟨u, hu', rfl⟩)))
      have lam8 : LamA wf wq wc h8 := F4.inv.2.but fo' hdu sb8.extBut
      have ko8 := ko4'.but sb8 (.inr hdu)
      have F8 := F4.upd (P' := inP prog wd (fun b => Fr b ∧ b ≠ h.objs.size + 1) wf wq wc y' (foldT nbr W (p ++ [u]))) (fo.old _ hdu.1) (fo.fl _ hdu.1) sb8.extBut ⟨⟨F4.inv.1.ok, F4.inv.1.low, by rw [hstep]; simpa only [stepT, tabU, upd_upd] using M8⟩, lam8⟩ (inP.stb fo' F4.inv.1.low)
      refine wpAny_execs_nil ⟨h8, t8, rfl, ko8, fun x hx => ?_, ko.trans (ko8.mono fun b x => x.elim .inl fun z => .inr z.1), y', some (.int u tu), vo, some (.ref (inn u)), eo, co, e1.trans y1, e2.trans y2, e3.trans y3, ?_, by rw [← y2, ← y3, ← e2, ← e3]; exact F8⟩
      · rcases List.mem_append.mp hx with q | q
        · exact hneg x q
        · rw [List.mem_singleton.mp q]
          rintro ⟨_, hm, hw⟩
          refine hlt ?_
          unfold rowU
          rw [if_pos hm]
          simpa [ltE] using hw
      · rw [← hy', List.filter_append, ← y4]
        cases hnbr : nbr u with
        | nil => simp [layU, hnbr]
        | cons z q => simp [layU, hnbr]
  · rintro h' t' ⟨hneg, ko, y, uo, vo, no, eo, co, y1, y2, y3, y4, F1⟩
    exact hQ h' t' y uo vo no eo co (fun u hu => hneg u hu.1 hu) y1 y2 y3 y4 ko (F1.say ⟨F1.inv.1.free fun b _ x => x.1, F1.inv.2⟩ (inP.stb fo fun b q => (F1.inv.1.low b q).1))
end
end Mine
end
section
open PySem PySem.W PyProof.Rows PySem.Calls
set_option maxRecDepth 100000
namespace Mine
local macro_rules | `(tactic| walk_at "mem") => `(tactic| with_reducible (first | exact List.mem_cons_self | (refine List.mem_cons_of_mem _ ?_; walk_at "mem")))

/-- the graph, on the base heap -/
structure Gr (prog : Program) (wd : World) (hB : Heap) (g nd adj : Addr) (N : List Int) (nbr : Int → List Int) (W : Int → Int → Int) (inn : Int → Addr) : Prop where
  it : ∀ c, GIter prog wd c hB g nd N
  at_ : GAttr prog wd hB g "_adj" (.ref adj)
  ndo : ∃ o, hB.get? nd = some o
  nodup : N.Nodup
  len : N.length ≤ 1000
  row : Row prog wd RR hB adj N inn
  nb : ∀ u ∈ N, NbAt prog wd hB (inn u) (nbr u) (W u) ∧ (∀ v ∈ nbr u, v ∈ N) ∧ (nbr u).length ≤ 1000
theorem Gr.nd {prog wd hB g nd adj N nbr W inn} (x : Gr prog wd hB g nd adj N nbr W inn) : nd < hB.objs.size := let ⟨_, e⟩ := x.ndo; Heap.lt_size e
/-- what the base heap holds of the program -/
structure Bs (hB : Heap) : Prop where
  G : Gl hB
  U : Unb hB
  f77 : FnAt hB 77 (S 7) "_weight_function" .none (.ref 76)
  f82 : FnAt hB 82 (S 9) "_init_pred_dist" .none (.ref 81)
/-- both tables, as built -/
structure Made (prog : Program) (wd : World) (N : List Int) (nbr : Int → List Int) (W : Int → Int → Int) (n0 : Nat) (y : Lay) (h : Heap) : Prop where
  ok : y.Ok
  hN : y.N = N
  prk : y.prk = N.filter fun u => !(nbr u).isEmpty
  low : ∀ b, (b = y.dd ∨ b = y.pd ∨ y.row b) → n0 ≤ b
  mats : Mats prog wd y (foldT nbr W N) h

theorem FnLam.ne {f : Addr} {h : Heap} {a q c' : Addr} (x : LamA f q c' h) {o : Obj} {es ep} (e : h.get? a = some o) (d : o.data = .dict es ep) : f ≠ a ∧ q ≠ a ∧ c' ≠ a := by
  obtain ⟨_, _, _, e1, ⟨_, _, _, _, e2, e3, e5, _⟩, ⟨_, e4, e6⟩⟩ := x
  refine ⟨fun z => ?_, fun z => ?_, fun z => ?_⟩
  · rw [z, e] at e1; cases e1; cases d
  · rw [z, e] at e4; cases e4; rw [d] at e6; cases e6
  · cases e2; rw [z, e] at e3; cases e3; rw [d] at e5; cases e5
theorem ns_dict {h : Heap} {a : Addr} {m} (x : h.Ns a m) : ∃ o es ep, h.get? a = some o ∧ o.data = .dict es ep := let ⟨o, es, ep, e, d, _⟩ := x; ⟨o, es, ep, e, d⟩
theorem RowK.dict {prog : Program} {w : World} {K : Type} [DecidableEq K] {knd : KeyKind prog w K} {α : Type} {R : Value → α → Prop} {h : Heap} {d : Addr} {ks : List K} {f : K → α} (x : RowK knd R h d ks f) : ∃ o es ep, h.get? d = some o ∧ o.data = .dict es ep :=
  let ⟨_, _, ⟨o, es, ep, e, _, d, _⟩, _⟩ := x; ⟨o, es, ep, e, d⟩

theorem Tab72.at {p0 : Array Value} {h h' : Heap} (x : Tab72 p0 h) (e : ∀ b o, b < h.objs.size → h.get? b = some o → h'.get? b = some o) : Tab72 p0 h' := by
  have e' : ∀ b o, h.get? b = some o → h'.get? b = some o := fun b o q => e b o (Heap.lt_size q) q
  obtain ⟨ps, gm, ct, r⟩ := x
  refine ⟨ps, gm, ⟨ct.hd.keeps e', e' _ _ ct.tab, ct.tri⟩, ?_⟩
  rcases r with r | ⟨c', r1, r2⟩
  · exact .inl r
  · exact .inr ⟨c', r1, r2.keeps e'⟩
theorem Tab72.but {p0 : Array Value} {h h' : Heap} {L : Addr} {m} (x : Tab72 p0 h) (n : h.Ns L m) (e : ∀ b o, b ≠ L → h.get? b = some o → h'.get? b = some o) : Tab72 p0 h' := by
  obtain ⟨oL, es, ep, eL, dL⟩ := ns_dict n
  have ne : ∀ b o vs, h.get? b = some o → o.data = .fields vs → h'.get? b = some o := fun b o vs q d => e b o (fun z => by
    rw [z, eL] at q; cases q; rw [dL] at d; cases d) q
  obtain ⟨ps, gm, ct, r⟩ := x
  refine ⟨ps, gm, ⟨?_, ne _ _ _ ct.tab rfl, ct.tri⟩, ?_⟩
  · obtain ⟨o, vs, file, tf, flags, tg, inF, text, tt, q, q2, q3, r⟩ := ct.hd
    exact ⟨o, vs, file, tf, flags, tg, inF, text, tt, ne _ _ _ q q3, q2, q3, r⟩
  · rcases r with r | ⟨c', r1, r2⟩
    · exact .inl r
    · obtain ⟨c, o, vs, t, q1, q2, q3, q4⟩ := r2
      exact .inr ⟨c', r1, c, o, vs, t, q1, ne _ _ _ q2 q3, q3, q4⟩
theorem Tab72.split {p0 : Array Value} {h : Heap} (x : Tab72 p0 h) : ∃ tc, tc < h.objs.size ∧ (∀ h', (∀ b o, (b = 72 ∨ b = 76 ∨ b = tc) → h.get? b = some o → h'.get? b = some o) → Tab72 p0 h') ∧ ∀ a o, h.get? a = some o → (∀ vs, o.data ≠ .fields vs) → a ≠ tc ∨ tc = 72 := by
  obtain ⟨ps, gm, ct, r⟩ := x
  have go : ∀ (tc : Addr) h', (∀ b o, (b = 72 ∨ b = 76 ∨ b = tc) → h.get? b = some o → h'.get? b = some o) → CodeT h' 76 72 ps := fun tc h' k => by
    refine ⟨?_, k _ _ (.inl rfl) ct.tab, ct.tri⟩
    obtain ⟨o, vs, file, tf, flags, tg, inF, text, tt, q, r⟩ := ct.hd
    exact ⟨o, vs, file, tf, flags, tg, inF, text, tt, k _ _ (.inr (.inl rfl)) q, r⟩
  rcases r with r | ⟨c', r1, r2⟩
  · exact ⟨72, Heap.lt_size ct.tab, fun h' k => ⟨ps, gm, go 72 h' k, .inl r⟩, fun _ _ _ _ => .inr rfl⟩
  · obtain ⟨c, o, vs, t, q1, q2, q3, q4⟩ := r2
    cases q1
    exact ⟨c', Heap.lt_size q2, fun h' k => ⟨ps, gm, go _ h' k, .inr ⟨c', r1, c', o, vs, t, rfl, k _ _ (.inr (.inr rfl)) q2, q3, q4⟩⟩, fun a o' e d => .inl fun z => by
      rw [z, q2] at e; cases e; exact d _ q3⟩
theorem Tab72.is {p0 : Array Value} {h : Heap} (x : Tab72 p0 h) : ∃ ps, h.get? 72 = some (tabObj ps) := let ⟨ps, _, ct, _⟩ := x; ⟨ps, ct.tab⟩

theorem Tab72.is2 {p0 : Array Value} {h : Heap} (x : Tab72 p0 h) : ∃ more, h.get? 72 = some (tabObj (p0 ++ more)) := let ⟨_, ⟨more, e⟩, ct, _⟩ := x; ⟨more, e ▸ ct.tab⟩
/-- the frames' addresses -/
def frs (l : List Env) : List Addr := l.filterMap (·.frame)
theorem frs_at {base h : Heap} : ∀ {l : List Env}, h.FunFrames base l → ∀ a ∈ frs l, base.get? a = none ∧ ∃ o, h.get? a = some o ∧ ∀ vs, o.data ≠ .fields vs
  | [], _, _, hm => nomatch hm
  | env :: r, ⟨_, ⟨L, o, hf, hn, ho, hd⟩, hr⟩, a, hm => by
    unfold frs at hm
    rw [List.filterMap_cons, hf] at hm
    rcases List.mem_cons.mp hm with rfl | hm
    · exact ⟨hn, o, ho, hd⟩
    · exact frs_at hr a hm
theorem frs_in {l : List Env} : ∀ env ∈ l, ∀ a, env.frame = some a → a ∈ frs l := fun env he a e => List.mem_filterMap.mpr ⟨env, he, e⟩
theorem Tab72.hide {p0 : Array Value} {h : Heap} {as : List Addr} (x : Tab72 p0 h) (n : ∀ a ∈ as, ∃ o, h.get? a = some o ∧ ∀ vs, o.data ≠ .fields vs) : Tab72 p0 (hideAll h as) := by
  have ne : ∀ b o vs, h.get? b = some o → o.data = .fields vs → (hideAll h as).get? b = some o := fun b o vs q d => hideAll_get as q fun m => by
    obtain ⟨o', e, d'⟩ := n b m
    rw [q] at e; cases e; exact d' vs d
  obtain ⟨ps, gm, ct, r⟩ := x
  refine ⟨ps, gm, ⟨?_, ne _ _ _ ct.tab rfl, ct.tri⟩, ?_⟩
  · obtain ⟨o, vs, file, tf, flags, tg, inF, text, tt, q, q2, q3, r⟩ := ct.hd
    exact ⟨o, vs, file, tf, flags, tg, inF, text, tt, ne _ _ _ q q3, q2, q3, r⟩
  · rcases r with r | ⟨c', r1, r2⟩
    · exact .inl r
    · obtain ⟨c, o, vs, t, q1, q2, q3, q4⟩ := r2
      exact .inr ⟨c', r1, c, o, vs, t, q1, ne _ _ _ q2 q3, q3, q4⟩

section
variable {prog : Program} {wd : World} {A : Around} {c : Cst} {hB h : Heap} {t : Nat} {g nd adj : Addr} {E : Value → Shared → Prop} {N : List Int} {nbr : Int → List Int} {W : Int → Int → Int} {inn : Int → Addr}
/-- _init_pred_dist -/
theorem init_spec {p0 : Array Value} {tk : Tok} {base : Heap} {outer : List Env} {Q : Value → Shared → Prop} (hA : A.handled = none) (hroom : A.depth + 4 < recursionLimit) (B : Bs hB) (Gg : Gr prog wd hB g nd adj N nbr W inn) (kB : Keep hB h) (T : Tab72 p0 h)
    (h72 : hB.get? 72 = none) (K : Below A base outer h) (hb : Keep base hB) (hBsz : hB.objs.size ≤ h.objs.size)
    (hE : (∃ u, NegLoop N nbr W u) → ∀ h' t' e a0 B', Heap.FlyingW B' outer e (.ref 68) a0 h' → Keep base B' → Tab72 p0 B' → (∀ b o, b ≠ 72 → b ∉ frs outer → h.get? b = some o → B'.get? b = some o) → h.UpToSlots h' → E (.ref e) (mk c h' t'))
    (hQ : (∀ u, ¬ NegLoop N nbr W u) → ∀ h' t' y tu, Made prog wd N nbr W h.objs.size y h' → KO (fun b => b = 72) h h' → Tab72 p0 h' → h.objs.size ≤ tu → (∃ n, h'.get? tu = some { cls := .type "tuple", data := .seq #[.ref y.pd, .ref y.dd] n }) → Q (.ref tu) (mk c h' t')) :
    wpAny (model prog wd) A (call (.ref 82) [.ref g, .str "weight" tk]) Q E (mk c h t) := by
  refine call_cells (E := E) (B.G.keep kB) (B.f82.keep kB) (Nat.lt_of_le_of_lt (Nat.le_add_right _ _) hroom) (binds := [("G", .ref g), ("weight", .str "weight" tk)]) (fun pm => BindsTo.of_eq (by rfl)) (inl (some (.str "weight" tk)) none none none none none none none) fun h1 t1 F X => ?_
  have hcell : h1.IsCell (h.objs.size + 1) (some (.ref g)) := X.cell "G" _ (by rfl)
  generalize hLd : h.objs.size = L at *
  have hA' : (A.deeper (inEnv (.ref 81) L 82)).handled = none := hA
  have hd : (A.deeper (inEnv (.ref 81) L 82)).depth = A.depth + 1 := rfl
  have hr1 : (A.deeper (inEnv (.ref 81) L 82)).depth + 1 < recursionLimit := by rw [hd]; omega
  have hr0 : (A.deeper (inEnv (.ref 81) L 82)).depth < recursionLimit := by rw [hd]; omega
  have kB1 : Keep hB h1 := kB.trans F.keep
  have F1 : Fn (inEnv (.ref 81) L 82) hB (fun _ => True) h1 (inl (some (.str "weight" tk)) none none none none none none none) := ⟨F.loc, kB1, hBsz, trivial, Stb.true⟩
  have o1 : ∀ b o, b < L → h.get? b = some o → h1.get? b = some o := fun b o _ e => F.keep b o e
  have hL1 : L + 1 < h1.objs.size := by obtain ⟨_, e, _⟩ := hcell; exact Heap.lt_size e
  -- dist
  refine wpAny_execs_cons (wpAny_noRaise (in_dist hA' hr1 (Gg.it c) B.G Gg.nodup Gg.len hcell F1 fun h2 t2 dd dr g1 g2 g3 k2 r2 rr2 F2 => ?_))
  have o2 : ∀ b o, b < L → h.get? b = some o → h2.get? b = some o := fun b o q e => k2 b o (Nat.ne_of_lt q) (o1 b o q e)
  have c2 : h2.IsCell (L + 1) (some (.ref g)) := let ⟨o, e, r⟩ := hcell; ⟨o, k2 _ _ (Nat.succ_ne_self L) e, r⟩
  have h12 : h1.objs.size ≤ h2.objs.size := Nat.le_of_lt (Nat.lt_of_le_of_lt g1 r2.lt)
  -- pred
  refine wpAny_execs_cons (wpAny_Assign_Name (wpAny_Dict_empty ?_))
  have rp3 : Row prog wd RR (h2.push { cls := .type "dict", data := .dict #[] }) h2.objs.size [] (fun _ => 0) := RowK.new (B.G.keep F2.keep).low
  refine st4 (F2.push _) fun h3 t3 F3 s3 => ?_
  generalize hpd : h2.objs.size = pd at rp3 F3
  have hpdL : pd ≠ L := hpd ▸ Nat.ne_of_gt F2.loc.lt
  have k3 : ∀ b o, b ≠ L → h2.get? b = some o → h3.get? b = some o := fun b o n e => s3.extBut b o n (Heap.get?_push_of_some _ e)
  have o3 : ∀ b o, b < L → h.get? b = some o → h3.get? b = some o := fun b o q e => k3 b o (Nat.ne_of_lt q) (o2 b o q e)
  have c3 : h3.IsCell (L + 1) (some (.ref g)) := let ⟨o, e, r⟩ := c2; ⟨o, k3 _ _ (Nat.succ_ne_self L) e, r⟩
  have rp3 := rp3.at (h' := h3) fun o e => s3.extBut _ o hpdL e
  have ddL : dd ≠ L := Nat.ne_of_gt (Nat.lt_of_lt_of_le (Nat.lt_of_succ_lt hL1) g1)
  have drL : ∀ i ∈ N, dr i ≠ L := fun i hi => Nat.ne_of_gt (Nat.lt_of_lt_of_le (Nat.lt_of_succ_lt hL1) (g2 i hi).1)
  have r3 := r2.at (h' := h3) fun o e => k3 _ o ddL e
  have rr3 : ∀ i ∈ N, Row prog wd RE h3 (dr i) N (fun _ => none) := fun i hi => (rr2 i hi).at fun o e => k3 _ o (drL i hi) e
  have hsz3 : h3.objs.size = pd + 1 := by rw [s3.1, Heap.size_push, hpd]
  -- weight
  have hT3 : Tab72 p0 h3 := T.at fun b o q e => o3 b o (hLd ▸ q) e
  obtain ⟨ow, pmw, how, hdw, hcw⟩ := B.f77.keep F3.keep
  refine wpAny_execs_cons (wpAny_noRaise (wpAny_Assign_Name (Call_ (gname (B.G.keep F3.keep) (by walk_at "mem") (callWith_def hdw (args_cons (nmc c3 (args_cons (nm F3 (by walk_at "mem") (args_nil ⟨how, ?_⟩))))))))))
  refine weight_spec hr0 (B.G.keep F3.keep) (B.f77.keep F3.keep) hT3 fun h4 t4 wf k4 x4 T4 => ?_
  have h72L : 72 < L := by obtain ⟨ps, e⟩ := T.is; rw [← hLd]; exact Heap.lt_size e
  have F4 : Fn (inEnv (.ref 81) L 82) hB (fun _ => True) h4 _ := F3.to (fun b o e1 e2 => k4 b o (fun z => by rw [z, h72] at e1; cases e1) e2) (fun o e => k4 L o (Nat.ne_of_gt h72L) e) trivial Stb.true
  refine st0 F4 fun h5 t5 F5 s5 => ?_
  have k5 : ∀ b o, b ≠ L → b ≠ 72 → h3.get? b = some o → h5.get? b = some o := fun b o n1 n2 e => s5.extBut b o n1 (k4 b o n2 e)
  have big : ∀ b, L ≤ b → b ≠ 72 := fun b q => Nat.ne_of_gt (Nat.lt_of_lt_of_le h72L q)
  have gL : ∀ b, h1.objs.size ≤ b → L ≤ b := fun b q => Nat.le_trans (Nat.le_of_lt (Nat.lt_of_succ_lt hL1)) q
  obtain ⟨_, hns4, _⟩ := F4.loc.ns
  have T5 : Tab72 p0 h5 := T4.but hns4 s5.extBut
  have o5 : ∀ b o, b < L → b ≠ 72 → h.get? b = some o → h5.get? b = some o := fun b o q n e => k5 b o (Nat.ne_of_lt q) n (o3 b o q e)
  have pdge : h1.objs.size ≤ pd := hpd ▸ h12
  have c5 : h5.IsCell (L + 1) (some (.ref g)) := let ⟨o, e, r⟩ := c3; ⟨o, k5 _ _ (Nat.succ_ne_self L) (big _ (Nat.le_succ _)) e, r⟩
  have r5 := r3.at (h' := h5) fun o e => k5 _ o ddL (big _ (gL _ g1)) e
  have rr5 : ∀ i ∈ N, Row prog wd RE h5 (dr i) N (fun _ => none) := fun i hi => (rr3 i hi).at fun o e => k5 _ o (drL i hi) (big _ (gL _ (g2 i hi).1)) e
  have rp5 := rp3.at (h' := h5) fun o e => k5 _ o hpdL (big _ (gL _ pdge)) e
  obtain ⟨wq, wc, lam4⟩ := x4.at
  obtain ⟨_, _, _, hL4, hL4d⟩ := ns_dict hns4
  obtain ⟨nf, nq, nc⟩ := FnLam.ne lam4 hL4 hL4d
  have lam5 : LamA wf wq wc h5 := LamA.dep h4 h5 (fun b o q e => s5.extBut b o (by rcases q with rfl | rfl | rfl <;> assumption) e) lam4
  have hpdN : ∀ i ∈ N, dr i ≠ pd := fun i hi => by
    have := (rr2 i hi).lt
    rw [hpd] at this
    exact Nat.ne_of_lt this
  have hddpd : dd ≠ pd := by
    have := r2.lt
    rw [hpd] at this
    exact Nat.ne_of_lt this
  let y0 : Lay := ⟨N, [], dd, pd, dr, fun _ => 0⟩
  have ok0 : y0.Ok := ⟨g3, by simp [y0], by simp [y0], by
    rintro (⟨i, hi, e⟩ | ⟨i, hi, e⟩)
    · exact (g2 i hi).2 e.symm
    · simp [y0] at hi, by
    rintro (⟨i, hi, e⟩ | ⟨i, hi, e⟩)
    · exact hpdN i hi e.symm
    · simp [y0] at hi, hddpd, Gg.len⟩
  have M0 : Mats prog wd y0 tab00 h5 := ⟨r5, rr5, rp5.congr (by simp), by simp [y0]⟩
  have hrow0 : ∀ b, (b = y0.dd ∨ b = y0.pd ∨ y0.row b) → L ≤ b ∧ b ≠ L ∧ ∃ o es ep, h5.get? b = some o ∧ o.data = .dict es ep := by
    rintro b (rfl | rfl | ⟨i, hi, rfl⟩ | ⟨i, hi, rfl⟩)
    · exact ⟨gL _ g1, ddL, r5.dict⟩
    · exact ⟨gL _ pdge, hpdL, rp5.dict⟩
    · exact ⟨gL _ (g2 i hi).1, drL i hi, (rr5 i hi).dict⟩
    · simp [y0] at hi
  obtain ⟨tc, tclt, tck, tcd⟩ := T5.split
  let Fr : Addr → Prop := fun b => L ≤ b ∧ b ≠ L ∧ (b ≠ wf ∧ b ≠ wq ∧ b ≠ wc) ∧ b ≠ tc
  have fo : FrOk Fr hB L wf wq wc := ⟨fun b x => Nat.le_trans hBsz x.1, fun b x => x.2.1, fun b x => x.2.2.1, nf, nq, nc⟩
  have low0 : ∀ b, (b = y0.dd ∨ b = y0.pd ∨ y0.row b) → Fr b := fun b q => by
    obtain ⟨p1, p2, o, es, ep, e, de⟩ := hrow0 b q
    obtain ⟨n1, n2, n3⟩ := FnLam.ne lam5 e de
    refine ⟨p1, p2, ⟨n1.symm, n2.symm, n3.symm⟩, ?_⟩
    rcases tcd b o e (fun vs z => by rw [de] at z; cases z) with z | z
    · exact z
    · rw [z]; exact big b p1
  have F5' : Fn (inEnv (.ref 81) L 82) hB (inP prog wd Fr wf wq wc y0 tab00) h5 _ := F5.say ⟨⟨ok0, low0, M0⟩, lam5⟩ (inP.stb fo low0)
  have hFr5 : ∀ b, h5.objs.size ≤ b → Fr b := fun b q =>
    ⟨Nat.le_of_lt (Nat.lt_of_lt_of_le F5.loc.lt q), Nat.ne_of_gt (Nat.lt_of_lt_of_le F5.loc.lt q), ⟨Nat.ne_of_gt (Nat.lt_of_lt_of_le (lam5.lt _ (.inl rfl)) q), Nat.ne_of_gt (Nat.lt_of_lt_of_le (lam5.lt _ (.inr (.inl rfl))) q), Nat.ne_of_gt (Nat.lt_of_lt_of_le (lam5.lt _ (.inr (.inr rfl))) q)⟩, Nat.ne_of_gt (Nat.lt_of_lt_of_le tclt q)⟩
  have koF : ∀ h', KO (fun b => b = L ∨ Fr b) h5 h' → KO (fun b => b = 72) h h' := fun h' k b o n e => by
    have hlt : b < L := hLd ▸ Heap.lt_size e
    exact k b o (fun z => by
      rcases z with z | z
      · exact absurd z (Nat.ne_of_lt hlt)
      · exact absurd z.1 (Nat.not_le.mpr hlt)) (o5 b o hlt n e)
  obtain ⟨_, hns5, _⟩ := F5.loc.ns
  have h76L : 76 < L := by obtain ⟨_, _, ct, _⟩ := T; obtain ⟨_, _, _, _, _, _, _, _, _, q, _⟩ := ct.hd; rw [← hLd]; exact Heap.lt_size q
  have htcL : tc ≠ L := by
    obtain ⟨_, _, _, e, d⟩ := ns_dict hns5
    rcases tcd _ _ e (fun vs z => by rw [d] at z; cases z) with z | z
    · exact z.symm
    · rw [z]; exact Nat.ne_of_lt h72L
  have tk6 : ∀ h6, KO (fun b => b = L ∨ Fr b) h5 h6 → Tab72 p0 h6 := fun h6 k6 => tck h6 fun b o q e => k6 b o (fun z => by
    rcases z with z | z
    · rcases q with rfl | rfl | rfl
      · exact absurd z (Nat.ne_of_lt h72L)
      · exact absurd z (Nat.ne_of_lt h76L)
      · exact htcL z
    · rcases q with rfl | rfl | rfl
      · exact absurd z.1 (Nat.not_le.mpr h72L)
      · exact absurd z.1 (Nat.not_le.mpr h76L)
      · exact z.2.2.2 rfl) e
  refine wpAny_execs_cons (in_loop (y0 := y0) PassesOwn.leaving hA' hr0 B.G B.U Gg.nodup Gg.len rfl Gg.at_ Gg.row Gg.nb fo hFr5 c5 F5' (fun u hu h' l F' k' h'' e t'' args hx => ?_) fun h6 t6 y uo vo no eo co hneg e1 e2 e3 e4 k6 F6 => ?_)
  · have ko' := koF h' k'
    have T' := tk6 h' k'
    obtain ⟨m, hns, _⟩ := F'.loc.ns
    have up' : h.UpToSlots h' := ko'.slots fun b o z e => by
      obtain ⟨ps, q⟩ := T.is
      rw [z, q] at e; cases e; exact ⟨_, rfl⟩
    have hLb : base.get? L = none := by
      cases q : base.get? L with
      | none => rfl
      | some o => exact absurd (Heap.lt_size (hb L o q)) (Nat.not_lt.mpr hBsz)
    have K' := Mine.Below.mv K (hb.trans F'.keep) up'
    have nas : ∀ a ∈ L :: frs outer, base.get? a = none ∧ ∃ o, h'.get? a = some o ∧ ∀ vs, o.data ≠ .fields vs := fun a ha => by
      rcases List.mem_cons.mp ha with rfl | ha
      · obtain ⟨o, es, ep, e, d⟩ := ns_dict hns
        exact ⟨hLb, o, e, fun vs z => by rw [d] at z; cases z⟩
      · exact frs_at K'.frames a ha
    have K2 : Below A (hideAll h' (L :: frs outer)) outer h' := ⟨K'.stack, fun b o e => of_hideAll _ e, funFrames_hide K'.frames fun env he a e => .tail _ (frs_in env he a e)⟩
    refine leave_made (t := t'') (c := c) (h1 := h') K2 (L := L) rfl (fun z => nomatch (show ScopeKind.function = ScopeKind.module from z)) (hideAll_none _ (.head _)) hns hx fun h3' a0 fl up => ?_
    refine hE ⟨u, hu⟩ h3' t'' e a0 _ fl (fun b o q => hideAll_get _ (K'.stays b o q) fun m => by rw [(nas b m).1] at q; cases q) (T'.hide fun a ha => (nas a ha).2) (fun b o n1 n2 q => hideAll_get _ (ko' b o n1 q) fun m => ?_) (Heap.UpToSlots.trans up' up)
    rcases List.mem_cons.mp m with z | z
    · exact absurd (Heap.lt_size q) (by rw [z, hLd]; exact Nat.lt_irrefl _)
    · exact n2 z
  · have ko6 := koF h6 k6
    have T6 := tk6 h6 k6
    refine wpAny_execs_cons (wpAny_noRaise (wpAny_Return_some (Tuple_ (args_cons (nm F6 (by walk_at "mem") (args_cons (nm F6 (by walk_at "mem") (args_nil (wpAny_newTuple ?_ (by rw [sizeLine_eq]; show 2 ≤ _; decide))))))))))
    refine hQ hneg _ t6 y h6.objs.size ⟨F6.inv.1.ok, e1, e4, fun b q => (F6.inv.1.low b q).1, Mats.dep h6 _ (fun b o _ e => Heap.get?_push_of_some _ e) F6.inv.1.mats⟩ (ko6.keep (Keep.push _ _)) (T6.at fun b o _ e => Heap.get?_push_of_some _ e) (Nat.le_of_lt F6.loc.lt) ?_
    rw [e2, e3]
    exact ⟨_, Heap.get?_push_size _ rfl⟩
end
end Mine
end
section
open PySem PySem.W PyProof.Rows PySem.Calls
set_option maxRecDepth 100000
namespace Mine
local macro_rules | `(tactic| walk_at "mem") => `(tactic| with_reducible (first | exact List.mem_cons_self | (refine List.mem_cons_of_mem _ ?_; walk_at "mem")))

theorem Below.push' {A : Around} {base h h1 : Heap} {outer : List Env} {env : Env} {L : Addr} {m} (K : Below A base outer h) (hf : env.frame = some L) (hkd : env.scope.kind ≠ .module) (hn : h1.Ns L m) (hLb : base.get? L = none) (k : Keep h h1) : Below (A.deeper env) base (env :: outer) h1 :=
  have K1 := Mine.Below.mv K (fun b o e => k _ _ (K.stays b o e)) (Heap.UpToSlots.of_keeps k)
  ⟨Around.frames_deeper K.stack, K1.stays, Heap.FunFrames.cons hkd hf hn hLb K1.frames⟩

/-- the results: copies of the outer dicts -/
structure Res (prog : Program) (wd : World) (N prk : List Int) (s : Tbl) (n0 : Nat) (y : Lay) (h : Heap) : Prop where
  hN : y.N = N
  prk : y.prk = prk
  low : ∀ b, (b = y.dd ∨ b = y.pd ∨ y.row b) → n0 ≤ b
  mats : Mats prog wd y s h
abbrev prkOf (N : List Int) (nbr : Int → List Int) : List Int := N.filter fun u => !(nbr u).isEmpty
def fwRun (N : List Int) (nbr : Int → List Int) (W : Int → Int → Int) : Tbl := Tbl.runW N (foldT nbr W N) N

theorem CodeT.at {h h' : Heap} {c P : Addr} {ps} (x : CodeT h c P ps) (e : ∀ b o, (b = c ∨ b = P) → h.get? b = some o → h'.get? b = some o) : CodeT h' c P ps := by
  refine ⟨?_, e _ _ (.inr rfl) x.tab, x.tri⟩
  obtain ⟨o, vs, file, tf, flags, tg, inF, text, tt, q, r⟩ := x.hd
  exact ⟨o, vs, file, tf, flags, tg, inF, text, tt, e _ _ (.inl rfl) q, r⟩
theorem CodeT.lt {h : Heap} {c P : Addr} {ps} (x : CodeT h c P ps) : c < h.objs.size ∧ P < h.objs.size := by
  obtain ⟨_, _, _, _, _, _, _, _, _, q, _⟩ := x.hd
  exact ⟨Heap.lt_size q, Heap.lt_size x.tab⟩
theorem rec_ne {h : Heap} {c' P : Addr} {q : Str} {ps} (x : h.CodeRec (.ref c') q) (e : h.get? P = some (tabObj ps)) (ht : TriplesOk ps.toList) : c' ≠ P := fun z => by
  obtain ⟨c, o, vs, t, q1, q2, q3, q4⟩ := x
  cases q1
  rw [z, e] at q2; cases q2; cases q3
  rw [← Array.getElem?_toList] at q4
  unfold TriplesOk at ht
  split at ht
  · rename_i e; rw [e] at q4; cases q4
  · rename_i e; rw [e] at q4; cases q4
  · exact ht
theorem Tab72.split2 {p0 : Array Value} {h : Heap} (x : Tab72 p0 h) : ∃ tc, tc < h.objs.size ∧ (∀ h', (∀ b o, (b = 72 ∨ b = 76 ∨ b = tc) → h.get? b = some o → h'.get? b = some o) → Tab72 p0 h') ∧ (∀ a o, h.get? a = some o → (∀ vs, o.data ≠ .fields vs) → tc ≠ a) ∧ ∀ P ps, h.get? P = some (tabObj ps) → TriplesOk ps.toList → P ≠ 72 → tc ≠ P := by
  obtain ⟨ps, gm, ct, r⟩ := x
  have go : ∀ (tc : Addr) h', (∀ b o, (b = 72 ∨ b = 76 ∨ b = tc) → h.get? b = some o → h'.get? b = some o) → CodeT h' 76 72 ps := fun tc h' k =>
    ct.at fun b o q e => k b o (q.elim (fun z => .inr (.inl z)) .inl) e
  rcases r with r | ⟨c', r1, r2⟩
  · exact ⟨72, Heap.lt_size ct.tab, fun h' k => ⟨ps, gm, go 72 h' k, .inl r⟩, fun a o e d z => by rw [← z, ct.tab] at e; cases e; exact d _ rfl, fun _ _ _ _ n => n.symm⟩
  · have r3 := r2
    obtain ⟨c, o, vs, t, q1, q2, q3, q4⟩ := r3
    cases q1
    exact ⟨c', Heap.lt_size q2, fun h' k => ⟨ps, gm, go _ h' k, .inr ⟨c', r1, c', o, vs, t, rfl, k _ _ (.inr (.inr rfl)) q2, q3, q4⟩⟩, fun a o' e d z => by
      rw [← z, q2] at e; cases e; exact d _ q3, fun P ps' e ht _ => rec_ne r2 e ht⟩
def genPos : Stmt → Pos
  | .If (.Call _ (.GeneratorExp _ _ _ p :: _) _ _) .. => p
  | _ => default

section
variable {prog : Program} {wd : World} {A : Around} {c : Cst} {hB h : Heap} {t : Nat} {g nd adj Pf : Addr} {E : Value → Shared → Prop} {N : List Int} {nbr : Int → List Int} {W : Int → Int → Int} {inn : Int → Addr}
theorem fw_spec {p0 : Array Value} {base : Heap} {outer : List Env} {ps : Array Value} {Q : Value → Shared → Prop} (hA : A.handled = none) (hroom : A.depth + 8 < recursionLimit) (B : Bs hB) (Gg : Gr prog wd hB g nd adj N nbr W inn) (kB : Keep hB h) (hBsz : hB.objs.size ≤ h.objs.size) (T : Tab72 p0 h)
    (f96 : FnAt hB 96 (S 11) "floyd_warshall_predecessor_and_distance" (.ref 89) (.ref 95)) (d89 : ∃ o tk n, hB.get? 89 = some o ∧ o.data = .seq #[.str "weight" tk] n)
    (h72 : hB.get? 72 = none) (hPf : hB.get? Pf = none) (hPf2 : Pf ≠ 72) (hPf3 : Pf ≠ 76) (ct : CodeT h 95 Pf ps) (hnf : codeAmong (genPos (SM 11 2)) ps.toList = none) (K : Below A base outer h) (hb : Keep base hB) (hgb : AllBare c.g)
    (safe : (∀ u, ¬ NegLoop N nbr W u) → ∀ pw w rw, N = pw ++ w :: rw → ∀ pu u ru, N = pu ++ u :: ru → ∀ p v r, N = p ++ v :: r → ((Tbl.runU N (Tbl.runW N (foldT nbr W N) pw) w pu).runV w u p).Safe (prkOf N nbr) w u v)
    (hE : ((∃ u, NegLoop N nbr W u) ∨ ((∀ u, ¬ NegLoop N nbr W u) ∧ (N.any fun u => ltE ((fwRun N nbr W).D u u) (some 0)) = true)) → ∀ h' t' g' e a0 B', AllBare g' → Heap.FlyingW B' outer e (.ref 68) a0 h' → Keep base B' → Tab72 p0 B' → (∃ more, B'.get? Pf = some (tabObj (ps ++ more))) → (∀ b o, b ≠ 72 → b ≠ Pf → b ∉ frs outer → h.get? b = some o → B'.get? b = some o) → h.UpToSlots h' → E (.ref e) (mk { c with g := g' } h' t'))
    (hQ : (∀ u, ¬ NegLoop N nbr W u) → (N.any fun u => ltE ((fwRun N nbr W).D u u) (some 0)) = false → ∀ h' t' g' y tu, AllBare g' → Res prog wd N (prkOf N nbr) (fwRun N nbr W) h.objs.size y h' → KO (fun b => b = 72 ∨ b = Pf) h h' → Tab72 p0 h' → (∃ more, h'.get? Pf = some (tabObj (ps ++ more))) → (∃ n, h'.get? tu = some { cls := .type "tuple", data := .seq #[.ref y.pd, .ref y.dd] n }) → Q (.ref tu) (mk { c with g := g' } h' t')) :
    wpAny (model prog wd) A (call (.ref 96) [.ref g]) Q E (mk c h t) := by
  obtain ⟨o89, tk, n89, e89, d89⟩ := d89
  refine call_cells (E := E) (B.G.keep kB) (f96.keep kB) (Nat.lt_of_le_of_lt (Nat.le_add_right _ _) hroom) (binds := [("G", .ref g), ("weight", .str "weight" tk)])
    (fun pm => BindsTo.of_defaults (T := 89) rfl (kB _ _ e89) d89 (by rfl) (by rfl)) [("G", some (.ref g)), ("weight", some (.str "weight" tk)), ("pred", none), ("w", none), ("dist_w", none), ("u", none), ("dist_u", none), ("v", none), ("d", none)] fun h1 t1 F X => ?_
  have hcell : h1.IsCell (h.objs.size + 1) none := X.cell "dist" _ (by rfl)
  generalize hLd : h.objs.size = L at *
  have hA' : (A.deeper (fwEnv (.ref 95) L 96)).handled = none := hA
  have hd : (A.deeper (fwEnv (.ref 95) L 96)).depth = A.depth + 1 := rfl
  have hr1 : (A.deeper (fwEnv (.ref 95) L 96)).depth + 4 < recursionLimit := by rw [hd]; omega
  have hr2 : (A.deeper (fwEnv (.ref 95) L 96)).depth + 1 < recursionLimit := by rw [hd]; omega
  have kB1 : Keep hB h1 := kB.trans F.keep
  have F1 : Fn (fwEnv (.ref 95) L 96) hB (fun h => h.IsCell (L + 1) none) h1 [("G", some (.ref g)), ("weight", some (.str "weight" tk)), ("pred", none), ("w", none), ("dist_w", none), ("u", none), ("dist_u", none), ("v", none), ("d", none)] := ⟨F.loc, kB1, hBsz, hcell, (Dep.cell (X := fun b => b ≠ L) (Nat.succ_ne_self L)).stb fun z => z rfl⟩
  have hLlt : L < h1.objs.size := F.loc.lt
  have hL1 : L + 1 < h1.objs.size := by obtain ⟨_, e, _⟩ := hcell; exact Heap.lt_size e
  obtain ⟨ps72, e72⟩ := T.is
  have h72L : 72 < L := by rw [← hLd]; exact Heap.lt_size e72
  have hPfL : Pf < L := by rw [← hLd]; exact Heap.lt_size ct.tab
  have hLb : base.get? L = none := by
    cases q : base.get? L with
    | none => rfl
    | some o => exact absurd (Heap.lt_size (hb L o q)) (Nat.not_lt.mpr hBsz)
  have hkd : (fwEnv (.ref 95) L 96).scope.kind ≠ .module := fun z => nomatch (show ScopeKind.function = ScopeKind.module from z)
  obtain ⟨m1, hns1, _⟩ := F1.loc.ns
  have K1 := Below.push' (env := fwEnv (.ref 95) L 96) K rfl hkd hns1 hLb F.keep
  obtain ⟨oi, pmi, hoi, hdi, hci⟩ := B.f82.keep kB1
  have T1 : Tab72 p0 h1 := T.at fun b o _ e => F.keep b o e
  -- pred, dist = _init_pred_dist(G, weight)
  refine wpAny_execs_cons (Assign_Tuple (Call_ (gname (B.G.keep kB1) (by walk_at "mem") (callWith_def hdi (args_cons (nm F1 (by walk_at "mem") (args_cons (nm F1 (by walk_at "mem") (args_nil ⟨hoi, ?_⟩)))))))))
  refine init_spec hA' hr1 B Gg kB1 T1 h72 K1 hb (Nat.le_trans hBsz (Nat.le_of_lt hLlt)) (fun hneg h' t' e a0 B' fl kb' TB old' up => ?_) (fun hneg h2 t2 y tu MD k2 T2 htu htup => ?_)
  · refine leave_fly (c := c) (t := t') K.stack rfl fl ((Heap.UpToSlots.of_keeps F.keep).trans up) fun h'' fl' up' => ?_
    have hfr : frs (fwEnv (.ref 95) L 96 :: outer) = L :: frs outer := rfl
    have old2 : ∀ b o, b ≠ 72 → b ∉ frs outer → h.get? b = some o → B'.get? b = some o := fun b o n1 n2 q => old' b o n1 (fun m => by
      rw [hfr] at m
      rcases List.mem_cons.mp m with z | z
      · exact absurd (Heap.lt_size q) (by rw [z, hLd]; exact Nat.lt_irrefl _)
      · exact n2 z) (F.keep b o q)
    have hPn : Pf ∉ frs outer := fun m => by
      obtain ⟨_, o, e, d⟩ := frs_at K.frames Pf m
      rw [ct.tab] at e; cases e; exact d _ rfl
    exact hE (.inl hneg) h'' t' c.g e a0 B' hgb fl' kb' TB ⟨#[], by rw [Array.append_empty]; exact old2 _ _ hPf2 hPn ct.tab⟩ (fun b o n1 _ n3 q => old2 b o n1 n3 q) up'
  obtain ⟨ntu, htup⟩ := htup
  have F2 : Fn (fwEnv (.ref 95) L 96) hB (fun h => h.IsCell (L + 1) none) h2 _ := F1.to (fun b o e1 e2 => k2 b o (fun z => by rw [z, h72] at e1; cases e1) e2) (fun o e => k2 L o (Nat.ne_of_gt h72L) e)
    (let ⟨o, e, r⟩ := hcell; ⟨o, k2 _ _ (Nat.ne_of_gt (Nat.lt_succ_of_lt h72L)) e, r⟩) F1.stb
  refine wpAny_noRaise (assign2 (c := c) (t := t2) hA' ⟨ntu, htup⟩ fun h3 k3 => ?_)
  have low : ∀ b, (b = y.dd ∨ b = y.pd ∨ y.row b) → L + 1 < b := fun b q => Nat.lt_of_lt_of_le hL1 (MD.low b q)
  refine st2 (F2.ext k3) fun h4 t4 F4 s4 => stc F4.inv (fun h5 c5 s5 => ?_)
  have hyN := MD.hN
  subst hyN
  have ap : Apart hB L y := ⟨fun b q => have l := low b (.inr (.inr q)); ⟨Nat.le_trans hBsz (Nat.le_of_lt (Nat.lt_of_succ_lt l)), Nat.ne_of_gt (Nat.lt_of_succ_lt l), Nat.ne_of_gt l⟩, Nat.ne_of_gt (Nat.lt_of_succ_lt (low _ (.inl rfl))), Nat.ne_of_gt (Nat.lt_of_succ_lt (low _ (.inr (.inl rfl))))⟩
  have M5 : Mats prog wd y (foldT nbr W y.N) h5 := Mats.dep h2 h5 (fun b o q e => s5.extBut b o (Nat.ne_of_gt (low b q)) (s4.extBut b o (Nat.ne_of_gt (Nat.lt_of_succ_lt (low b q))) (k3 b o e))) MD.mats
  have F5 : Fn (fwEnv (.ref 95) L 96) hB (MC prog wd L y (foldT nbr W y.N)) h5 _ := F4.upd (Nat.le_succ_of_le hBsz) (Nat.succ_ne_self L) s5.extBut ⟨M5, c5⟩ (MC.stb ap)
  have ko5 : KO (fun b => b = 72) h h5 := fun b o n e => by
    have hlt : b < L := hLd ▸ Heap.lt_size e
    exact s5.extBut b o (Nat.ne_of_lt (Nat.lt_succ_of_lt hlt)) (s4.extBut b o (Nat.ne_of_lt hlt) (k3 b o (k2 b o n (F.keep b o e))))
  have T5 : Tab72 p0 h5 := by
    obtain ⟨tc, l1, l2, l3⟩ := T2.split
    have h76L : 76 < L := by obtain ⟨_, _, ct, _⟩ := T; obtain ⟨_, _, _, _, _, _, _, _, _, q, _⟩ := ct.hd; rw [← hLd]; exact Heap.lt_size q
    obtain ⟨_, hns2, _⟩ := F2.loc.ns
    obtain ⟨_, _, _, eL, dL⟩ := ns_dict hns2
    obtain ⟨_, eC, dC⟩ := F2.inv
    have n1 : tc ≠ L := by
      rcases l3 _ _ eL (fun vs z => by rw [dL] at z; cases z) with z | z
      · exact z.symm
      · rw [z]; exact Nat.ne_of_lt h72L
    have n2 : tc ≠ L + 1 := by
      rcases l3 _ _ eC (fun vs z => by rw [dC] at z; cases z) with z | z
      · exact z.symm
      · rw [z]; exact Nat.ne_of_lt (Nat.lt_succ_of_lt h72L)
    refine l2 h5 fun b o q e => s5.extBut b o ?_ (s4.extBut b o ?_ (k3 b o e))
    · rcases q with rfl | rfl | rfl
      · exact Nat.ne_of_lt (Nat.lt_succ_of_lt h72L)
      · exact Nat.ne_of_lt (Nat.lt_succ_of_lt h76L)
      · exact n2
    · rcases q with rfl | rfl | rfl
      · exact Nat.ne_of_lt h72L
      · exact Nat.ne_of_lt h76L
      · exact n1
  refine wpAny_execs_cons (wpAny_noRaise (fw_w hA' hr2 (Gg.it c) MD.ok ap Gg.nd (by rw [MD.prk]; exact safe hneg) F5 fun h6 t6 wo dwo uo duo vo od k6 F6 => ?_))
  have h95L : 95 < L := by rw [← hLd]; exact ct.lt.1
  have wrL : ∀ b, b < L → ¬ Wr L y b := fun b q z => by
    rcases z with z | z
    · exact Nat.lt_irrefl _ (z ▸ q)
    · exact Nat.lt_irrefl _ (Nat.lt_trans q (Nat.lt_of_succ_lt (low b (.inr (.inr z)))))
  have ko6 : KO (fun b => b = 72) h h6 := fun b o n e => k6 b o (wrL b (hLd ▸ Heap.lt_size e)) (ko5 b o n e)
  have ct6 : CodeT h6 95 Pf ps := ct.at fun b o q e => ko6 b o (by rcases q with rfl | rfl; exact (by decide); exact hPf2) e
  have hPfs : Pf < L + 1 := Nat.lt_succ_of_lt hPfL
  have G6 := B.G.keep F6.keep
  have U6 := B.U.keep F6.keep
  have hPdict : ∀ b o es ep, h6.get? b = some o → o.data = .dict es ep → Pf ≠ b := fun b o es ep e d z => by
    rw [← z, ct6.tab] at e; cases e; cases d
  refine wpAny_execs_cons (wpAny_If (isTrue_plain (Call_ (bname G6 (by walk_at "mem") PyProof.Rows.boot_any (callWith_builtin rfl (evalArgs_plain (args_cons (wpAny_noRaise (any_neg hA' hr2 (Gg.it c) F6.keep G6 hgb ct6 ?_ ?_ ?_ ?_ rfl hnf (fun Q' kq => nm F6 (by walk_at "mem") kq) F6.inv.1 F6.inv.2 fun h7 t7 g7 a n7 hg7 k7 tab7 ha1 ha2 kany => ?_)))))))))
  · intro z
    obtain ⟨o, e⟩ := Gg.ndo
    rw [← z, hPf] at e; cases e
  · exact Nat.ne_of_lt (Nat.lt_trans hPfs (low _ (.inl rfl)))
  · exact fun z => Nat.lt_irrefl _ (Nat.lt_trans hPfs (low _ (.inr (.inr z))))
  · exact Nat.ne_of_lt hPfs
  refine args_nil (wpAny_noRaise (kany _ fun h8 t8 g8 hg8 k8 => wpAny_truthy_bool ?_))
  have k68 : KO (fun b => b = Pf) h6 h8 := fun b o n e => k8 b o (Heap.lt_size e) (k7 b o n e)
  have M8 : MC prog wd L y (fwRun y.N nbr W) h8 := MC.dep h6 h8 (fun b o q e => k68 b o (by
    rcases q with rfl | q
    · exact Nat.ne_of_gt hPfs
    · exact Nat.ne_of_gt (Nat.lt_trans hPfs (low b q))) e) F6.inv
  have F8 : Fn (fwEnv (.ref 95) L 96) hB (MC prog wd L y (fwRun y.N nbr W)) h8 _ := F6.to (fun b o e1 e2 => k68 b o (fun z => by rw [z, hPf] at e1; cases e1) e2) (fun o e => k68 L o (Nat.ne_of_gt hPfL) e) M8 (MC.stb ap)
  have ko8 : KO (fun b => b = 72 ∨ b = Pf) h h8 := fun b o n e => k68 b o (fun z => n (.inr z)) (ko6 b o (fun z => n (.inl z)) e)
  have G8 := B.G.keep F8.keep
  have T8 : Tab72 p0 h8 := by
    obtain ⟨tc, l1, l2, l3, l4⟩ := T5.split2
    have h76L : 76 < L := by obtain ⟨_, _, ct, _⟩ := T; rw [← hLd]; exact ct.lt.1
    obtain ⟨_, hns5, _⟩ := F5.loc.ns
    obtain ⟨_, _, _, eL, dL⟩ := ns_dict hns5
    have n1 : tc ≠ L := l3 _ _ eL fun vs z => by rw [dL] at z; cases z
    have n2 : ∀ b, y.row b → tc ≠ b := fun b q => by
      rcases q with ⟨i, hi, rfl⟩ | ⟨i, hi, rfl⟩
      · obtain ⟨_, _, _, e, d⟩ := (M5.drow i hi).dict
        exact l3 _ _ e fun vs z => by rw [d] at z; cases z
      · obtain ⟨_, _, _, e, d⟩ := (M5.prow i hi).dict
        exact l3 _ _ e fun vs z => by rw [d] at z; cases z
    have ct5 : CodeT h5 95 Pf ps := ct.at fun b o q e => ko5 b o (by rcases q with rfl | rfl; exact (by decide); exact hPf2) e
    have n3 : tc ≠ Pf := l4 _ _ ct5.tab ct5.tri hPf2
    refine l2 h8 fun b o q e => k68 b o ?_ (k6 b o ?_ e)
    · rcases q with rfl | rfl | rfl
      · exact hPf2.symm
      · exact hPf3.symm
      · exact n3
    · rcases q with rfl | rfl | rfl
      · exact wrL _ h72L
      · exact wrL _ h76L
      · rintro (z | z)
        · exact n1 z
        · exact n2 _ z rfl
  have tab8 : h8.get? Pf = some (tabObj (ps ++ #[rawInt (genPos (SM 11 2)).line, rawInt (genPos (SM 11 2)).col, .ref n7])) := k8 _ _ (Heap.lt_size ct6.tab) tab7
  split
  · rename_i hany
    refine wpAny_execs_cons (raise_unb (c := { c with g := g8 }) (B.U.keep F8.keep) hA' fun h9 e t9 tk9 hx => ?_)
    obtain ⟨m8, hns8, _⟩ := F8.loc.ns
    have upk : h.UpToSlots h8 := ko8.slots fun b o z e => by
      rcases z with z | z
      · rw [z, e72] at e; cases e; exact ⟨_, rfl⟩
      · rw [z, ct.tab] at e; cases e; exact ⟨_, rfl⟩
    have K' := Mine.Below.mv K (hb.trans F8.keep) upk
    have nas : ∀ a ∈ L :: frs outer, base.get? a = none ∧ ∃ o, h8.get? a = some o ∧ ∀ vs, o.data ≠ .fields vs := fun a ha => by
      rcases List.mem_cons.mp ha with rfl | ha
      · obtain ⟨o, es, ep, e, d⟩ := ns_dict hns8
        exact ⟨hLb, o, e, fun vs z => by rw [d] at z; cases z⟩
      · exact frs_at K'.frames a ha
    have K2 : Below A (hideAll h8 (L :: frs outer)) outer h8 := ⟨K'.stack, fun b o e => of_hideAll _ e, funFrames_hide K'.frames fun env he a e => .tail _ (frs_in env he a e)⟩
    refine leave_made (t := t9) (c := { c with g := g8 }) (h1 := h8) K2 (L := L) rfl hkd (hideAll_none _ (.head _)) hns8 hx fun h10 a0 fl up => ?_
    refine hE (.inr ⟨hneg, hany⟩) h10 t9 g8 e a0 _ hg8 fl (fun b o q => hideAll_get _ (K'.stays b o q) fun m => by rw [(nas b m).1] at q; cases q) (T8.hide fun a ha => (nas a ha).2) ⟨_, hideAll_get _ tab8 fun m => ?_⟩ (fun b o n1 n2 n3 q => hideAll_get _ (ko8 b o (fun z => z.elim n1 n2) q) fun m => ?_) (upk.trans up)
    · obtain ⟨o, e, d⟩ := (nas _ m).2
      rw [tab8] at e; cases e; exact d _ rfl
    · rcases List.mem_cons.mp m with z | z
      · exact absurd (Heap.lt_size q) (by rw [z, hLd]; exact Nat.lt_irrefl _)
      · exact n3 z
  · rename_i hany
    have hany : (y.N.any fun u => ltE ((fwRun y.N nbr W).D u u) (some 0)) = false := Bool.eq_false_iff.mpr hany
    refine wpAny_execs_nil (wpAny_execs_cons (wpAny_noRaise (wpAny_Return_some (Tuple_ (args_cons (Call_ (bname G8 (by walk_at "mem") PyProof.Rows.boot_dict (Pv.callWith_type1 (args_cons (nm F8 (by walk_at "mem") (args_nil
      (rowk_copy (c := { c with g := g8 }) F8.inv.1.p G8.low ?_ fun h9 t9 r9 k9 => ?_))))))))))))
    · rw [MD.prk]; exact Nat.le_trans (List.length_filter_le _ _) (Nat.le_trans MD.ok.len (by decide))
    have F9 := F8.ext k9
    refine args_cons (Call_ (bname (G8.keep k9) (by walk_at "mem") PyProof.Rows.boot_dict (Pv.callWith_type1 (args_cons (nmc F9.inv.2 (args_nil
      (rowk_copy (c := { c with g := g8 }) F9.inv.1.d (G8.keep k9).low (Nat.le_trans MD.ok.len (by decide)) fun h10 t10 r10 k10 => args_nil (wpAny_newTuple ?_ (by rw [sizeLine_eq]; show 2 ≤ _; decide)))))))))
    have hr9 : h8.objs.size < h9.objs.size := r9.lt
    have Mx : Mats prog wd { y with dd := h9.objs.size, pd := h8.objs.size } (fwRun y.N nbr W) (h10.push { cls := .type "tuple", data := .seq [Value.ref h8.objs.size, Value.ref h9.objs.size].toArray }) :=
      ⟨r10.keep (Keep.push _ _), fun i hi => (F9.inv.1.drow i hi).keep (k10.trans (Keep.push _ _)), r9.keep (k10.trans (Keep.push _ _)), fun i hi => (F9.inv.1.prow i hi).keep (k10.trans (Keep.push _ _))⟩
    have l8 : L ≤ h8.objs.size := Nat.le_of_lt F8.loc.lt
    refine hQ hneg hany _ t10 g8 { y with dd := h9.objs.size, pd := h8.objs.size } h10.objs.size hg8 ⟨rfl, MD.prk, ?_, Mx⟩ (fun b o n e => Heap.get?_push_of_some _ (k10 b o (k9 b o (ko8 b o n e)))) (T8.at fun b o _ e => Heap.get?_push_of_some _ (k10 b o (k9 b o e))) ⟨_, Heap.get?_push_of_some _ (k10 _ _ (k9 _ _ tab8))⟩ ⟨_, Heap.get?_push_size _ rfl⟩
    rintro b (rfl | rfl | q)
    · exact Nat.le_trans l8 (Nat.le_of_lt hr9)
    · exact l8
    · exact Nat.le_of_lt (Nat.lt_of_succ_lt (low b (.inr (.inr q))))
end
end Mine
end
section
open PySem PySem.W PyProof.Rows PySem.Calls
set_option maxRecDepth 100000
namespace Mine
local macro_rules | `(tactic| walk_at "mem") => `(tactic| with_reducible (first | exact List.mem_cons_self | (refine List.mem_cons_of_mem _ ?_; walk_at "mem")))

def twRun (N : List Int) (nbr : Int → List Int) (W : Int → Int → Int) : Tbl := (foldT nbr W N).runTW N (prkOf N nbr)

section
variable {prog : Program} {wd : World} {A : Around} {c : Cst} {hB h : Heap} {t : Nat} {g nd adj Pf : Addr} {E : Value → Shared → Prop} {N : List Int} {nbr : Int → List Int} {W : Int → Int → Int} {inn : Int → Addr}
theorem tree_spec {p0 : Array Value} {base : Heap} {outer : List Env} {ps : Array Value} {Q : Value → Shared → Prop} (hA : A.handled = none) (hroom : A.depth + 8 < recursionLimit) (B : Bs hB) (Gg : Gr prog wd hB g nd adj N nbr W inn) (kB : Keep hB h) (hBsz : hB.objs.size ≤ h.objs.size) (T : Tab72 p0 h)
    (f88 : FnAt hB 88 (S 10) "floyd_warshall_tree" (.ref 83) (.ref 87)) (d83 : ∃ o tk n, hB.get? 83 = some o ∧ o.data = .seq #[.str "weight" tk] n)
    (h72 : hB.get? 72 = none) (hPf : hB.get? Pf = none) (hPf2 : Pf ≠ 72) (ct : CodeT h 87 Pf ps) (hnf : codeAmong (genPos (SM 10 3)) ps.toList = none) (K : Below A base outer h) (hb : Keep base hB) (hgb : AllBare c.g)
    (hnn : ∀ u, ¬ NegLoop N nbr W u) (safe : ∀ p w r, prkOf N nbr = p ++ w :: r → WSafe N (prkOf N nbr) ((foldT nbr W N).runTW N p) w) (hany : (N.any fun u => ltE ((twRun N nbr W).D u u) (some 0)) = false)
    (hQ : ∀ h' t' g' y tu, AllBare g' → Res prog wd N (prkOf N nbr) (twRun N nbr W) h.objs.size y h' → KO (fun b => b = 72 ∨ b = Pf) h h' → (∃ more, h'.get? 72 = some (tabObj (p0 ++ more))) → (∃ more, h'.get? Pf = some (tabObj (ps ++ more))) → (∃ n, h'.get? tu = some { cls := .type "tuple", data := .seq #[.ref y.pd, .ref y.dd] n }) → Q (.ref tu) (mk { c with g := g' } h' t')) :
    wpAny (model prog wd) A (call (.ref 88) [.ref g]) Q E (mk c h t) := by
  obtain ⟨o83, tk, n83, e83, d83⟩ := d83
  refine call_cells (E := E) (B.G.keep kB) (f88.keep kB) (Nat.lt_of_le_of_lt (Nat.le_add_right _ _) hroom) (binds := [("G", .ref g), ("weight", .str "weight" tk)])
    (fun pm => BindsTo.of_defaults (T := 83) rfl (kB _ _ e83) d83 (by rfl) (by rfl)) [("G", some (.ref g)), ("weight", some (.str "weight" tk)), ("inf", none), ("pred", none), ("w", none), ("pred_w", none), ("parent", none), ("out_w", none), ("v", none), ("stack", none), ("dfs_dict", none), ("skip_dict", none), ("node", none), ("next_node", none), ("dist_w", none), ("u", none), ("dist_u", none), ("dist_uw", none), ("dist_uwv", none)] fun h0 t0 F0 X => ?_
  have hcell0 : h0.IsCell (h.objs.size + 1) none := X.cell "dist" _ (by rfl)
  generalize hLd : h.objs.size = L at *
  have hA' : (A.deeper (trEnv (.ref 87) L 88)).handled = none := hA
  have hd : (A.deeper (trEnv (.ref 87) L 88)).depth = A.depth + 1 := rfl
  have hr1 : (A.deeper (trEnv (.ref 87) L 88)).depth + 4 < recursionLimit := by rw [hd]; omega
  have hr2 : (A.deeper (trEnv (.ref 87) L 88)).depth + 1 < recursionLimit := by rw [hd]; omega
  have kB0 : Keep hB h0 := kB.trans F0.keep
  have F00 : Fn (trEnv (.ref 87) L 88) hB (fun h => h.IsCell (L + 1) none) h0 [("G", some (.ref g)), ("weight", some (.str "weight" tk)), ("inf", none), ("pred", none), ("w", none), ("pred_w", none), ("parent", none), ("out_w", none), ("v", none), ("stack", none), ("dfs_dict", none), ("skip_dict", none), ("node", none), ("next_node", none), ("dist_w", none), ("u", none), ("dist_u", none), ("dist_uw", none), ("dist_uwv", none)] := ⟨F0.loc, kB0, hBsz, hcell0, (Dep.cell (X := fun b => b ≠ L) (Nat.succ_ne_self L)).stb fun z => z rfl⟩
  refine wpAny_execs_cons (wpAny_noRaise (wpAny_Assign_Name (Call_ (bname (B.G.keep kB0) (by walk_at "mem") PyProof.Rows.boot_float (Pv.callWith_type1 (args_cons (wpAny_Constant_str (args_nil (call_inf rfl hA' fun iv t1 riv => ?_)))))))))
  refine st2 F00 fun h1 t1 F1 s1 => ?_
  have kh : Keep h h1 := fun b o e => s1.extBut b o (Nat.ne_of_lt (hLd ▸ Heap.lt_size e)) (F0.keep b o e)
  have kB1 : Keep hB h1 := kB.trans kh
  have hcell := F1.inv
  have hLlt : L < h1.objs.size := F1.loc.lt
  have hL1 : L + 1 < h1.objs.size := by obtain ⟨_, e, _⟩ := hcell; exact Heap.lt_size e
  obtain ⟨ps72, e72⟩ := T.is
  have h72L : 72 < L := by rw [← hLd]; exact Heap.lt_size e72
  have hPfL : Pf < L := by rw [← hLd]; exact Heap.lt_size ct.tab
  have hLb : base.get? L = none := by
    cases q : base.get? L with
    | none => rfl
    | some o => exact absurd (Heap.lt_size (hb L o q)) (Nat.not_lt.mpr hBsz)
  have hkd : (trEnv (.ref 87) L 88).scope.kind ≠ .module := fun z => nomatch (show ScopeKind.function = ScopeKind.module from z)
  obtain ⟨m1, hns1, _⟩ := F1.loc.ns
  have K1 := Below.push' (env := trEnv (.ref 87) L 88) K rfl hkd hns1 hLb kh
  obtain ⟨oi, pmi, hoi, hdi, hci⟩ := B.f82.keep kB1
  have T1 : Tab72 p0 h1 := T.at fun b o _ e => kh b o e
  -- pred, dist = _init_pred_dist(G, weight)
  refine wpAny_execs_cons (Assign_Tuple (Call_ (gname (B.G.keep kB1) (by walk_at "mem") (callWith_def hdi (args_cons (nm F1 (by walk_at "mem") (args_cons (nm F1 (by walk_at "mem") (args_nil ⟨hoi, ?_⟩)))))))))
  refine init_spec hA' hr1 B Gg kB1 T1 h72 K1 hb (Nat.le_trans hBsz (Nat.le_of_lt hLlt)) (fun ⟨u, hneg⟩ => absurd hneg (hnn u)) (fun _ h2 t2 y tu MD k2 T2 htu htup => ?_)
  obtain ⟨ntu, htup⟩ := htup
  have F2 : Fn (trEnv (.ref 87) L 88) hB (fun h => h.IsCell (L + 1) none) h2 _ := F1.to (fun b o e1 e2 => k2 b o (fun z => by rw [z, h72] at e1; cases e1) e2) (fun o e => k2 L o (Nat.ne_of_gt h72L) e)
    (let ⟨o, e, r⟩ := hcell; ⟨o, k2 _ _ (Nat.ne_of_gt (Nat.lt_succ_of_lt h72L)) e, r⟩) F1.stb
  refine wpAny_noRaise (assign2 (c := c) (t := t2) hA' ⟨ntu, htup⟩ fun h3 k3 => ?_)
  have low : ∀ b, (b = y.dd ∨ b = y.pd ∨ y.row b) → L + 1 < b := fun b q => Nat.lt_of_lt_of_le hL1 (MD.low b q)
  refine st3 (F2.ext k3) fun h4 t4 F4 s4 => stc F4.inv (fun h5 c5 s5 => ?_)
  have hyN := MD.hN
  subst hyN
  have ap : Apart hB L y := ⟨fun b q => have l := low b (.inr (.inr q)); ⟨Nat.le_trans hBsz (Nat.le_of_lt (Nat.lt_of_succ_lt l)), Nat.ne_of_gt (Nat.lt_of_succ_lt l), Nat.ne_of_gt l⟩, Nat.ne_of_gt (Nat.lt_of_succ_lt (low _ (.inl rfl))), Nat.ne_of_gt (Nat.lt_of_succ_lt (low _ (.inr (.inl rfl))))⟩
  have M5 : Mats prog wd y (foldT nbr W y.N) h5 := Mats.dep h2 h5 (fun b o q e => s5.extBut b o (Nat.ne_of_gt (low b q)) (s4.extBut b o (Nat.ne_of_gt (Nat.lt_of_succ_lt (low b q))) (k3 b o e))) MD.mats
  have F5 : Fn (trEnv (.ref 87) L 88) hB (MC prog wd L y (foldT nbr W y.N)) h5 _ := F4.upd (Nat.le_succ_of_le hBsz) (Nat.succ_ne_self L) s5.extBut ⟨M5, c5⟩ (MC.stb ap)
  have ko5 : KO (fun b => b = 72) h h5 := fun b o n e => by
    have hlt : b < L := hLd ▸ Heap.lt_size e
    exact s5.extBut b o (Nat.ne_of_lt (Nat.lt_succ_of_lt hlt)) (s4.extBut b o (Nat.ne_of_lt hlt) (k3 b o (k2 b o n (kh b o e))))
  refine wpAny_execs_cons (wpAny_noRaise (tr_w hA' hr2 (Gg.it c) Gg.nd B.G.low Gg.nodup MD.ok ap (fun w q => by rw [MD.prk] at q; exact (List.mem_filter.mp q).1) riv (by rw [MD.prk]; exact safe) F5 fun h6 t6 wo pwo po oo vo so dfo sko no nno dwo uo duo duwo dvo k6 F6 => ?_))
  rw [MD.prk] at F6
  change Fn (trEnv (.ref 87) L 88) hB (MC prog wd L y (twRun y.N nbr W)) h6 _ at F6
  have h87L : 87 < L := by rw [← hLd]; exact ct.lt.1
  have wrL : ∀ b, b < L → ¬ Wr L y b := fun b q z => by
    rcases z with z | z
    · exact Nat.lt_irrefl _ (z ▸ q)
    · exact Nat.lt_irrefl _ (Nat.lt_trans q (Nat.lt_of_succ_lt (low b (.inr (.inr z)))))
  have ko6 : KO (fun b => b = 72) h h6 := fun b o n e => k6 b o (wrL b (hLd ▸ Heap.lt_size e)) (ko5 b o n e)
  have ct6 : CodeT h6 87 Pf ps := ct.at fun b o q e => ko6 b o (by rcases q with rfl | rfl; exact (by decide); exact hPf2) e
  have hPfs : Pf < L + 1 := Nat.lt_succ_of_lt hPfL
  have G6 := B.G.keep F6.keep
  have U6 := B.U.keep F6.keep
  have hPdict : ∀ b o es ep, h6.get? b = some o → o.data = .dict es ep → Pf ≠ b := fun b o es ep e d z => by
    rw [← z, ct6.tab] at e; cases e; cases d
  refine wpAny_execs_cons (wpAny_If (isTrue_plain (Call_ (bname G6 (by walk_at "mem") PyProof.Rows.boot_any (callWith_builtin rfl (evalArgs_plain (args_cons (wpAny_noRaise (any_neg hA' hr2 (Gg.it c) F6.keep G6 hgb ct6 ?_ ?_ ?_ ?_ rfl hnf (fun Q' kq => nm F6 (by walk_at "mem") kq) F6.inv.1 F6.inv.2 fun h7 t7 g7 a n7 hg7 k7 tab7 ha1 ha2 kany => ?_)))))))))
  · intro z
    obtain ⟨o, e⟩ := Gg.ndo
    rw [← z, hPf] at e; cases e
  · exact Nat.ne_of_lt (Nat.lt_trans hPfs (low _ (.inl rfl)))
  · exact fun z => Nat.lt_irrefl _ (Nat.lt_trans hPfs (low _ (.inr (.inr z))))
  · exact Nat.ne_of_lt hPfs
  refine args_nil (wpAny_noRaise (kany _ fun h8 t8 g8 hg8 k8 => wpAny_truthy_bool ?_))
  have k68 : KO (fun b => b = Pf) h6 h8 := fun b o n e => k8 b o (Heap.lt_size e) (k7 b o n e)
  have M8 : MC prog wd L y (twRun y.N nbr W) h8 := MC.dep h6 h8 (fun b o q e => k68 b o (by
    rcases q with rfl | q
    · exact Nat.ne_of_gt hPfs
    · exact Nat.ne_of_gt (Nat.lt_trans hPfs (low b q))) e) F6.inv
  have F8 : Fn (trEnv (.ref 87) L 88) hB (MC prog wd L y (twRun y.N nbr W)) h8 _ := F6.to (fun b o e1 e2 => k68 b o (fun z => by rw [z, hPf] at e1; cases e1) e2) (fun o e => k68 L o (Nat.ne_of_gt hPfL) e) M8 (MC.stb ap)
  have ko8 : KO (fun b => b = 72 ∨ b = Pf) h h8 := fun b o n e => k68 b o (fun z => n (.inr z)) (ko6 b o (fun z => n (.inl z)) e)
  have G8 := B.G.keep F8.keep
  rw [if_neg (by simp only [hany]; exact Bool.false_ne_true)]
  refine wpAny_execs_nil (wpAny_execs_cons (wpAny_noRaise (wpAny_Return_some (Tuple_ (args_cons (Call_ (bname G8 (by walk_at "mem") PyProof.Rows.boot_dict (Pv.callWith_type1 (args_cons (nm F8 (by walk_at "mem") (args_nil
    (rowk_copy (c := { c with g := g8 }) F8.inv.1.p G8.low ?_ fun h9 t9 r9 k9 => ?_))))))))))))
  · rw [MD.prk]; exact Nat.le_trans (List.length_filter_le _ _) (Nat.le_trans MD.ok.len (by decide))
  have F9 := F8.ext k9
  refine args_cons (Call_ (bname (G8.keep k9) (by walk_at "mem") PyProof.Rows.boot_dict (Pv.callWith_type1 (args_cons (nmc F9.inv.2 (args_nil
    (rowk_copy (c := { c with g := g8 }) F9.inv.1.d (G8.keep k9).low (Nat.le_trans MD.ok.len (by decide)) fun h10 t10 r10 k10 => args_nil (wpAny_newTuple ?_ (by rw [sizeLine_eq]; show 2 ≤ _; decide)))))))))
  have hr9 : h8.objs.size < h9.objs.size := r9.lt
  have Mx : Mats prog wd { y with dd := h9.objs.size, pd := h8.objs.size } (twRun y.N nbr W) (h10.push { cls := .type "tuple", data := .seq [Value.ref h8.objs.size, Value.ref h9.objs.size].toArray }) :=
    ⟨r10.keep (Keep.push _ _), fun i hi => (F9.inv.1.drow i hi).keep (k10.trans (Keep.push _ _)), r9.keep (k10.trans (Keep.push _ _)), fun i hi => (F9.inv.1.prow i hi).keep (k10.trans (Keep.push _ _))⟩
  have l8 : L ≤ h8.objs.size := Nat.le_of_lt F8.loc.lt
  have t72 : ∃ more, (h10.push { cls := .type "tuple", data := .seq [Value.ref h8.objs.size, Value.ref h9.objs.size].toArray }).get? 72 = some (tabObj (p0 ++ more)) := by
    obtain ⟨more, e⟩ := T2.is2
    have e5 : h5.get? 72 = some (tabObj (p0 ++ more)) := s5.extBut _ _ (Nat.ne_of_lt (Nat.lt_succ_of_lt h72L)) (s4.extBut _ _ (Nat.ne_of_lt h72L) (k3 _ _ e))
    exact ⟨more, Heap.get?_push_of_some _ (k10 _ _ (k9 _ _ (k68 _ _ (Ne.symm hPf2) (k6 _ _ (wrL _ h72L) e5))))⟩
  refine hQ _ t10 g8 { y with dd := h9.objs.size, pd := h8.objs.size } h10.objs.size hg8 ⟨rfl, MD.prk, ?_, Mx⟩ (fun b o n e => Heap.get?_push_of_some _ (k10 b o (k9 b o (ko8 b o n e)))) t72 ⟨_, Heap.get?_push_of_some _ (k10 _ _ (k9 _ _ (k8 _ _ (Heap.lt_size ct6.tab) tab7)))⟩ ⟨_, Heap.get?_push_size _ rfl⟩
  rintro b (rfl | rfl | q)
  · exact Nat.le_trans l8 (Nat.le_of_lt hr9)
  · exact l8
  · exact Nat.le_of_lt (Nat.lt_of_succ_lt (low b (.inr (.inr q))))
end
end Mine
end
section
open PySem PySem.W PyProof.Rows PySem.Calls
set_option maxRecDepth 100000
namespace Mine
section
variable {prog : Program} {w : World} {A : Around} {E : Value → Shared → Prop} {s : Shared}

/-- a dict, by its entries alone -/
def RawD (h : Heap) (d : Addr) (es : Array DictEntry) (ep : Nat) : Prop := ∃ o, h.get? d = some o ∧ o.ExactDict ∧ o.data = .dict es ep
theorem RawD.at {h h' : Heap} {d es ep} (x : RawD h d es ep) (e : ∀ o, h.get? d = some o → h'.get? d = some o) : RawD h' d es ep := let ⟨o, q, r⟩ := x; ⟨o, e o q, r⟩
theorem RawD.typeIs {d es ep} (x : RawD s.heap d es ep) : s.TypeIs (.ref d) "dict" := let ⟨o, q, c, _⟩ := x; ⟨o, q, c.1⟩

theorem raw_iter {d : Addr} {es : Array DictEntry} {ep : Nat} {Q : Value → Shared → Prop} (hd : (d == sysModules) = false) (x : RawD s.heap d es ep)
    (hQ : Q (.ref s.heap.objs.size) { s with heap := s.heap.push { cls := .type "dict_keyiterator", data := .fields #[.ref d, .int 0 0, .int es.size 0, .int ep 0] } }) :
    wpAny (model prog w) A (pyIter (.ref d)) Q E s := by
  have T := x.typeIs
  obtain ⟨o, ho, _, hdat⟩ := x
  refine wpAny_pyIter_slot T F.slot_dict_iter (wpAny_call_entry F.slot_dict_iter T F.entry_dict_iter ?_ (F.args_dict_iter_1 _))
  unfold Builtin.«dict.__iter__»
  refine wpAny_bind ?_
  unfold Builtin.Dict.dictSlotNone
  refine wpAny_bind (wpAny_notOrdered_dict T ?_)
  show wpAny _ _ (pure (Value.ref d)) _ _ s
  refine wpAny_pure ?_
  show wpAny _ _ (Builtin.Dict.showsAll d >>= _) _ _ s
  unfold Builtin.Dict.showsAll
  rw [if_neg (by rw [hd]; exact Bool.false_ne_true)]
  refine wpAny_bind (wpAny_pure (wpAny_bind (wpAny_dictEntries ho hdat (wpAny_bind (wpAny_dictEpoch ho hdat ?_)))))
  refine wpAny_bind (wpAny_newObj_type (wpAny_pure ⟨_, rfl, "dict_keyiterator", _, ⟨_, Heap.get?_push_size _ rfl, rfl⟩, F.slot_dict_keyiterator_next.lookup, ?_⟩))
  simpa [rawInt] using hQ

theorem raw_next {it d : Addr} {i ep : Nat} {es : Array DictEntry} {Q : Option Value → Shared → Prop} (hit : s.heap.IsKeyIter it d i es.size ep) (x : RawD s.heap d es ep) (hi : i < es.size)
    (hQ : ∀ h', h'.IsKeyIter it d (i + 1) es.size ep → Heap.SameBut it s.heap h' → Q (some es[i].key) { s with heap := h' }) :
    wpAny (model prog w) A (pyNext (.ref it)) Q E s := by
  have T := hit.typeIs
  obtain ⟨o, ho, hc, hd⟩ := hit
  obtain ⟨od, hod, _, hdd⟩ := x
  unfold pyNext
  refine wpAny_bind (wpAny_attempt (wpAny_callSpecial?_slot (name := Str.ofString "__next__") T F.slot_dict_keyiterator_next
    (wpAny_call_entry F.slot_dict_keyiterator_next T F.entry_dict_keyiterator_next ?_ (F.args_dict_keyiterator_next_1 _))))
  refine wpAny_bind (wpAny_pure (wpAny_bind (wpAny_bind ?_)))
  first | refine wpAny_bind (wpAny_typeNameOfWhole_keyiter T (wpAny_pure ?_)) | refine wpAny_bind (wpAny_typeNameOf_keyiter T (wpAny_pure ?_))
  refine wpAny_bind (wpAny_fieldsOf ho hd ?_)
  simp only [show Builtin.Dict_items.ownsTuple "dict_keyiterator" = false by decide, Bool.false_eq_true, if_false]
  show wpAny _ _ (if (Value.ref d == Value.none) = true then _ else _) _ _ s
  rw [if_neg (show ¬ ((Value.ref d == Value.none) = true) from Bool.false_ne_true)]
  refine wpAny_bind (wpAny_pure (wpAny_bind (wpAny_dictEntries hod hdd ?_)))
  rw [if_neg (by simp)]
  refine wpAny_bind (wpAny_pure (wpAny_bind (wpAny_dictEpoch hod hdd ?_)))
  rw [if_neg (by simp)]
  refine wpAny_pure ?_
  simp only [show ¬ ((i : Int) < 0) from by omega, if_false, Int.toNat_natCast, Array.getElem?_eq_getElem hi]
  refine wpAny_bind ?_
  first | refine wpAny_bind (wpAny_typeNameOfWhole_keyiter T (wpAny_pure ?_)) | refine wpAny_bind (wpAny_typeNameOf_keyiter T (wpAny_pure ?_))
  refine wpAny_bind (wpAny_isOneOf_keyiter T ?_)
  show wpAny _ _ (setField (.ref it) 1 (rawInt ((i : Int) + 1)) >>= _) _ _ s
  refine wpAny_bind (wpAny_setField ho hd (by simp) ?_)
  have hit' : (s.heap.update it (Obj.mapFields (·.setIfInBounds 1 (rawInt ((i : Int) + 1))))).IsKeyIter it d (i + 1) es.size ep :=
    ⟨_, Heap.get?_update_self _ ho (Obj.isFreed_of_fields (Obj.data_mapFields hd _)), (Obj.cls_mapFields ..).trans hc, by rw [Obj.data_mapFields hd]; simp [rawInt]⟩
  refine wpAny_bind (wpAny_holding ?_)
  refine wpAny_bind (wpAny_isOneOf_keyiter (s := { s with heap := s.heap.update it (Obj.mapFields (·.setIfInBounds 1 (rawInt ((i : Int) + 1)))) }) hit'.typeIs ?_)
  show wpAny _ _ (pure es[i].key) _ _ _
  exact wpAny_pure (wpAny_pure ⟨_, rfl, wpAny_pure (hQ _ hit' (Heap.SameBut.update ..))⟩)

theorem raw_end {it d : Addr} {ep : Nat} {es : Array DictEntry} {Q : Option Value → Shared → Prop} (hh : A.handled = none) (hit : s.heap.IsKeyIter it d es.size es.size ep) (x : RawD s.heap d es ep)
    (hQ : ∀ h', Heap.ExtBut it s.heap h' → Q none { s with heap := h' }) : wpAny (model prog w) A (pyNext (.ref it)) Q E s := by
  have T := hit.typeIs
  obtain ⟨o, ho, hc, hd⟩ := hit
  obtain ⟨od, hod, _, hdd⟩ := x
  unfold pyNext
  refine wpAny_bind (wpAny_attempt (wpAny_callSpecial?_slot (name := Str.ofString "__next__") T F.slot_dict_keyiterator_next
    (wpAny_call_entry F.slot_dict_keyiterator_next T F.entry_dict_keyiterator_next ?_ (F.args_dict_keyiterator_next_1 _))))
  refine wpAny_bind (wpAny_pure (wpAny_bind (wpAny_bind ?_)))
  first | refine wpAny_bind (wpAny_typeNameOfWhole_keyiter T (wpAny_pure ?_)) | refine wpAny_bind (wpAny_typeNameOf_keyiter T (wpAny_pure ?_))
  refine wpAny_bind (wpAny_fieldsOf ho hd ?_)
  simp only [show Builtin.Dict_items.ownsTuple "dict_keyiterator" = false by decide, Bool.false_eq_true, if_false]
  show wpAny _ _ (if (Value.ref d == Value.none) = true then _ else _) _ _ s
  rw [if_neg (show ¬ ((Value.ref d == Value.none) = true) from Bool.false_ne_true)]
  refine wpAny_bind (wpAny_pure (wpAny_bind (wpAny_dictEntries hod hdd ?_)))
  rw [if_neg (by simp)]
  refine wpAny_bind (wpAny_pure (wpAny_bind (wpAny_dictEpoch hod hdd ?_)))
  rw [if_neg (by simp)]
  refine wpAny_pure ?_
  simp only [show ¬ ((es.size : Int) < 0) from by omega, if_false, Int.toNat_natCast, Array.getElem?_eq_none (Nat.le_refl _)]
  refine wpAny_bind ?_
  first | refine wpAny_bind (wpAny_typeNameOfWhole_keyiter T (wpAny_pure ?_)) | refine wpAny_bind (wpAny_typeNameOf_keyiter T (wpAny_pure ?_))
  show wpAny _ _ (setField (.ref it) 0 .none >>= _) _ _ s
  refine wpAny_bind (wpAny_setField ho hd (by simp) ?_)
  show wpAny _ _ (newExc (.type "StopIteration") [] >>= _) _ _ _
  refine wpAny_bind ?_
  simp only [newExc, newTuple]
  refine wpAny_bind (wpAny_newObj_type ?_ (by size_fits))
  refine wpAny_bind (m := firstArgMember _ _) (wpAny_of_eq (a := Value.none) (by first | rfl | (simp only [firstArgMember]; rfl)) ?_)
  refine wpAny_newObj_type ?_ (by size_fits)
  simp only [raiseNew]
  refine wpAny_bind (wpAny_handled ?_)
  rw [show A.in1.handled = none from hh]
  refine wpAny_bind (wpAny_pure (wpAny_throw ?_))
  refine wpAny_bind (wpAny_isInstance (T := "StopIteration") (b := true) ⟨_, Heap.get?_push_size _ rfl, rfl⟩ isSubtype_stop ?_)
  exact wpAny_pure (hQ _ (((Heap.SameBut.update ..).extBut.push _).push _))

theorem Walks.raw (hh : A.handled = none) (I d : Addr) (hne : d ≠ I) (es : Array DictEntry) (ep : Nat) :
    Walks prog w A I [I, d] [I] es.size (fun i v => ∃ e, es[i]? = some e ∧ v = e.key) (fun i h => h.IsKeyIter I d i es.size ep ∧ RawD h d es ep) where
  sub := fun b hb => by simp at hb; simp [hb]
  frame := fun _ _ _ st hk => ⟨st.1.at fun o e => hk I (by simp) o e, st.2.at fun o e => hk d (by simp) o e⟩
  item := fun i s Q E hi st hQ => raw_next st.1 st.2 hi fun h' hit' hs' =>
    hQ _ h' s.toks ⟨es[i], by simp [hi], rfl⟩ ⟨hit', st.2.at fun o e => hs'.extBut d o hne e⟩ fun b o hb e => hs'.extBut b o (fun h => hb (by simp [h])) e
  done := fun s Q E st hQ => raw_end hh st.1 st.2 fun h' he' => hQ h' s.toks fun b o hb e => he' b o (fun h => hb (by simp [h])) e
  self := fun _ _ _ _ st hQ => wpAny_pyIter_keyiter st.1 hQ
end
end Mine
end
section
open PySem PySem.W PyProof.Rows PySem.Calls
set_option maxRecDepth 100000
namespace Mine
local macro_rules | `(tactic| walk_at "mem") => `(tactic| with_reducible (first | exact List.mem_cons_self | (refine List.mem_cons_of_mem _ ?_; walk_at "mem")))
section
variable {prog : Program} {w : World} {A : Around} {env : Env} {c : Cst} {h : Heap} {t : Nat} {E : Value → Shared → Prop}

theorem assign2' {xa xb : Str} {pa pb pt : Pos} {kk} {T : Addr} {va vb : Value} {Q : Unit → Shared → Prop} (hA : A.handled = none) (ht : IsTup h T #[va, vb])
    (k : ∀ h', Keep h h' → wpAny (model prog w) A (storeName env xa va) (fun _ s₁ => wpAny (model prog w) A (storeName env xb vb) Q E s₁) E (mk c h' t)) :
    wpAny (model prog w) A (assign (.Tuple [.Name xa pa, .Name xb pb] kk pt) env (.ref T)) Q E (mk c h t) := by
  refine assign_Tuple_tuple (s := mk c h t) hA ht (by rfl) (by rfl) fun h' hx => ?_
  show wpAny _ _ (assignInOrder [assign (.Name xa pa) env, assign (.Name xb pb) env] [va, vb]) _ _ _
  refine assignInOrder_cons (wpAny_assign_Name (wpAny_mono (k h' fun b o q => hx b o (Nat.ne_of_lt (Heap.lt_size q)) q) (fun _ s₁ h₁ => ?_) fun _ _ e => e))
  exact assignInOrder_cons (wpAny_assign_Name (wpAny_mono h₁ (fun _ s₂ h₂ => assignInOrder_nil h₂) fun _ _ e => e))

/-- a dict by pairs of ints; Z holds at all that it leans on -/
def Arcs (prog : Program) (w : World) (Z : Addr → Prop) (h : Heap) (d : Addr) (ks : List (Int × Int)) (f : Int × Int → Int) : Prop :=
  (d == sysModules) = false ∧ Z d ∧ ∃ xs : List ((Int × Int) × Addr × Value), h.DictOfH (tupleKind (intKind prog w)) d (xs.map fun x => ([x.1.1, x.1.2], x.2)) ∧ xs.map (·.1) = ks ∧ ∀ x ∈ xs, Z x.2.1 ∧ RI x.2.2 (f x.1)
variable {Z : Addr → Prop} {d : Addr} {ks : List (Int × Int)} {f : Int × Int → Int}
theorem Arcs.dep : Dep Z fun h => Arcs prog w Z h d ks f := fun h h' k ⟨s, zd, xs, ⟨o, es, ep, ho, hc, hd, he, hi, hn⟩, hk, r⟩ =>
  ⟨s, zd, xs, ⟨o, es, ep, k _ _ zd ho, hc, hd, he, fun x hx => by
    obtain ⟨y, hy, rfl⟩ := List.mem_map.mp hx
    obtain ⟨o, it, n, e, q⟩ := hi _ hx
    exact ⟨o, it, n, k _ _ (r y hy).1 e, q⟩, hn⟩, hk, r⟩
theorem Arcs.weak {Z' : Addr → Prop} (x : Arcs prog w Z h d ks f) (z : ∀ b, b < h.objs.size → Z b → Z' b) : Arcs prog w Z' h d ks f := by
  obtain ⟨s, zd, xs, D, hk, r⟩ := x
  have D' := D
  obtain ⟨o, es, ep, ho, hc, hd, he, hi, hn⟩ := D'
  refine ⟨s, z _ (Heap.lt_size ho) zd, xs, D, hk, fun x hx => ⟨z _ ?_ (r x hx).1, (r x hx).2⟩⟩
  obtain ⟨o, it, n, e, q⟩ := hi _ (List.mem_map.mpr ⟨x, hx, rfl⟩)
  exact Heap.lt_size e
theorem Arcs.keep {h' : Heap} (x : Arcs prog w Z h d ks f) (k : Keep h h') : Arcs prog w Z h' d ks f := Arcs.dep h h' (fun b o _ e => k b o e) x

theorem find_arc : ∀ (xs : List ((Int × Int) × Addr × Value)) (p : Int × Int), atKey (xs.map fun x => (([x.1.1, x.1.2] : List Int), x.2)) [p.1, p.2] = atKey xs p
  | [], _ => rfl
  | x :: r, p => by
    have ih := find_arc r p
    by_cases e : x.1 = p
    · subst e; simp [atKey]
    · have e' : ¬ ([x.1.1, x.1.2] : List Int) = [p.1, p.2] := fun q => e (by
        simp only [List.cons.injEq, and_true] at q; exact Prod.ext q.1 q.2)
      simp only [atKey, List.map_cons, List.find?_cons, decide_eq_false e, decide_eq_false e'] at ih ⊢
      exact ih

theorem Arcs.tup {h' : Heap} {a : Addr} {u v : Int} (hi : IsTupleKey (intKind prog w) h' [u, v] a) : ∃ tu tv, IsTup h' a #[.int u tu, .int v tv] := by
  obtain ⟨o, it, n, e, q1, q2, q3⟩ := hi
  obtain ⟨l⟩ := it
  simp only at q3
  cases q3 with
  | cons k1 r1 =>
    cases r1 with
    | cons k2 r2 =>
      cases r2
      rename_i a b
      cases a <;> simp [intKind, Value.isInt] at k1
      cases b <;> simp [intKind, Value.isInt] at k2
      subst k1; subst k2
      exact ⟨_, _, o, e, q1, n, q2⟩
theorem Arcs.key {h' : Heap} {a : Addr} {u v : Int} {tu tv : Tok} (x : IsTup h' a #[.int u tu, .int v tv]) : IsTupleKey (intKind prog w) h' [u, v] a := by
  obtain ⟨o, e, q1, n, q2⟩ := x
  exact ⟨o, _, n, e, q1, q2, .cons (intKind_is prog w u tu) (.cons (intKind_is prog w v tv) .nil)⟩

theorem Arcs.get {p : Int × Int} (x : Arcs prog w Z h d ks f) (hp : p ∈ ks) : ∃ xs a v, h.DictOfH (tupleKind (intKind prog w)) d xs ∧ atKey xs [p.1, p.2] = some (a, v) ∧ RI v (f p) := by
  obtain ⟨s, zd, xs, D, hk, r⟩ := x
  subst hk
  obtain ⟨y, hy, rfl⟩ := List.mem_map.mp hp
  cases e : atKey xs y.1 with
  | none =>
    simp only [atKey, Option.map_eq_none_iff, List.find?_eq_none] at e
    exact absurd (e y hy) (by simp)
  | some q =>
    refine ⟨_, q.1, q.2, D, by rw [find_arc, e], ?_⟩
    simp only [atKey, Option.map_eq_some_iff] at e
    obtain ⟨z, hz, rfl⟩ := e
    have h1 := List.find?_some hz
    have h2 := (r z (List.mem_of_find?_eq_some hz)).2
    have h3 : z.1 = y.1 := of_decide_eq_true h1
    rw [h3] at h2; exact h2

/-- rows[u, v] -/
theorem arcs_itm {value slice : Expr} {a : Addr} {u v : Int} {tu tv : Tok} {Q : Value → Shared → Prop} (hu : A.units + 1 < cLine) (x : Arcs prog w Z h d ks f) (hp : (u, v) ∈ ks) (ha : IsTup h a #[.int u tu, .int v tv])
    (k : ∀ vv t', RI vv (f (u, v)) → Q vv (mk c h t'))
    (hs : subscripted slice false (.ref d) (.ref a) = operate [.ref d, .ref a] (getItem (.ref d) (.ref a)) := by with_unfolding_all rfl) (hg : ∀ r, letTemporaryGo value (.ref d) r = pure () := by intro _; with_unfolding_all rfl) :
    wpAny (model prog w) A (subscriptTail value slice (.ref d) (.ref a)) Q E (mk c h t) := by
  obtain ⟨xs, b, vv, D, e, r⟩ := x.get hp
  exact subscriptTail_builtin (s := mk c h t) D.typeIs slot_dict_getitem.lookup (wpAny_getItem_heap (s := mk c h t) (tupleKind_room_in1 hu) (Arcs.key ha) D e (k _ _ r)) hs hg

theorem addk_map {xs : List ((Int × Int) × Addr × Value)} {p : Int × Int} {a : Addr} {v : Value} : ∃ xs' : List ((Int × Int) × Addr × Value), storedH (xs.map fun x => (([x.1.1, x.1.2] : List Int), x.2)) [p.1, p.2] a v = xs'.map (fun x => (([x.1.1, x.1.2] : List Int), x.2)) ∧ xs'.map (·.1) = addk (xs.map (·.1)) p ∧
    ∀ x ∈ xs', (x.1 = p ∧ x.2.2 = v ∧ (x.2.1 = a ∨ ∃ y ∈ xs, x.2.1 = y.2.1)) ∨ (x.1 ≠ p ∧ x ∈ xs) := by
  have hpq : ∀ q : Int × Int, (([q.1, q.2] : List Int) = [p.1, p.2]) ↔ q = p := fun q => by
    constructor
    · intro e; simp only [List.cons.injEq, and_true] at e; exact Prod.ext e.1 e.2
    · rintro rfl; rfl
  unfold storedH
  rw [find_arc]
  by_cases hm : p ∈ xs.map (·.1)
  · have hs : (atKey xs p).isSome = true := by
      obtain ⟨y, hy, rfl⟩ := List.mem_map.mp hm
      simp only [atKey, Option.isSome_map, List.find?_isSome]
      exact ⟨y, hy, by simp⟩
    rw [if_pos hs]
    refine ⟨xs.map (putAt p v), ?_, ?_, ?_⟩
    · rw [List.map_map, List.map_map]
      refine List.map_congr_left fun x _ => ?_
      simp only [Function.comp, putAt, hpq]
      split <;> rfl
    · rw [keys_map_putAt, addk, if_pos hm]
    · intro x hx
      obtain ⟨y, hy, rfl⟩ := List.mem_map.mp hx
      unfold putAt
      by_cases e : y.1 = p
      · rw [if_pos e]; exact .inl ⟨e, rfl, .inr ⟨y, hy, rfl⟩⟩
      · rw [if_neg e]; exact .inr ⟨e, hy⟩
  · have hs : ¬ (atKey xs p).isSome = true := by
      intro q
      simp only [atKey, Option.isSome_map, List.find?_isSome] at q
      obtain ⟨y, hy, e⟩ := q
      exact hm (List.mem_map.mpr ⟨y, hy, of_decide_eq_true e⟩)
    rw [if_neg hs]
    refine ⟨xs ++ [(p, a, v)], by simp, by rw [addk, if_neg hm]; simp, ?_⟩
    intro x hx
    rcases List.mem_append.mp hx with hx | hx
    · refine .inr ⟨fun e => hm (List.mem_map.mpr ⟨x, hx, e⟩), hx⟩
    · rw [List.mem_singleton.mp hx]; exact .inl ⟨rfl, rfl, .inl rfl⟩

/-- rows[u, v] = n -/
theorem arcs_set {a : Addr} {u v n : Int} {tu tv : Tok} {vv : Value} {Q : Unit → Shared → Prop} (hu : A.units + 1 < cLine) (x : Arcs prog w Z h d ks f) (ha : IsTup h a #[.int u tu, .int v tv]) (za : Z a) (hv : RI vv n) (hsz : ks.length ≤ 1000000)
    (k : ∀ h' t', Arcs prog w Z h' d (addk ks (u, v)) (upd f (u, v) n) → Heap.SameBut d h h' → Q () (mk c h' t')) :
    wpAny (model prog w) A (setItem (.ref d) (.ref a) vv) Q E (mk c h t) := by
  obtain ⟨s, zd, xs, D, hk, r⟩ := x
  refine wpAny_setItem_heap (s := mk c h t) (tupleKind_room_in1 hu) (Arcs.key ha) D (fun h' D' sb => ?_) (by subst hk; rw [sizeLine_eq]; simp at hsz ⊢; omega)
  obtain ⟨xs', e1, e2, e3⟩ := addk_map (xs := xs) (p := (u, v)) (a := a) (v := vv)
  rw [e1] at D'
  refine k h' _ ⟨s, zd, xs', D', by rw [e2, hk], fun x hx => ?_⟩ sb
  rcases e3 x hx with ⟨q1, q2, q3⟩ | ⟨q1, q2⟩
  · refine ⟨?_, by rw [q1, q2, upd, if_pos rfl]; exact hv⟩
    rcases q3 with q3 | ⟨y, hy, q3⟩
    · rw [q3]; exact za
    · rw [q3]; exact (r y hy).1
  · exact ⟨(r x q2).1, by rw [upd, if_neg q1]; exact (r x q2).2⟩

/-- as Loops; a turn also knows the iterator -/
def LoopsS (prog : Program) (w : World) (A : Around) (env : Env) (c : Cst) (target : Expr) (body : List Stmt) (Q : Flow → Shared → Prop) (Wr : Addr → Prop) (it : Value) (s₂ : Shared) : Prop :=
  ∃ I fp n P St h2 t2, ∃ Inv : Nat → Heap → Nat → Prop, it = .ref I ∧ s₂ = mk c h2 t2 ∧ Walks prog w A I fp [I] n P St ∧ St 0 h2 ∧ (∀ b ∈ fp, ¬ Wr b) ∧
    (∀ i s v (Q' : Unit → Shared → Prop), St i s.heap → Q' () s → wpAny (model prog w) A (letOwnedTupleGo target (.ref I) v) Q' NE s) ∧
    Inv 0 h2 t2 ∧ (∀ i h t h' t', (∀ b o, b ≠ I → h.get? b = some o → h'.get? b = some o) → Inv i h t → Inv i h' t') ∧
    (∀ i h t, i < n → St (i + 1) h → Inv i h t → ∀ v, P i v → wpAny (model prog w) A (assign target env v) (fun _ s₂ => wpAny (model prog w) A (execs body env) (Turn c Wr h Q (Inv (i + 1))) NE s₂) NE (mk c h t)) ∧
    (∀ h t, Inv n h t → Q .next (mk c h t))

theorem for_walksS {s : Shared} {target iter : Expr} {body : List Stmt} {pos : Pos} {Q : Flow → Shared → Prop} (Wr : Addr → Prop)
    (hi : wpAny (model prog w) A (eval iter env) (fun x s₁ => wpAny (model prog w) A (pyIter x) (LoopsS prog w A env c target body Q Wr) NE s₁) NE s)
    (hs : ∀ x, foldedSetIterable iter env x = pure x := by intro _; rfl) :
    wpAny (model prog w) A (exec (.For target iter body [] pos) env) Q NE s := by
  refine for_rule (wpAny_mono hi (fun x s₁ h₁ => wpAny_mono h₁ (fun it s₂ h₂ => ?_) fun _ _ e => e) fun _ _ e => e) hs
  obtain ⟨I, fp, n, P, St, h2, t2, Inv, rfl, rfl, W, st0, hfp, hgo, i0, hst, turn, fin⟩ := h₂
  refine ⟨fun k s => ∃ i h t, s = mk c h t ∧ k = n - i ∧ i ≤ n ∧ St i h ∧ Inv i h t, ⟨n, 0, h2, t2, rfl, rfl, Nat.zero_le _, st0, i0⟩, ?_⟩
  rintro k s ⟨i, h, t, rfl, rfl, hle, st, iv⟩
  rcases Nat.lt_or_ge i n with hlt | hge
  · refine walks_item (c := c) (h := h) (t := t) W hlt st fun v h' tk hp st' hk => ?_
    have hk' : ∀ b o, b ≠ I → h.get? b = some o → h'.get? b = some o := fun b o hb e => hk b o (by simpa using hb) e
    refine hgo (i + 1) _ _ _ st' ?_
    refine wpAny_mono (turn i h' tk hlt st' (hst i h t h' tk hk' iv) v hp) (fun _ s₂ h₂ => wpAny_mono h₂ (fun f s₃ h₃ => ?_) fun _ _ e => e) fun _ _ e => e
    cases f with
    | next => obtain ⟨h3, t3, rfl, ko, iv'⟩ := h₃; exact ⟨n - (i + 1), by omega, i + 1, h3, t3, rfl, rfl, hlt, W.frame _ _ _ st' (fun b hb o e => ko b o (hfp b hb) e), iv'⟩
    | cont => obtain ⟨h3, t3, rfl, ko, iv'⟩ := h₃; exact ⟨n - (i + 1), by omega, i + 1, h3, t3, rfl, rfl, hlt, W.frame _ _ _ st' (fun b hb o e => ko b o (hfp b hb) e), iv'⟩
    | brk => exact h₃
    | ret v => exact h₃
  · obtain rfl : i = n := Nat.le_antisymm hle hge
    refine walks_done (c := c) (h := h) (t := t) W st fun h' tk hk => ?_
    exact fin h' tk (hst i h t h' tk (fun b o hb e => hk b o (by simpa using hb) e) iv)

/-- for u, v in rows -/
theorem loops_arcs {xa xb : Str} {pa pb pt : Pos} {kk} {body : List Stmt} {Q : Flow → Shared → Prop} {Wr : Addr → Prop} (hA : A.handled = none) (x : Arcs prog w Z h d ks f) (hZ : ∀ b, Z b → ¬ Wr b) (hW : ∀ b, Wr b → b < h.objs.size)
    (Inv : List (Int × Int) → List (Int × Int) → Heap → Nat → Prop) (i0 : Inv [] ks h t)
    (hst : ∀ p r h₁ t₁ h' t', (∀ b o, b ≠ h.objs.size → h₁.get? b = some o → h'.get? b = some o) → Inv p r h₁ t₁ → Inv p r h' t')
    (turn : ∀ p u v r h₁ t₁ tu tv, ks = p ++ (u, v) :: r → h.objs.size < h₁.objs.size → Inv p ((u, v) :: r) h₁ t₁ → wpAny (model prog w) A (storeName env xa (.int u tu)) (fun _ s₁ => wpAny (model prog w) A (storeName env xb (.int v tv)) (fun _ s₂ => wpAny (model prog w) A (execs body env) (Turn c Wr h₁ Q (Inv (p ++ [(u, v)]) r)) NE s₂) NE s₁) NE (mk c h₁ t₁))
    (fin : ∀ h t, Inv ks [] h t → Q .next (mk c h t)) :
    wpAny (model prog w) A (pyIter (.ref d)) (LoopsS prog w A env c (.Tuple [.Name xa pa, .Name xb pb] kk pt) body Q Wr) NE (mk c h t) := by
  obtain ⟨s, zd, xs, ⟨o, es, ep, ho, hc, hd, he, hi, hn⟩, hk, r⟩ := x
  have R0 : RawD h d es ep := ⟨o, ho, hc, hd⟩
  have hlt := Heap.lt_size ho
  have hsz : es.size = ks.length := by rw [← hk, ← Array.length_toList, he]; simp
  refine raw_iter (s := mk c h t) s R0 ?_
  refine ⟨h.objs.size, [h.objs.size, d], es.size, _, _, _, t, fun i h1 t1 => (∀ x ∈ xs, IsTupleKey (intKind prog w) h1 [x.1.1, x.1.2] x.2.1) ∧ Inv (ks.take i) (ks.drop i) h1 t1, rfl, rfl,
    Walks.raw hA _ d (Nat.ne_of_lt hlt) es ep, ⟨⟨_, Heap.get?_push_size _ rfl, rfl, rfl⟩, R0.at fun o e => Heap.get?_push_of_some _ e⟩, ?_, ?_, ?_, ?_, ?_, ?_⟩
  · intro b hb
    rcases List.mem_cons.mp hb with rfl | hb
    · exact fun z => absurd (hW _ z) (Nat.lt_irrefl _)
    · rw [List.mem_singleton.mp hb]; exact hZ _ zd
  · intro i s v Q' st hq; exact letGo_keyiter st.1 hq
  · refine ⟨fun x hx => ?_, hst [] ks h t _ t (fun b o _ e => Heap.get?_push_of_some _ e) i0⟩
    obtain ⟨o, it, n, e, q⟩ := hi _ (List.mem_map.mpr ⟨x, hx, rfl⟩)
    exact ⟨o, it, n, Heap.get?_push_of_some _ e, q⟩
  · rintro i h1 t1 h' t' hk' ⟨ht, iv⟩
    refine ⟨fun x hx => ?_, hst _ _ h1 t1 h' t' hk' iv⟩
    obtain ⟨o, it, n, e, q⟩ := ht x hx
    obtain ⟨_, _, _, e0, _⟩ := hi _ (List.mem_map.mpr ⟨x, hx, rfl⟩)
    exact ⟨o, it, n, hk' _ _ (Nat.ne_of_lt (Heap.lt_size e0)) e, q⟩
  · rintro i h₁ t₁ hi1 st ⟨ht, iv⟩ v ⟨e, hx, rfl⟩
    have hs1 : h.objs.size < h₁.objs.size := let ⟨_, e, _⟩ := st.1; Heap.lt_size e
    have hi' : i < xs.length := by rw [hsz, ← hk, List.length_map] at hi1; exact hi1
    have hik : i < ks.length := hsz ▸ hi1
    have ex : e.key = .ref (xs[i]).2.1 := by
      have := entry_at (knd := tupleKind (intKind prog w)) he i
      rw [hx, List.getElem?_map, List.getElem?_eq_getElem hi'] at this
      exact congrArg DictEntry.key (Option.some.inj this)
    have hki : ks[i] = xs[i].1 := by subst hk; simp
    obtain ⟨tu, tv, tp⟩ := Arcs.tup (ht _ (List.getElem_mem hi'))
    rw [ex]
    have e1 : ks.drop i = xs[i].1 :: ks.drop (i + 1) := by rw [List.drop_eq_getElem_cons hik, hki]
    have e2 : ks.take (i + 1) = ks.take i ++ [xs[i].1] := by rw [List.take_succ, List.getElem?_eq_getElem hik, hki]; rfl
    refine assign2' hA tp fun h2 k2 => ?_
    have iv2 := hst _ _ h₁ t₁ h2 t₁ (fun b o _ q => k2 b o q) iv
    rw [e1] at iv2
    have hs2 : h.objs.size < h2.objs.size := let ⟨_, e, _⟩ := st.1; Heap.lt_size (k2 _ _ e)
    refine wpAny_mono (turn (ks.take i) xs[i].1.1 xs[i].1.2 (ks.drop (i + 1)) h2 t₁ tu tv (by have q := (List.take_append_drop i ks).symm; rw [e1] at q; exact q) hs2 iv2) (fun _ s₂ h₂ => wpAny_mono h₂ (fun _ s₃ h₃ => wpAny_mono h₃ (fun fl s₄ h₄ => ?_) fun _ _ e => e) fun _ _ e => e) fun _ _ e => e
    have ht2 : ∀ h', KO Wr h2 h' → ∀ x ∈ xs, IsTupleKey (intKind prog w) h' [x.1.1, x.1.2] x.2.1 := fun h' ko x hx => by
      obtain ⟨o, it, n, e, q⟩ := ht x hx
      exact ⟨o, it, n, ko _ _ (hZ _ (r x hx).1) (k2 _ _ e), q⟩
    cases fl with
    | next => obtain ⟨h', t', e, ko, iv'⟩ := h₄; exact ⟨h', t', e, fun b o n q => ko b o n (k2 b o q), ht2 h' ko, by rw [e2]; exact iv'⟩
    | cont => obtain ⟨h', t', e, ko, iv'⟩ := h₄; exact ⟨h', t', e, fun b o n q => ko b o n (k2 b o q), ht2 h' ko, by rw [e2]; exact iv'⟩
    | brk => exact h₄
    | ret v => exact h₄
  · rintro h t ⟨_, iv⟩
    rw [hsz, List.take_length, List.drop_length] at iv
    exact fin h t iv
end
end Mine
end
section
open PySem PySem.W PyProof.Rows PySem.Calls
set_option maxRecDepth 100000
namespace Mine
section
variable {A : Around} {s : Shared}
theorem isSame_inf {M : Model} {E : Value → Shared → Prop} {u v : Tok} {Q : Bool → Shared → Prop} (hu : u ≠ 0) (hv : v ≠ 0) (hb : NoneBooked s.heap) (hq : ∀ b, Q b s) : wpAny M A (isSame (.float inf64 u) (.float inf64 v)) Q E s := by
  show wpAny M A (isSame.created (inf64 == inf64 && !Float64.isNaN inf64) u v) Q E s
  unfold isSame.created
  refine wpAny_ite ?_
  split
  · rename_i h; simp [hu, hv] at h
  refine wpAny_ite ?_
  split
  · exact wpAny_pure (hq _)
  refine wpAny_ite ?_
  split
  · exact wpAny_pure (hq _)
  refine wpAny_bind (wpAny_sharingNotTold_none hb ?_)
  first | rw [if_neg Bool.false_ne_true] | simp only [Bool.false_eq_true, if_false]
  refine wpAny_bind (wpAny_sharingNotTold_none hb ?_)
  first | rw [if_neg Bool.false_ne_true] | simp only [Bool.false_eq_true, if_false]
  exact wpAny_bind (wpAny_rule (wpAny_bind (wpAny_askSetting (wpAny_pure (hq _)))))

theorem eqAt_ext {a b : Value} {x y : Option Int} (hb : NoneBooked s.heap) (ha : RE a x) (hy : RE b y) : SeqAt.EqAt A s a b (x == y) := by
  cases x with
  | some m =>
    obtain ⟨t1, rfl⟩ := ha
    cases y with
    | some n =>
      obtain ⟨t2, rfl⟩ := hy
      have e : (some m == some n) = (m == n) := by simp
      rw [e]; exact SeqAt.EqAt.int_int m t1 n t2
    | none =>
      obtain ⟨t2, rfl, _⟩ := hy
      intro prog w E Q h
      unfold eqBool
      refine wpAny_holding ?_
      refine wpAny_ite_split (fun hab => absurd hab (by simp)) (fun _ => ?_)
      exact wpAny_bind (eq_if (s := s) (by rw [cmp_inf]; exact wpAny_truthy_bool h))
  | none =>
    obtain ⟨t1, rfl, z1⟩ := ha
    cases y with
    | some n =>
      obtain ⟨t2, rfl⟩ := hy
      intro prog w E Q h
      unfold eqBool
      refine wpAny_holding ?_
      refine wpAny_ite_split (fun hab => absurd hab (by simp)) (fun _ => ?_)
      exact wpAny_bind (eq_fi (s := s) (by rw [cmp_inf]; exact wpAny_truthy_bool h))
    | none =>
      obtain ⟨t2, rfl, z2⟩ := hy
      intro prog w E Q h
      have h : Q true s := h
      unfold eqBool
      refine wpAny_holding ?_
      refine wpAny_ite_split (fun _ => wpAny_bind (wpAny_rule (wpAny_pure h))) (fun _ => ?_)
      refine wpAny_bind (isSame_inf z1 z2 hb fun b => ?_)
      cases b with
      | true => exact wpAny_pure h
      | false => exact wpAny_bind (AutoFloatOps.eq_0 (s := s) (by rw [cmp_inf_inf]; exact wpAny_truthy_bool h))
end

theorem keq_hits {K : Type} [DecidableEq K] {A : Around} {s : Shared} {kb : List (K × Value)} (q : K → Bool) : ∀ (ka : List (K × Value)), (∀ kv ∈ ka, ∀ y, valueAt kb kv.1 = some y → SeqAt.EqAt A s kv.2 y (q kv.1)) →
    KeqHits A s kb ka (ka.all fun kv => (valueAt kb kv.1).isSome && q kv.1)
  | [], _ => .nil
  | (k, v) :: r, h => by
    have ih := keq_hits q r fun kv m => h kv (.tail _ m)
    cases e : valueAt kb k with
    | none =>
      have z : (((k, v) :: r).all fun kv => (valueAt kb kv.1).isSome && q kv.1) = false := by simp [e]
      rw [z]; exact .miss e
    | some y =>
      have z : (((k, v) :: r).all fun kv => (valueAt kb kv.1).isSome && q kv.1) = (q k && r.all fun kv => (valueAt kb kv.1).isSome && q kv.1) := by simp [e]
      rw [z]; exact .hit e (h (k, v) (.head _) y e) ih

section
variable {prog : Program} {w : World} {K : Type} [DecidableEq K] {knd : KeyKind prog w K} {α β : Type} {R : Value → α → Prop} {R' : Value → β → Prop} {A : Around} {s : Shared} {E : Value → Shared → Prop} {Q : Value → Shared → Prop} {a b : Addr} {ks ls : List K} {f : K → α} {g : K → β}
theorem row_hits (q : K → Bool) (x : RowK knd R s.heap a ks f) (y : RowK knd R' s.heap b ls g) (hv : ∀ i ∈ ks, i ∈ ls → ∀ v u, R v (f i) → R' u (g i) → SeqAt.EqAt A s v u (q i)) :
    ∃ ka kb, s.heap.DictOf knd a ka ∧ s.heap.DictOf knd b kb ∧ ka.length = ks.length ∧ kb.length = ls.length ∧ KeqHits A s kb ka (ks.all fun i => decide (i ∈ ls) && q i) := by
  obtain ⟨_, ka, da, hka, ra⟩ := x
  obtain ⟨_, kb, db, hkb, rb⟩ := y
  have hin : ∀ i, (valueAt kb i).isSome = decide (i ∈ ls) := fun i => by
    by_cases e : i ∈ ls
    · obtain ⟨v, h1, _⟩ := valueAt_of (hkb ▸ e : i ∈ kb.map (·.1)); simp [h1, e]
    · have : valueAt kb i = none := valueAt_none_of (by rw [hkb]; exact e)
      simp [this, e]
  refine ⟨ka, kb, da, db, by rw [← hka, List.length_map], by rw [← hkb, List.length_map], ?_⟩
  have h := keq_hits (A := A) (s := s) (kb := kb) q ka fun kv m u hu => ?_
  · have e : (ka.all fun kv => (valueAt kb kv.1).isSome && q kv.1) = (ks.all fun i => decide (i ∈ ls) && q i) := by
      rw [← hka, List.all_map]; simp only [hin]; rfl
    rw [← e]; exact h
  · have hil : kv.1 ∈ ls := by
      have := hin kv.1; rw [hu] at this; simpa using this.symm
    obtain ⟨v, h1, h2⟩ := valueAt_of (hkb ▸ hil : kv.1 ∈ kb.map (·.1))
    rw [hu] at h1; cases h1
    exact hv kv.1 (hka ▸ List.mem_map_of_mem m) hil kv.2 u (ra kv m) (rb _ h2)
theorem row_eq (q : K → Bool) (hu : A.units < cLine) (x : RowK knd R s.heap a ks f) (y : RowK knd R' s.heap b ls g) (hv : ∀ i ∈ ks, i ∈ ls → ∀ v u, R v (f i) → R' u (g i) → SeqAt.EqAt A.in1 s v u (q i))
    (k : Q (.bool (ks.length == ls.length && ks.all fun i => decide (i ∈ ls) && q i)) s) : wpAny (model prog w) A (compareOp .Eq (.ref a) (.ref b)) Q E s := by
  obtain ⟨ka, kb, da, db, e1, e2, h⟩ := row_hits q x y hv
  refine keq_eq x.1 y.1 da db hu (fun _ => h) ?_
  rw [e1, e2]; exact k
end
end Mine
end
section
open PySem PySem.W PyProof.Rows PySem.Calls
set_option maxRecDepth 100000
namespace Mine
section
variable {prog : Program} {w : World} {A : Around} {env : Env} {c : Cst} {h : Heap} {t : Nat}
/-- over range(n) -/
theorem loops_rangeS {target : Expr} {body : List Stmt} {Q : Flow → Shared → Prop} {Wr : Addr → Prop} {r : Addr} {a b : Int} {t0 t1 t2 : Tok} (hA : A.handled = none) (x : IsRange h r a b 1 t0 t1 t2) (hab : a ≤ b) (ha : 0 ≤ a) (hb : b ≤ 1000) (hW : ∀ b, Wr b → b < h.objs.size)
    (Inv : Int → Heap → Nat → Prop) (i0 : Inv a h t)
    (hst : ∀ i h₁ t₁ h' t', (∀ b o, b ≠ h.objs.size → h₁.get? b = some o → h'.get? b = some o) → Inv i h₁ t₁ → Inv i h' t')
    (turn : ∀ i h₁ t₁ tk, a ≤ i → i < b → h.objs.size < h₁.objs.size → Inv i h₁ t₁ → wpAny (model prog w) A (assign target env (.int i tk)) (fun _ s₂ => wpAny (model prog w) A (execs body env) (Turn c Wr h₁ Q (Inv (i + 1))) NE s₂) NE (mk c h₁ t₁))
    (fin : ∀ h t, Inv b h t → Q .next (mk c h t)) :
    wpAny (model prog w) A (pyIter (.ref r)) (LoopsS prog w A env c target body Q Wr) NE (mk c h t) := by
  have hsz : Builtin.Range.rangeSize a b 1 = ((b - a).toNat : Int) := by
    unfold Builtin.Range.rangeSize
    by_cases e : a < b
    · simp [e]; omega
    · simp [e]; omega
  have hsm : Builtin.Range.small a b 1 = true := by
    simp only [Builtin.Range.small, Builtin.Range.rangeFitsLong, hsz, Bool.and_eq_true, Bool.or_eq_true, decide_eq_true_eq, beq_iff_eq]
    refine ⟨⟨⟨⟨?_, ?_⟩, ?_⟩, ?_⟩, Or.inr ?_⟩
    all_goals (try simp only [gt_iff_lt, Int.zero_lt_one, if_true])
    all_goals (try simp)
    all_goals (first | omega | (constructor <;> omega) | skip)
  refine wpAny_pyIter_range (s := mk c h t) x hsm ?_
  rw [hsz]
  refine ⟨h.objs.size, [h.objs.size], (b - a).toNat, _, _, _, t, fun i h t => Inv (a + i) h t, rfl, rfl, Walks.range hA _ a 1 (b - a).toNat, ?_, ?_, ?_, ?_, ?_, ?_, ?_⟩
  · show IsRangeIter _ _ _ _ _
    simpa using Heap.get?_push_size _ rfl
  · intro b hb
    rw [List.mem_singleton.mp hb]
    exact fun e => absurd (hW _ e) (Nat.lt_irrefl _)
  · intro i s v Q' st hq
    unfold letOwnedTupleGo
    cases target <;> first
      | exact wpAny_pure hq
      | (cases v <;> first
          | exact wpAny_pure hq
          | (refine wpAny_bind (wpAny_load st ?_)
             exact wpAny_pure hq))
  · have := hst a h t (h.push { cls := .type "range_iterator", data := .fields #[rawInt a, rawInt ((b - a).toNat : Int), rawInt 1] }) t (fun b o _ e => Heap.get?_push_of_some _ e) i0
    simpa using this
  · intro i h t h' t' hk iv; exact hst _ h t h' t' hk iv
  · rintro i h₁ t₁ hi st iv v ⟨tk, rfl⟩
    have := turn (a + i) h₁ t₁ tk (by omega) (by omega) (Heap.lt_size st) iv
    have e : a + (i : Int) * 1 = a + i := by omega
    have e2 : a + ((i + 1 : Nat) : Int) = a + i + 1 := by omega
    rw [e]
    show wpAny _ _ _ (fun x s₂ => wpAny _ _ _ (Turn c Wr h₁ Q (Inv (a + ((i + 1 : Nat) : Int)))) NE s₂) NE _
    rw [e2]
    exact this
  · intro h t iv
    have e : a + ((b - a).toNat : Int) = b := by omega
    try dsimp only at iv
    rw [e] at iv
    exact fin h t iv
end
end Mine
end
section
open PySem PySem.W PyProof.Rows PySem.Calls
set_option maxRecDepth 100000
namespace Mine
local macro_rules | `(tactic| walk_at "mem") => `(tactic| with_reducible (first | exact List.mem_cons_self | (refine List.mem_cons_of_mem _ ?_; walk_at "mem")))
/-- a row of sums: keys in order, values -/
structure BF where
  ks : List Int
  f : Int → Int
def relax (b : BF) (ra : Int × Int → Int) (F : BF) (p : Int × Int) : BF :=
  if p.1 ∈ b.ks ∧ (p.2 ∉ F.ks ∨ b.f p.1 + ra p < F.f p.2) then ⟨addk F.ks p.2, upd F.f p.2 (b.f p.1 + ra p)⟩ else F
def turnB (ra : Int × Int → Int) (ar : List (Int × Int)) (b : BF) : BF := ar.foldl (relax b ra) b
def sameB (F b : BF) : Bool := F.ks.length == b.ks.length && F.ks.all fun i => decide (i ∈ b.ks) && (F.f i == b.f i)
def leastB (ra : Int × Int → Int) (ar : List (Int × Int)) : Nat → BF → Option BF
  | 0, _ => none
  | n + 1, b => if sameB (turnB ra ar b) b then some b else leastB ra ar n (turnB ra ar b)
theorem addk_len {K : Type} [DecidableEq K] (ks : List K) (i : K) : (addk ks i).length ≤ ks.length + 1 := by
  unfold addk; split
  · omega
  · simp
theorem relax_len (b : BF) (ra : Int × Int → Int) (F : BF) (p : Int × Int) : (relax b ra F p).ks.length ≤ F.ks.length + 1 := by
  unfold relax; split
  · exact addk_len _ _
  · omega
theorem fold_len (b : BF) (ra : Int × Int → Int) : ∀ (ar : List (Int × Int)) (F : BF), (ar.foldl (relax b ra) F).ks.length ≤ F.ks.length + ar.length
  | [], F => by simp
  | p :: r, F => by
    have h1 := fold_len b ra r (relax b ra F p)
    have h2 := relax_len b ra F p
    simp only [List.foldl_cons, List.length_cons]; omega

abbrev lsEnv (cd : Value) (L f : Addr) : Env := envAt (S 28) "_law_least" cd L f
abbrev lsl (r sz st bo to fo uo vo : Option Value) : List (Str × Option Value) :=
  [("rows", r), ("size", sz), ("start", st), ("best", bo), ("turn", to), ("fresh", fo), ("u", uo), ("v", vo)]
abbrev lsFor : Stmt := SM 28 1
abbrev lsIn : Stmt := at' (dFor lsFor) 1
section
variable {prog : Program} {w : World} {A : Around} {c : Cst} {hB h : Heap} {t : Nat} {L f rd bd : Addr} {cd : Value} {P : Heap → Prop} {E : Value → Shared → Prop}
/-- best[u] + rows[u, v] -/
theorem ls_val {Z : Addr → Prop} {ks : List (Int × Int)} {ra : Int × Int → Int} {B : BF} {sz st to fo : Option Value} {u v : Int} {tu tv : Tok} {p1 p2 p3 p4 p5 p6 p7 p8 p9 : Pos} {k1 : Nat} {Q : Value → Shared → Prop}
    (hu : A.units + 1 < cLine) (F : Fn (lsEnv cd L f) hB P h (lsl (some (.ref rd)) sz st (some (.ref bd)) to fo (some (.int u tu)) (some (.int v tv)))) (hP : ∀ h', P h' → Row prog w RI h' bd B.ks B.f ∧ Arcs prog w Z h' rd ks ra) (hub : u ∈ B.ks) (huv : (u, v) ∈ ks)
    (k : ∀ vv h' t', RI vv (B.f u + ra (u, v)) → Fn (lsEnv cd L f) hB P h' (lsl (some (.ref rd)) sz st (some (.ref bd)) to fo (some (.int u tu)) (some (.int v tv))) → Keep h h' → Q vv (mk c h' t')) :
    wpAny (model prog w) A (eval (.BinOp (.Subscript (.Name "best" p1) (.Name "u" p2) p3) .Add (.Subscript (.Name "rows" p4) (.Tuple [.Name "u" p5, .Name "v" p6] k1 p7) p8) p9) (lsEnv cd L f)) Q E (mk c h t) := by
  refine wpAny_BinOp (Subscript_ (nm F (by walk_at "mem") (nm F (by walk_at "mem") (row_itm (hP _ F.inv).1 hub fun v1 t1 r1 => ?_))))
  refine Subscript_ (nm F (by walk_at "mem") (Tuple_ (args_cons (nm F (by walk_at "mem") (args_cons (nm F (by walk_at "mem") (args_nil (wpAny_newTuple ?_ (by rw [sizeLine_eq]; show 2 ≤ _; decide)))))))))
  have F1 := F.push { cls := .type "tuple", data := .seq #[.int u tu, .int v tv] }
  have T1 : IsTup (h.push { cls := .type "tuple", data := .seq #[.int u tu, .int v tv] }) h.objs.size #[.int u tu, .int v tv] := ⟨_, Heap.get?_push_size _ rfl, rfl, _, rfl⟩
  refine arcs_itm (c := c) (t := t1) hu (hP _ F1.inv).2 huv T1 fun v2 t2 r2 => ?_
  obtain ⟨ta, rfl⟩ := r1
  obtain ⟨tb, rfl⟩ := r2
  exact PySem.P.add_int (k _ _ _ ⟨_, rfl⟩ F1 (Keep.push _ _))
end
end Mine
end
section
open PySem PySem.W PyProof.Rows PySem.Calls
set_option maxRecDepth 100000
namespace Mine
local macro_rules | `(tactic| walk_at "mem") => `(tactic| with_reducible (first | exact List.mem_cons_self | (refine List.mem_cons_of_mem _ ?_; walk_at "mem")))
def dIfB : Stmt → List Stmt
  | .If _ b _ _ => b
  | _ => []
def lsP (prog : Program) (w : World) (hB : Heap) (rd : Addr) (ks : List (Int × Int)) (ra : Int × Int → Int) (bd : Addr) (B : BF) (fd : Addr) (F : BF) (h : Heap) : Prop :=
  Row prog w RI h bd B.ks B.f ∧ Row prog w RI h fd F.ks F.f ∧ Arcs prog w (fun b => b < hB.objs.size) h rd ks ra
section
variable {prog : Program} {w : World} {A : Around} {c : Cst} {hB h : Heap} {t : Nat} {L f rd bd fd : Addr} {cd : Value} {P : Heap → Prop} {E : Value → Shared → Prop} {ks : List (Int × Int)} {ra : Int × Int → Int} {B F : BF}
theorem lsP.dep : Dep (fun b => b = bd ∨ b = fd ∨ b < hB.objs.size) (lsP prog w hB rd ks ra bd B fd F) :=
  .and (RowK.dep (.inl rfl)) (.and (RowK.dep (.inr (.inl rfl))) (Arcs.dep.mono fun _ x => .inr (.inr x)))
theorem lsP.stb (h1 : bd ≠ L) (h2 : fd ≠ L) (h3 : hB.objs.size ≤ L) : Stb L (lsP prog w hB rd ks ra bd B fd F) :=
  lsP.dep.stb fun x => x.elim (fun e => h1 e.symm) fun x => x.elim (fun e => h2 e.symm) fun x => Nat.not_lt.mpr h3 x

theorem ls_in {sz st to uo vo : Option Value} {Q : Flow → Shared → Prop} (hu : A.units + 1 < cLine) (hA : A.handled = none) (hlen : B.ks.length + ks.length ≤ 1000000) (hfb : fd ≠ bd) (hfB : hB.objs.size ≤ fd) (hbB : hB.objs.size ≤ bd) (hfL : fd ≠ L) (hbL : bd ≠ L)
    (X : Fn (lsEnv cd L f) hB (lsP prog w hB rd ks ra bd B fd B) h (lsl (some (.ref rd)) sz st (some (.ref bd)) to (some (.ref fd)) uo vo))
    (hQ : ∀ h' t' uo vo, KO (fun b => b = L ∨ b = fd) h h' → Fn (lsEnv cd L f) hB (lsP prog w hB rd ks ra bd B fd (turnB ra ks B)) h' (lsl (some (.ref rd)) sz st (some (.ref bd)) to (some (.ref fd)) uo vo) → Q .next (mk c h' t')) :
    wpAny (model prog w) A (exec lsIn (lsEnv cd L f)) Q NE (mk c h t) := by
  have hLB : hB.objs.size ≤ L := X.above
  have hst : ∀ F', Stb L (lsP prog w hB rd ks ra bd B fd F') := fun F' => lsP.stb hbL hfL hLB
  have hsz : ∀ b, (b = bd ∨ b = fd ∨ b < hB.objs.size) → b < h.objs.size := by
    rintro b (rfl | rfl | q)
    · exact X.inv.1.lt
    · exact X.inv.2.1.lt
    · exact Nat.lt_of_lt_of_le q (Nat.le_trans hLB (Nat.le_of_lt X.loc.lt))
  refine for_walksS (c := c) (fun b => b = L ∨ b = fd) (nm X (by walk_at "mem") ?_)
  refine loops_arcs hA X.inv.2.2 (fun b z y => ?_) (fun b y => ?_) (fun p r h₁ t₁ => KO (fun b => b = L ∨ b = fd) h h₁ ∧ ∃ uo vo, Fn (lsEnv cd L f) hB (lsP prog w hB rd ks ra bd B fd (p.foldl (relax B ra) B)) h₁ (lsl (some (.ref rd)) sz st (some (.ref bd)) to (some (.ref fd)) uo vo))
    ⟨KO.refl h, uo, vo, X⟩ ?_ ?_ ?_
  · rcases y with rfl | rfl
    · exact Nat.not_lt.mpr hLB z
    · exact Nat.not_lt.mpr hfB z
  · rcases y with rfl | rfl
    · exact X.loc.lt
    · exact X.inv.2.1.lt
  · rintro p r h₁ t₁ h' t' e ⟨ko, uo, vo, F1⟩
    refine ⟨ko.ext e (Nat.le_refl _), uo, vo, F1.off lsP.dep (fun x => Nat.lt_irrefl _ (hsz _ x)) (Nat.le_trans hLB (Nat.le_of_lt X.loc.lt)) (Nat.ne_of_gt X.loc.lt) e⟩
  · rintro p u v r h₁ t₁ tu tv hks hbig ⟨ko, uo, vo, F1⟩
    have hmem : (u, v) ∈ ks := by rw [hks]; simp
    generalize hF : p.foldl (relax B ra) B = F0 at F1
    have hnext : (p ++ [(u, v)]).foldl (relax B ra) B = relax B ra F0 (u, v) := by rw [List.foldl_append, hF]; rfl
    have hl0 : F0.ks.length ≤ 1000000 := by
      have h1 := fold_len B ra p B
      have h2 : ks.length = p.length + (r.length + 1) := by rw [hks]; simp
      rw [hF] at h1; omega
    refine st6 F1 fun h2 t2 F2 s2 => st7 F2 fun h3 t3 F3 s3 => ?_
    have ko3 : KO (fun b => b = L ∨ b = fd) h₁ h3 := ((KO.refl h₁).but s2 (.inl rfl)).but s3 (.inl rfl)
    have skip : ∀ h4 t4, ¬ (u ∈ B.ks ∧ (v ∉ F0.ks ∨ B.f u + ra (u, v) < F0.f v)) → Keep h3 h4 → Fn (lsEnv cd L f) hB (lsP prog w hB rd ks ra bd B fd F0) h4 (lsl (some (.ref rd)) sz st (some (.ref bd)) to (some (.ref fd)) (some (.int u tu)) (some (.int v tv))) →
        Turn c (fun b => b = L ∨ b = fd) h₁ Q (fun h₁ t₁ => KO (fun b => b = L ∨ b = fd) h h₁ ∧ ∃ uo vo, Fn (lsEnv cd L f) hB (lsP prog w hB rd ks ra bd B fd ((p ++ [(u, v)]).foldl (relax B ra) B)) h₁ (lsl (some (.ref rd)) sz st (some (.ref bd)) to (some (.ref fd)) uo vo)) .next (mk c h4 t4) := fun h4 t4 hn k4 F4 => by
      refine ⟨h4, t4, rfl, ko3.keep k4, ko.trans (ko3.keep k4), some (.int u tu), some (.int v tv), ?_⟩
      rw [hnext, relax, if_neg hn]; exact F4
    have put : ∀ h4 t4, (u ∈ B.ks ∧ (v ∉ F0.ks ∨ B.f u + ra (u, v) < F0.f v)) → Keep h3 h4 → Fn (lsEnv cd L f) hB (lsP prog w hB rd ks ra bd B fd F0) h4 (lsl (some (.ref rd)) sz st (some (.ref bd)) to (some (.ref fd)) (some (.int u tu)) (some (.int v tv))) →
        wpAny (model prog w) A (execs (dIfB (at' (dFor lsIn) 0)) (lsEnv cd L f)) (Turn c (fun b => b = L ∨ b = fd) h₁ Q (fun h₁ t₁ => KO (fun b => b = L ∨ b = fd) h h₁ ∧ ∃ uo vo, Fn (lsEnv cd L f) hB (lsP prog w hB rd ks ra bd B fd ((p ++ [(u, v)]).foldl (relax B ra) B)) h₁ (lsl (some (.ref rd)) sz st (some (.ref bd)) to (some (.ref fd)) uo vo))) NE (mk c h4 t4) := fun h4 t4 hy k4 F4 => by
      refine wpAny_execs_cons (wpAny_Assign_Subscript (ls_val (c := c) (t := t4) hu F4 (fun h' x => ⟨x.1, x.2.2⟩) hy.1 hmem fun vv h5 t5 r5 F5 k5 => nm F5 (by walk_at "mem") (nm F5 (by walk_at "mem") (row_set F5.inv.2.1 r5 hl0 fun h6 t6 r6 s6 => ?_))))
      have F6 := F5.upd (P' := lsP prog w hB rd ks ra bd B fd ⟨addk F0.ks v, upd F0.f v (B.f u + ra (u, v))⟩) hfB hfL s6.extBut
        ⟨F5.inv.1.at fun o e => s6.extBut _ o hfb.symm e, r6, Arcs.dep h5 h6 (fun b o z e => s6.extBut b o (fun q => Nat.not_lt.mpr hfB (q ▸ z)) e) F5.inv.2.2⟩ (hst _)
      have ko6 := ((ko3.keep k4).keep k5).but s6 (.inr rfl)
      refine wpAny_execs_nil ⟨h6, t6, rfl, ko6, ko.trans ko6, some (.int u tu), some (.int v tv), ?_⟩
      rw [hnext, relax, if_pos hy]; exact F6
    refine wpAny_execs_cons (wpAny_If (isTrue_and (wpAny_isTrue_Compare1 (nm F3 (by walk_at "mem") (nm F3 (by walk_at "mem") (row_in F3.inv.1 fun t4 => wpAny_truthy_bool ?_))))))
    split
    · rename_i hub
      have hub := of_decide_eq_true hub
      refine isTrue_and (isTrue_or (wpAny_isTrue_Compare1 (nm F3 (by walk_at "mem") (nm F3 (by walk_at "mem") (row_notin F3.inv.2.1 fun t5 => wpAny_truthy_bool ?_)))))
      split
      · rename_i hvn
        have hvn : v ∉ F0.ks := by simpa using hvn
        refine isTrue_and_nil ?_
        exact wpAny_mono (put h3 t5 ⟨hub, .inl hvn⟩ (fun _ _ e => e) F3) (fun fl s4 h4 => by cases fl <;> first | exact wpAny_execs_nil h4 | exact h4) fun _ _ e => e
      · rename_i hvn
        have hvn : v ∈ F0.ks := by simpa using hvn
        refine isTrue_or (wpAny_isTrue_Compare1 (ls_val (c := c) (t := t5) hu F3 (fun h' x => ⟨x.1, x.2.2⟩) hub hmem fun vv h5 t6 r5 F5 k5 => Subscript_ (nm F5 (by walk_at "mem") (nm F5 (by walk_at "mem") (row_itm F5.inv.2.1 hvn fun v7 t7 r7 => ?_)))))
        obtain ⟨ta, rfl⟩ := r5
        obtain ⟨tb, rfl⟩ := r7
        refine PySem.P.lt_int (wpAny_truthy_bool ?_)
        split
        · rename_i hlt
          refine isTrue_and_nil ?_
          exact wpAny_mono (put h5 t7 ⟨hub, .inr (of_decide_eq_true hlt)⟩ k5 F5) (fun fl s4 h4 => by cases fl <;> first | exact wpAny_execs_nil h4 | exact h4) fun _ _ e => e
        · rename_i hlt
          refine isTrue_or_nil (wpAny_execs_nil (wpAny_execs_nil (skip h5 t7 ?_ k5 F5)))
          rintro ⟨_, q | q⟩
          · exact q hvn
          · exact hlt (decide_eq_true q)
    · rename_i hub
      refine wpAny_execs_nil (wpAny_execs_nil (skip h3 t4 ?_ (fun _ _ e => e) F3))
      rintro ⟨q, _⟩
      exact hub (decide_eq_true q)
  · rintro h' t' ⟨ko, uo, vo, F1⟩
    exact hQ h' t' uo vo ko F1
end
end Mine
end
section
open PySem PySem.W PyProof.Rows PySem.Calls
set_option maxRecDepth 100000
namespace Mine
local macro_rules | `(tactic| walk_at "mem") => `(tactic| with_reducible (first | exact List.mem_cons_self | (refine List.mem_cons_of_mem _ ?_; walk_at "mem")))
def lsQ (prog : Program) (w : World) (hB : Heap) (rd : Addr) (ks : List (Int × Int)) (ra : Int × Int → Int) (bd : Addr) (B : BF) (h : Heap) : Prop :=
  Row prog w RI h bd B.ks B.f ∧ Arcs prog w (fun b => b < hB.objs.size) h rd ks ra
section
theorem arcs_at {prog : Program} {w : World} (h : Heap) {h' : Heap} {d : Addr} {ks : List (Int × Int)} {ra : Int × Int → Int} {Z : Addr → Prop} (x : Arcs prog w Z h d ks ra) (k : Keep h h') : Arcs prog w (fun b => b < h.objs.size) h' d ks ra :=
  (x.weak (Z' := fun b => b < h.objs.size) fun _ b _ => b).keep k
variable {prog : Program} {w : World} {A : Around} {c : Cst} {hB h : Heap} {t : Nat} {L f rd bd fd : Addr} {cd : Value} {P : Heap → Prop} {E : Value → Shared → Prop} {ks : List (Int × Int)} {ra : Int × Int → Int} {B F : BF}
theorem lsQ.dep : Dep (fun b => b = bd ∨ b < hB.objs.size) (lsQ prog w hB rd ks ra bd B) :=
  .and (RowK.dep (.inl rfl)) (Arcs.dep.mono fun _ x => .inr x)
theorem lsQ.stb (h1 : bd ≠ L) (h3 : hB.objs.size ≤ L) : Stb L (lsQ prog w hB rd ks ra bd B) :=
  lsQ.dep.stb fun x => x.elim (fun e => h1 e.symm) fun x => Nat.not_lt.mpr h3 x

theorem ls_out {n : Nat} {tn : Tok} {st to fo uo vo : Option Value} {Q : Flow → Shared → Prop} (G : Gl hB) (hu : A.units + 1 < cLine) (hA : A.handled = none) (hn : n ≤ 1000) (hks : ks.length ≤ 900) (hB1 : B.ks.length ≤ 1) (hbB : hB.objs.size ≤ bd) (hbL : bd ≠ L)
    (X : Fn (lsEnv cd L f) hB (lsQ prog w hB rd ks ra bd B) h (lsl (some (.ref rd)) (some (.int n tn)) st (some (.ref bd)) to fo uo vo))
    (hR : ∀ h' t' a B', leastB ra ks n B = some B' → Keep hB h' → Row prog w RI h' a B'.ks B'.f → hB.objs.size ≤ a → Q (.ret (.ref a)) (mk c h' t'))
    (hQ : ∀ h' t', leastB ra ks n B = none → Keep hB h' → Q .next (mk c h' t')) :
    wpAny (model prog w) A (exec lsFor (lsEnv cd L f)) Q NE (mk c h t) := by
  have hLB : hB.objs.size ≤ L := X.above
  refine for_walksS (c := c) (fun b => b = L) (Call_ (bname (G.keep X.keep) (by walk_at "mem") boot_range (Pv.callWith_type1 (args_cons (nm X (by walk_at "mem") (args_nil (call_range_1 (s := mk c h t) (mk_toks (n := 2) ?_))))))))
  generalize hh1 : h.push { cls := .type "range", data := .fields #[.int 0 (t + 1), .int n tn, .int 1 (t + 1 + 1)] } = h1
  have hk1 : Keep h h1 := hh1 ▸ Keep.push _ _
  have R1 : IsRange h1 h.objs.size 0 n 1 (t + 1) tn (t + 1 + 1) := hh1 ▸ IsRange.new ..
  have X1 := X.ext hk1
  refine loops_rangeS hA R1 (by omega) (by omega) (by omega) (fun b y => y ▸ X1.loc.lt)
    (fun i h₁ t₁ => ∃ bd B' fo uo vo to, 0 ≤ i ∧ hB.objs.size ≤ bd ∧ bd ≠ L ∧ bd ≠ h1.objs.size ∧ B'.ks.length ≤ 1 + i.toNat * 900 ∧ leastB ra ks (n - i.toNat) B' = leastB ra ks n B ∧
      Fn (lsEnv cd L f) hB (lsQ prog w hB rd ks ra bd B') h₁ (lsl (some (.ref rd)) (some (.int n tn)) st (some (.ref bd)) to fo uo vo))
    ⟨bd, B, fo, uo, vo, to, by omega, hbB, hbL, Nat.ne_of_lt X1.inv.1.lt, by omega, rfl, X1⟩ ?_ ?_ ?_
  · rintro i h₁ t₁ h' t' e ⟨bd, B', fo, uo, vo, to, i0, b1, b2, b3, b4, b5, F1⟩
    refine ⟨bd, B', fo, uo, vo, to, i0, b1, b2, b3, b4, b5, F1.off lsQ.dep ?_ (Nat.le_trans hLB (Nat.le_of_lt X1.loc.lt)) (Nat.ne_of_gt X1.loc.lt) e⟩
    rintro (x | x)
    · exact b3 x.symm
    · exact Nat.not_lt.mpr (Nat.le_trans hLB (Nat.le_of_lt X1.loc.lt)) x
  · rintro i h₁ t₁ tk hi1 hi2 hbig ⟨bd, B', fo, uo, vo, to, i0, b1, b2, b3, b4, b5, F1⟩
    have hbl : B'.ks.length ≤ 900000 + 1 := by
      have : i.toNat ≤ 999 := by omega
      omega
    refine wpAny_assign_Name (st4 F1 fun h2 t2 F2 s2 => ?_)
    have ko2 : KO (fun b => b = L) h₁ h2 := (KO.refl h₁).but s2 rfl
    refine wpAny_execs_cons (wpAny_Assign_Name (Call_ (bname (G.keep F2.keep) (by walk_at "mem") boot_dict (Pv.callWith_type1 (args_cons (nm F2 (by walk_at "mem") (args_nil (rowk_copy F2.inv.1 (G.keep F2.keep).low (by omega) fun h3 t3 r3 k3 => ?_))))))))
    have hfd1 : h1.objs.size < h2.objs.size := by rw [s2.1]; exact hbig
    have hLh1 : L < h1.objs.size := X1.loc.lt
    have hfdL : h2.objs.size ≠ L := Nat.ne_of_gt (Nat.lt_trans hLh1 hfd1)
    have hbd2 : bd < h2.objs.size := F2.inv.1.lt
    have F3 := (F2.ext k3).say (P' := lsP prog w hB rd ks ra bd B' h2.objs.size B') ⟨F2.inv.1.keep k3, r3, F2.inv.2.keep k3⟩ (lsP.stb b2 hfdL hLB)
    refine st5 F3 fun h4 t4 F4 s4 => ?_
    have ko4 : KO (fun b => b = L) h₁ h4 := (ko2.keep k3).but s4 rfl
    refine wpAny_execs_cons (ls_in hu hA (by omega) (Nat.ne_of_gt hbd2) (by omega) b1 hfdL b2 F4 fun h5 t5 uo vo ko5 F5 => ?_)
    have ko5' : KO (fun b => b = L) h₁ h5 := fun b o hb e => ko5 b o (by
      rintro (q | q)
      · exact hb q
      · have := Heap.lt_size e
        rw [q, s2.1] at this
        exact Nat.lt_irrefl _ this) (ko4 b o hb e)
    have hfl := fold_len B' ra ks B'
    refine wpAny_execs_cons (wpAny_If (wpAny_isTrue_Compare1 (nm F5 (by walk_at "mem") (nm F5 (by walk_at "mem") (row_eq (s := mk c h5 t5) (fun i => (turnB ra ks B').f i == B'.f i) (Nat.lt_of_succ_lt hu) F5.inv.2.1 F5.inv.1 (fun i _ _ v u hv hu => ?_) (wpAny_truthy_bool ?_))))))
    · obtain ⟨ta, rfl⟩ := hv
      obtain ⟨tb, rfl⟩ := hu
      exact SeqAt.EqAt.int_int _ _ _ _
    have hsub : n - i.toNat = (n - (i + 1).toNat) + 1 := by omega
    rw [hsub, leastB] at b5
    split
    · rename_i hs
      have hs : sameB (turnB ra ks B') B' = true := hs
      rw [if_pos hs] at b5
      refine wpAny_execs_cons (wpAny_Return_some (nm F5 (by walk_at "mem") ?_))
      exact hR h5 t5 bd B' b5.symm F5.keep F5.inv.1 b1
    · rename_i hs
      have hs : ¬ sameB (turnB ra ks B') B' = true := hs
      rw [if_neg hs] at b5
      refine wpAny_execs_nil (wpAny_execs_cons (wpAny_Assign_Name (nm F5 (by walk_at "mem") ?_)))
      have F6 := F5.say (P' := lsQ prog w hB rd ks ra h2.objs.size (turnB ra ks B')) F5.inv.2 (lsQ.stb hfdL hLB)
      refine st3 F6 fun h7 t7 F7 s7 => wpAny_execs_nil ⟨h7, t7, rfl, ko5'.but s7 rfl, h2.objs.size, turnB ra ks B', _, _, _, _, by omega, by omega, hfdL, by omega, ?_, b5, F7⟩
      have h1 : (turnB ra ks B').ks.length ≤ B'.ks.length + ks.length := hfl
      have : (i + 1).toNat = i.toNat + 1 := by omega
      rw [this]; omega
  · rintro h' t' ⟨bd, B', fo, uo, vo, to, i0, b1, b2, b3, b4, b5, F1⟩
    refine hQ h' t' ?_ F1.keep
    rw [← b5]
    have : n - (n : Int).toNat = 0 := by omega
    rw [this]; rfl

/-- _law_least -/
theorem least_spec {n : Nat} {u : Int} {tn tu : Tok} {Z : Addr → Prop} {Q : Value → Shared → Prop} (G : Gl h) (hf : FnAt h 912 (S 28) "_law_least" .none cd) (hA : A.handled = none) (hroom : A.depth < recursionLimit) (hu : A.units + 10 < cLine) (hn : n ≤ 1000) (hks : ks.length ≤ 900)
    (x : Arcs prog w Z h rd ks ra)
    (hR : ∀ h' t' a B', leastB ra ks n ⟨[u], fun _ => 0⟩ = some B' → Keep h h' → Row prog w RI h' a B'.ks B'.f → h.objs.size ≤ a → Q (.ref a) (mk c h' t'))
    (hQ : ∀ h' t', leastB ra ks n ⟨[u], fun _ => 0⟩ = none → Keep h h' → Q .none (mk c h' t')) :
    wpAny (model prog w) A (call (.ref 912) [.ref rd, .int n tn, .int u tu]) Q NE (mk c h t) := by
  refine call_fn G hf hroom (binds := [("rows", .ref rd), ("size", .int n tn), ("start", .int u tu)]) (fun pm => BindsTo.of_eq (by kernel_rfl))
    (lsl (some (.ref rd)) (some (.int n tn)) (some (.int u tu)) none none none none none) fun h1 t1 F => ?_
  refine wpAny_execs_cons (wpAny_Assign_Name (wpAny_Dict_walk (knd := intKind prog w) (by rfl) (by rfl) (by simp) (by decide) ?_))
  have F1 := F.push { cls := .type "dict", data := .dict #[] }
  refine pairTrees_cons_walk (nm F1 (by walk_at "mem") (wpAny_Constant_int (pairTrees_nil_walk ?_)))
  refine ⟨[(u, .int 0 (t1 + 1))], ⟨intKind_is prog w u tu, rfl, trivial⟩, Heap.DictOf.new _, fun h' hd hs => mk_toks (n := 1) (t := t1 + 1) ?_⟩
  have hk : Keep h1 h' := fun b o e => hs.extBut b o (Nat.ne_of_lt (Heap.lt_size e)) (Heap.get?_push_of_some _ e)
  have F2 := (F.ext hk).say (P' := lsQ prog w h rd ks ra h1.objs.size ⟨[u], fun _ => 0⟩) ⟨⟨by simpa using Nat.ne_of_gt (G.keep F.keep).low, _, hd, rfl, fun kv m => by rw [List.mem_singleton.mp m]; exact ⟨_, rfl⟩⟩, arcs_at h x (F.keep.trans hk)⟩ (lsQ.stb (Nat.ne_of_gt F.loc.lt) F.above)
  · refine st3 F2 fun h3 t3 F3 s3 => ?_
    refine wpAny_execs_cons (ls_out G (by show A.units + 3 + 1 < cLine; omega) hA hn hks (by simp) (Nat.le_of_lt (Nat.lt_of_le_of_lt F.above F.loc.lt)) (Nat.ne_of_gt F.loc.lt) F3 (fun h4 t4 a B' e k4 r4 s4 => hR h4 t4 a B' e k4 r4 s4) fun h4 t4 e k4 => ?_)
    exact wpAny_execs_cons (wpAny_Return_some (wpAny_Constant_none (hQ h4 t4 e k4)))
end
end Mine
end
section
open PySem PySem.W PyProof.Rows PySem.Calls Builtin Builtin.ObjectAttr
set_option maxRecDepth 100000
namespace Mine
section
variable {prog : Program} {w : World} {A : Around} {E : Value → Shared → Prop} {s : Shared}
/-- a name is put into a dict of names -/
theorem nsSet_m {a : Addr} {es : List DictEntry} {n : Nat} {name : Str} {v : Value} {Q : Unit → Shared → Prop} (D : s.heap.get? a = some (dictOf es n)) (hl : (getL name es).isSome = true)
    (h : ∀ h', h'.get? a = some (dictOf (putL name (PyData.keyHash w.params name) (.str name s.toks) v es) (putN name es n)) → Heap.SameBut a s.heap h' → Q () { s with heap := h', toks := s.toks + 1 }) :
    wpAny (model prog w) A (nsSet a name v) Q E s := by
  have D' := Heap.get?_update_self (Obj.putName name (PyData.keyHash w.params name) (.str name s.toks) v) D (by rw [putName_dict]; rfl)
  rw [putName_dict] at D'
  unfold nsSet
  refine wpAny_bind (wpAny_bind (wpAny_askSetting (wpAny_pure (wpAny_bind (wpAny_mkText (wpAny_bind (wpAny_loadPart D ?_)))))))
  have c : (!es.toArray.any (·.key.isStr name) && es.toArray.any (·.refKey)) = false := by
    rw [← Array.any_toList, ← Array.any_toList]
    unfold getL at hl
    split at hl
    · rename_i en he
      have : es.any (·.key.isStr name) = true := List.any_eq_true.mpr ⟨en, List.mem_of_find?_eq_some he, by have := List.find?_some he; exact this⟩
      simp [this]
    · split at hl
      · cases hl
      · rename_i z; rw [Bool.not_eq_true] at z; simp [z]
  dsimp only
  rw [aRefKeyMayBeTheName_at, c]
  refine wpAny_updatePart D ?_
  exact h _ D' (Heap.SameBut.update ..)
end

/-- what a class must be, in the fragment -/
def clsOk (K : Frag) (C : Addr) (fs : List (Str × Addr)) (own : List Str) : Bool :=
  makesIn K C && plainGet K C "graph" && (findIn K (.ref C) "__setattr__" == some (some (.builtin "object.__setattr__"))) && plainOver K C && hasDictIn K C &&
    (fs.all fun p => findIn K (.ref C) p.1 == some (some (.ref p.2)) && isFn K (.ref p.2)) && own.all fun x => findIn K (.ref C) x == some none
structure ClsOk (K : Frag) (C : Addr) (fs : List (Str × Addr)) (own : List Str) : Prop where
  mks : makesIn K C = true
  ga : findIn K (.ref C) "__getattribute__" = some (some (.builtin "object.__getattribute__"))
  gg : findIn K (.ref C) "__getattr__" = some none
  sa : findIn K (.ref C) "__setattr__" = some (some (.builtin "object.__setattr__"))
  po : plainOver K C = true
  hd : hasDictIn K C = true
  fs : ∀ p ∈ fs, findIn K (.ref C) p.1 = some (some (.ref p.2)) ∧ typeIn K (.ref p.2) = some (.type "function")
  own : ∀ x ∈ own, findIn K (.ref C) x = some none
theorem clsOk_of {K C fs own} (h : clsOk K C fs own = true) : ClsOk K C fs own := by
  unfold clsOk at h
  simp only [Bool.and_eq_true, List.all_eq_true, beq_iff_eq] at h
  obtain ⟨⟨⟨⟨⟨⟨h1, h2⟩, h3⟩, h4⟩, h5⟩, h6⟩, h7⟩ := h
  exact ⟨h1, (plainGet_of h2).1, (plainGet_of h2).2, h3, h4, h5, fun p hp => ⟨(h6 p hp).1, beq_iff_eq.mp (h6 p hp).2⟩, h7⟩

/-- an instance: its own dict stands -/
structure Ins (h : Heap) (g C dx : Addr) (es : List DictEntry) (n : Nat) : Prop where
  ob : h.get? g = some (instObj C dx)
  di : h.get? dx = some (dictOf es n)
theorem Ins.inst {h g C dx es n} (x : Ins h g C dx es n) : InstAt h g (instObj C dx) C (some (dictOf es n)) := ⟨x.ob, rfl, rfl, x.di⟩
theorem Ins.at {h h' g C dx es n} (x : Ins h g C dx es n) (k : ∀ b o, (b = g ∨ b = dx) → h.get? b = some o → h'.get? b = some o) : Ins h' g C dx es n := ⟨k _ _ (.inl rfl) x.ob, k _ _ (.inr rfl) x.di⟩

section
variable {prog : Program} {w : World} {A : Around} {c : Cst} {h : Heap} {t : Nat} {E : Value → Shared → Prop} {K : Frag} {C g dx : Addr} {fs : List (Str × Addr)} {own : List Str} {es : List DictEntry} {n : Nat} {name : Str}
theorem g_attr {b : Addr} {ex : Bool} {Q : Value → Shared → Prop} (X : K.In h) (O : ClsOk K C fs own) (I : Ins h g C dx es n) (hn : name ∈ own) (hl : getL name es = some (some (.ref b))) (k : Q (.ref b) (mk c h (t + 1))) :
    wpAny (model prog w) A (getAttr (.ref g) name ex) Q E (mk c h t) :=
  get_value (s := mk c h t) X I.inst O.ga (findObj_own (attr := none) O.hd (O.own _ hn) (by rfl) hl) (by rfl) k
theorem g_meth {f : Addr} {pl : Sem Bool} {Q : Value × List Value → Shared → Prop} (X : K.In h) (O : ClsOk K C fs own) (I : Ins h g C dx es n) (hn : (name, f) ∈ fs) (hl : getL name es = some none) (k : Q (.ref f, [.ref g]) (mk c h t)) :
    wpAny (model prog w) A (getMethod (.ref g) name pl) Q E (mk c h t) :=
  method_fn (s := mk c h t) X I.inst O.ga O.gg (O.fs _ hn).1 (O.fs _ hn).2 (by show (lookIn name (dictOf es n)).map _ = _; rw [lookIn_dict, hl]; rfl) k
/-- self.name = v -/
theorem g_set {v : Value} {Q : Unit → Shared → Prop} (X : K.In h) (O : ClsOk K C fs own) (I : Ins h g C dx es n) (hn : name ∈ own) (hl : (getL name es).isSome = true) (hz : (putL name (PyData.keyHash w.params name) (.str name (t + 1 + 1)) v es).length ≤ 1000)
    (k : ∀ h', h'.get? dx = some (dictOf (putL name (PyData.keyHash w.params name) (.str name (t + 1 + 1)) v es) (putN name es n)) → Heap.SameBut dx h h' → Q () (mk c h' (t + 2))) :
    wpAny (model prog w) A (setAttr (.ref g) name v) Q E (mk c h t) := by
  refine set_plain (s := mk c h t) X I.inst O.sa ?_
  refine osa_open (s := ⟨h, c.g, c.d, t + 1 + 1, c.o⟩) (r := none) X I.inst O.po (by unfold takerIn; rw [O.own _ hn]; rfl) fun b => ?_
  obtain ⟨cd, hc, hd'⟩ := any_some (show (clsIn K C).any (·.hasDict) = true from O.hd)
  refine wpAny_bind (wpAny_pure (wpAny_bind (wpAny_bind (wpAny_loadPart I.ob (wpAny_bind ((looks_clsIn X hc).here ?_))))))
  rw [hd']
  refine wpAny_pure (a := some dx) (wpAny_bind (wpAny_pure (wpAny_bind ?_)))
  refine nsSet_m (s := ⟨h, c.g, c.d, t + 1 + 1, c.o⟩) I.di hl fun h' e sb => ?_
  refine wpAny_bind (wpAny_lookBehind e (pastItsLine_dict (by rw [List.size_toArray, sizeLine_eq]; exact Nat.le_trans hz (by decide))) ?_)
  exact wpAny_pure (k h' e sb)
end
end Mine
end
section
open PySem PySem.W PyProof.Rows PySem.Calls
set_option maxRecDepth 100000
namespace Mine
local macro_rules | `(tactic| walk_at "mem") => `(tactic| with_reducible (first | exact List.mem_cons_self | (refine List.mem_cons_of_mem _ ?_; walk_at "mem")))
theorem Heap.DictOf.none {prog : Program} {w : World} {K : Type} [DecidableEq K] {knd : KeyKind prog w K} {h : Heap} {a : Addr} (e : h.get? a = some emptyDict) : h.DictOf knd a [] :=
  ⟨_, #[], 0, e, ⟨rfl, rfl, rfl⟩, rfl, fun _ he => by simp at he, Pairs.nil, List.nodup_nil⟩
theorem RowK.none {prog : Program} {w : World} {K : Type} [DecidableEq K] {knd : KeyKind prog w K} {α : Type} {R : Value → α → Prop} {h : Heap} {a : Addr} {f : K → α} (e : h.get? a = some emptyDict) (hs : (a == sysModules) = false) : RowK knd R h a [] f :=
  ⟨hs, [], Heap.DictOf.none e, rfl, fun _ hx => by simp at hx⟩

section
variable {prog : Program} {w : World} {A : Around} {c : Cst} {h : Heap} {t : Nat} {E : Value → Shared → Prop}
section
variable {K : Type} [DecidableEq K] {knd : KeyKind prog w K} {α : Type} {R : Value → α → Prop} {d o : Addr} {ls : List K} {f g : K → α}
/-- an empty dict takes another in -/
theorem update0 {Q : Value → Shared → Prop} (x : RowK knd R h d [] f) (y : RowK knd R h o ls g) (hdo : d ≠ o) (hsz : ls.length ≤ 1000000) (k : ∀ h', RowK knd R h' d ls g → Heap.SameBut d h h' → Q .none (mk c h' t)) :
    wpAny (model prog w) A (call (.builtin "dict.update") [.ref d, .ref o]) Q E (mk c h t) := by
  have hn := y.nodup
  obtain ⟨hs, kvs, q, hk, r⟩ := x
  obtain ⟨hs', more, q', hk', r'⟩ := y
  obtain rfl : kvs = [] := List.map_eq_nil_iff.mp hk
  refine call_meetsIn PySem.F.slot_dict_update (Heap.DictOf.typeIs (s := mk c h t) q) PySem.F.entry_dict_update (PySem.F.args_dict_update_2 _ _) (meets_dict_update knd d o hdo hs') ⟨[], more, q, q', ?_, fun h' q1 q2 sb => ?_⟩
  · rw [← hk', List.length_map] at hsz; rw [List.length_nil, Nat.zero_add]; exact sz_of hsz
  · rw [merged_nil_of_nodup more (hk' ▸ hn)] at q1
    exact k h' ⟨hs, more, q1, hk', r'⟩ sb
end
/-- pop of a name that an empty dict lacks -/
theorem pop0 {d : Addr} {x : Str} {tk : Tok} {v : Value} {R : Value → Int → Prop} {f : Str → Int} {Q : Value → Shared → Prop} (y : RowK (PySem.strKind prog w) R h d [] f) (k : Q v (mk c h (t + 1))) :
    wpAny (model prog w) A (call (.builtin "dict.pop") [.ref d, .str x tk, v]) Q E (mk c h t) := by
  obtain ⟨hs, kvs, q, hk, r⟩ := y
  obtain rfl : kvs = [] := List.map_eq_nil_iff.mp hk
  exact call_meetsIn PySem.F.slot_dict_pop (Heap.DictOf.typeIs (s := mk c h t) q) PySem.F.entry_dict_pop (PySem.F.args_dict_pop_3 _ _ _) (meets_dict_pop_default (PySem.strKind prog w) d (PySem.strKind_is prog w x tk) hs (by rfl) v) ⟨[], q, rfl, k⟩

/-- a call whose binding makes a dict -/
theorem call_W {f : Addr} {st : Stmt} {qual : Str} {dV cd : Value} {pos : List Value} {kw : List (Str × Value)} {binds : List (Str × Value)} {R : Result → Shared → Prop} (P : Heap → Prop)
    (G : Gl h) (hf : FnAt h f st qual dV cd) (hroom : A.depth < recursionLimit) (hP : ∀ h₀, P h₀ → Keep h h₀)
    (hbind : ∀ pm (Q' : List (Str × Value) → Shared → Prop) (E' : Value → Shared → Prop), (∀ h₀ t₀, P h₀ → Q' binds (mk c h₀ t₀)) → wpAny (model prog w) A.in1 (bindArgs (fdOf st qual dV pm cd) ⟨pos, kw⟩) Q' E' (mk c h t)) (l : List (Str × Option Value))
    (k : ∀ h₀, P h₀ → ∀ h₁ t₁, Fn (envAt st qual cd h₀.objs.size f) h₀ (fun _ => True) h₁ l → wpAny (model prog w) (A.deeper (envAt st qual cd h₀.objs.size f)) (execs (dBody st) (envAt st qual cd h₀.objs.size f))
      (fun fl s' => R (.ok (.ret (match fl with | .ret v => v | _ => .none))) s') NE (mk c h₁ t₁))
    (e1 : ((dScope st).names.all fun x => !(x.2 == .cell)) = true := by kernel_rfl) (e2 : (binds.all fun x => (dScope st).names.lookup x.1 == some .local) = true := by kernel_rfl)
    (e3 : (dScope st).isCoroutine = false := by kernel_rfl) (e4 : (dScope st).isGenerator = false := by kernel_rfl) (e5 : (dScope st).kind = .function := by kernel_rfl)
    (h1 : ∀ h₀ : Heap, ((l.map (·.1)).all fun x => (envAt st qual cd h₀.objs.size f).kindOf x == some .local && !(x == ("__debug__" : Str))) = true := by intro h₀; kernel_rfl) (h2 : decide (l.map (·.1)).Nodup = true := by kernel_rfl)
    (h3 : (l.map fun p => binds.reverse.lookup p.1) = l.map (·.2) := by kernel_rfl) :
    codeAny (model prog w) A (.call (.ref f) ⟨pos, kw⟩) R (mk c h t) := by
  obtain ⟨o, pm, ho, hd, hcd⟩ := hf
  refine codeAny_call_function (s := mk c h t) (fd := fdOf st qual dV pm cd) hroom ho hd e3 e4 rfl hcd (hbind pm _ _ fun h₀ t₀ hp => ?_)
  refine wpAny_newFunctionEnv (s := mk c h₀ t₀) (fun x hx e => ?_) (fun x hx => ?_) (fun h' hns hsb => ?_) e5
  · have := List.all_eq_true.mp e1 x hx; rw [e] at this; cases this
  · have := List.all_eq_true.mp e2 x hx; simpa using this
  · have hk : Keep h₀ h' := fun b o e => hsb.extBut b o (Nat.ne_of_lt (Heap.lt_size e)) (Heap.get?_push_of_some _ e)
    refine ⟨(G.nolimit.keeps (hP h₀ hp)).keeps hk, codeAny_func ?_⟩
    refine mk_toks (c := c) (h := h') (t := t₀) (n := binds.length) (wpAny_noRaise (k h₀ hp h' (t₀ + binds.length) ⟨loc_of hns e5 (h1 h₀) h2 h3, hk, Nat.le_refl _, trivial, Stb.true⟩))
/-- the binding, no keyword -/
theorem bind0 {A : Around} {fd : FuncData} {pos : List Value} {b1 : List (Str × Value)} {x : Str} {Q' : List (Str × Value) → Shared → Prop} {E' : Value → Shared → Prop}
    (hb : bindArgs fd ⟨pos, []⟩ = (alloc emptyDict >>= fun d => pure (b1 ++ [(x, .ref d)]))) (k : ∀ h₀ t₀, h₀ = h.push emptyDict → Q' (b1 ++ [(x, .ref h.objs.size)]) (mk c h₀ t₀)) :
    wpAny (model prog w) A (bindArgs fd ⟨pos, []⟩) Q' E' (mk c h t) := by
  rw [hb]
  exact wpAny_bind (wpAny_alloc (wpAny_pure (k _ t rfl)))
end
end Mine
end
section
open PySem PySem.W PyProof.Rows PySem.Calls
set_option maxRecDepth 100000
namespace Mine
local macro_rules | `(tactic| walk_at "mem") => `(tactic| with_reducible (first | exact List.mem_cons_self | (refine List.mem_cons_of_mem _ ?_; walk_at "mem")))
/-- objects that stand -/
def Objs (l : List (Addr × Obj)) (h : Heap) : Prop := ∀ p ∈ l, h.get? p.1 = some p.2
theorem Objs.keep {l : List (Addr × Obj)} {h h' : Heap} (x : Objs l h) (k : Keep h h') : Objs l h' := fun p hp => k _ _ (x p hp)
theorem Objs.dep (l : List (Addr × Obj)) : Dep (fun b => b ∈ l.map (·.1)) (Objs l) := fun h h' k x p hp => k _ _ (List.mem_map_of_mem hp) (x p hp)
theorem Objs.cons {a : Addr} {o : Obj} {l : List (Addr × Obj)} {h : Heap} (e : h.get? a = some o) (x : Objs l h) : Objs ((a, o) :: l) h := fun p hp => by
  rcases List.mem_cons.mp hp with rfl | q
  · exact e
  · exact x p q
theorem Objs.nil {h : Heap} : Objs [] h := fun _ hp => nomatch hp
theorem Fn.rebase {env : Env} {hB hC h : Heap} {P : Heap → Prop} {l} (F : Fn env hC P h l) (k : Keep hB hC) (s : hB.objs.size ≤ hC.objs.size) : Fn env hB P h l :=
  ⟨F.loc, k.trans F.keep, Nat.le_trans s F.above, F.inv, F.stb⟩

abbrev gown : List Str := ["graph", "_node", "_adj", "_succ", "_pred"]
/-- the factories of the class -/
def Facs (hB : Heap) (fs : List (Str × Addr)) : Prop := ∀ i, i < 6 → ∃ f cd, (dName (SM 23 i), f) ∈ fs ∧ FnAt hB f (SM 23 i) ("Graph." ++ dName (SM 23 i)) .none cd
section
variable {prog : Program} {w : World} {A : Around} {c : Cst} {h : Heap} {t : Nat} {E : Value → Shared → Prop} {K : Frag} {C g dx : Addr} {fs : List (Str × Addr)} {es : List DictEntry} {n : Nat}
theorem fac {f : Addr} {cd : Value} {i : Nat} {Q : Value → Shared → Prop} (hi : i < 6) (G : Gl h) (hf : FnAt h f (SM 23 i) ("Graph." ++ dName (SM 23 i)) .none cd) (hroom : A.depth < recursionLimit)
    (k : ∀ h' t' a, Keep h h' → h.objs.size ≤ a → h'.get? a = some emptyDict → Q (.ref a) (mk c h' t')) : wpAny (model prog w) A (call (.ref f) [.ref g]) Q NE (mk c h t) := by
  have fin : ∀ {env : Env} {p : Pos} {p' : Pos} (h1 : Heap) (t1 : Nat), Keep h h1 → env.locals < h1.objs.size → h.objs.size ≤ env.locals → wpAny (model prog w) (A.deeper env) (execs [.Return (some (.Dict [] [] p)) p'] env) (fun fl s' => Q (match fl with | .ret v => v | _ => .none) s') NE (mk c h1 t1) := fun h1 t1 k1 s1 s2 =>
    wpAny_execs_cons (wpAny_Return_some (wpAny_Dict_empty (k (h1.push emptyDict) t1 h1.objs.size (k1.trans (Keep.push _ _)) (Nat.le_of_lt (Nat.lt_of_le_of_lt s2 s1)) (Heap.get?_push_size _ rfl))))
  rcases i with _ | _ | _ | _ | _ | _ | i
  · exact call_fn G hf hroom (binds := [("self", .ref g)]) (fun pm => BindsTo.of_eq (by kernel_rfl)) [("self", some (.ref g))] fun h1 t1 F => fin h1 t1 F.keep F.loc.lt F.above
  · exact call_fn G hf hroom (binds := [("self", .ref g)]) (fun pm => BindsTo.of_eq (by kernel_rfl)) [("self", some (.ref g))] fun h1 t1 F => fin h1 t1 F.keep F.loc.lt F.above
  · exact call_fn G hf hroom (binds := [("self", .ref g)]) (fun pm => BindsTo.of_eq (by kernel_rfl)) [("self", some (.ref g))] fun h1 t1 F => fin h1 t1 F.keep F.loc.lt F.above
  · exact call_fn G hf hroom (binds := [("self", .ref g)]) (fun pm => BindsTo.of_eq (by kernel_rfl)) [("self", some (.ref g))] fun h1 t1 F => fin h1 t1 F.keep F.loc.lt F.above
  · exact call_fn G hf hroom (binds := [("self", .ref g)]) (fun pm => BindsTo.of_eq (by kernel_rfl)) [("self", some (.ref g))] fun h1 t1 F => fin h1 t1 F.keep F.loc.lt F.above
  · exact call_fn G hf hroom (binds := [("self", .ref g)]) (fun pm => BindsTo.of_eq (by kernel_rfl)) [("self", some (.ref g))] fun h1 t1 F => fin h1 t1 F.keep F.loc.lt F.above
  · omega
/-- self.factory() -/
theorem self_fac {env : Env} {hB : Heap} {P : Heap → Prop} {l : List (Str × Option Value)} {p1 : Pos} {pl : Sem Bool} {Q : Value → Shared → Prop} (F : Fn env hB P h l) (X : K.In hB) (O : ClsOk K C fs gown) (I : Ins h g C dx es n)
    (T : Facs hB fs) (G : Gl hB) (hroom : A.depth < recursionLimit) (i : Nat) (hi : i < 6) (hl : getL (dName (SM 23 i)) es = some none)
    (k : ∀ h' t' a, Keep h h' → h.objs.size ≤ a → h'.get? a = some emptyDict → Q (.ref a) (mk c h' t')) :
    wpAny (model prog w) A (getMethod (.ref g) (dName (SM 23 i)) pl) (fun fx s₂ => wpAny (model prog w) A (callWith p1 fx.1 fx.2 (backTo p1 (starEach [] env)) []) Q NE s₂) NE (mk c h t) := by
  obtain ⟨f, cd, m, hf⟩ := T i hi
  have hf := hf.keep F.keep
  have ⟨o, pm, ho, hd, _⟩ := hf
  exact g_meth (X.keeps F.keep) O I m hl (callWith_meth0 hd ho (fac hi (G.keep F.keep) hf hroom k))
end
end Mine
end
section
open PySem PySem.W PyProof.Rows PySem.Calls
set_option maxRecDepth 100000
namespace Mine
local macro_rules | `(tactic| walk_at "mem") => `(tactic| with_reducible (first | exact List.mem_cons_self | (refine List.mem_cons_of_mem _ ?_; walk_at "mem")))
theorem nlt {a b : Nat} (h : a < b) : a < b := h
theorem nle {a b : Nat} (h : a ≤ b) : a ≤ b := h
section
variable {prog : Program} {w : World} {A : Around} {c : Cst} {h : Heap} {t : Nat} {E : Value → Shared → Prop} {K : Frag} {C g dx : Addr} {fs : List (Str × Addr)} {es : List DictEntry} {n : Nat}
/-- the binding, defaults, no keyword -/
theorem bindD {A : Around} {fd : FuncData} {pos : List Value} {b1 : List (Str × Value)} {x : Str} {Q' : List (Str × Value) → Shared → Prop} {E' : Value → Shared → Prop} {T : Addr} {o : Obj} {items : Array Value} {n : Nat}
    {kk : Option (Array Value) → Sem (List (Str × Value))} (hd : fd.defaults = .ref T) (ho : h.get? T = some o) (hs : o.data = .seq items n)
    (h₁ : bindArgs fd ⟨pos, []⟩ = seqItems? fd.defaults >>= kk) (h₂ : kk (some items) = (alloc emptyDict >>= fun d => pure (b1 ++ [(x, .ref d)]))) (k : ∀ h₀ t₀, h₀ = h.push emptyDict → Q' (b1 ++ [(x, .ref h.objs.size)]) (mk c h₀ t₀)) :
    wpAny (model prog w) A (bindArgs fd ⟨pos, []⟩) Q' E' (mk c h t) := by
  rw [h₁, hd]
  exact wpAny_bind (wpAny_seqItems (s := mk c h t) ho hs (by rw [h₂]; exact wpAny_bind (wpAny_alloc (wpAny_pure (k _ t rfl)))))

theorem getL_no (x : Str) (es : List DictEntry) (h : ∀ e ∈ es, ∃ y tk, e.key = .str y tk ∧ y ≠ x) : getL x es = some none := by
  unfold getL
  have h1 : es.find? (fun e => e.key.isStr x) = none := List.find?_eq_none.mpr fun e he q => by
    obtain ⟨y, tk, e1, e2⟩ := h e he
    rw [e1] at q
    exact e2 (by simpa [Value.isStr] using q)
  have h2 : es.any (·.refKey) = false := List.any_eq_false.mpr fun e he q => by
    obtain ⟨y, tk, e1, e2⟩ := h e he
    simp [DictEntry.refKey, e1] at q
  rw [h1, h2]; rfl
abbrev en (w : World) (x : Str) (tk : Tok) (v : Value) : DictEntry := ⟨PyData.keyHash w.params x, .str x tk, v⟩
/-- __init__ of Graph -/
theorem init_G {f dt : Addr} {cd : Value} {hB : Heap} {R : Result → Shared → Prop} (G : Gl hB) (X : K.In hB) (O : ClsOk K C fs gown) (T : Facs hB fs) (hf : FnAt hB f (SM 23 6) "Graph.__init__" (.ref dt) cd) (hdt : ∃ o n, hB.get? dt = some o ∧ o.data = .seq #[.none] n)
    (hroom : A.depth + 1 < recursionLimit) (k0 : Keep hB h) (hsz : hB.objs.size ≤ dx) (I : Ins h g C dx [] 0) (hgd : dx < g)
    (hR : ∀ h' t' nd adj es n, KO (fun b => b = dx) h h' → Ins h' g C dx es n → getL "_node" es = some (some (.ref nd)) → getL "_adj" es = some (some (.ref adj)) → (∀ x ∈ gown, (getL x es).isSome = true) →
      (∀ x : Str, x ∉ gown → getL x es = some none) → h.objs.size ≤ nd → nd < adj → h'.get? nd = some emptyDict → h'.get? adj = some emptyDict → R (.ok (.ret .none)) (mk c h' t')) :
    codeAny (model prog w) A (.call (.ref f) ⟨[.ref g], []⟩) R (mk c h t) := by
  obtain ⟨od, nn, d1, d2⟩ := hdt
  have hdl := nlt (Heap.lt_size I.di)
  have hgd' := nlt hgd
  have hsz' := nle hsz
  have hg := nlt (Heap.lt_size I.ob)
  refine call_W (fun h₀ => h₀ = h.push emptyDict) (G.keep k0) (hf.keep k0) (by omega) (fun h₀ e => e ▸ Keep.push _ _) (fun pm Q' E' k => bindD (b1 := [("self", .ref g), ("incoming_graph_data", .none)]) (x := "attr") (T := dt) rfl (k0 _ _ d1) d2 (by rfl) (by rfl) k)
    [("self", some (.ref g)), ("incoming_graph_data", some .none), ("attr", some (.ref h.objs.size))] ?_
  rintro _ rfl h1 t1 F
  have kp : Keep h (h.push emptyDict) := Keep.push _ _
  have sz0 : (h.push emptyDict).objs.size = h.objs.size + 1 := Heap.size_push ..
  have F0 := F.rebase (k0.trans kp) (by omega)
  generalize hL : (h.push emptyDict).objs.size = L at F F0
  rw [sz0] at hL
  have hlow : ∀ a : Addr, h.objs.size ≤ a → (a == sysModules) = false := fun a ha => by
    have := Nat.lt_of_lt_of_le G.low (Nat.le_trans hsz (Nat.le_of_lt hdl))
    simpa using Nat.ne_of_gt (Nat.lt_of_lt_of_le this ha)
  have I1 : Ins h1 g C dx [] 0 := (I.at fun b o _ e => F.keep b o (kp b o e))
  have a1 : h1.get? h.objs.size = some emptyDict := F.keep _ _ (Heap.get?_push_size _ rfl)
  have hL1 := nlt (show L < h1.objs.size from F0.loc.lt)
  have hroom' : (A.deeper (envAt (SM 23 6) "Graph.__init__" cd L f)).depth < recursionLimit := hroom
  have hdL : dx ≠ L := by show (_ : Nat) ≠ _; omega
  have stp : ∀ (x : Str) (es es' : List DictEntry) (n n' : Nat) (hx : x ∈ gown) (a : Addr) h2 t2, Ins h2 g C dx es n → (getL x es).isSome = true → (putL x (PyData.keyHash w.params x) (.str x (t2 + 1 + 1)) (.ref a) es, putN x es n) = (es', n') → es'.length ≤ 1000 →
      Fn (envAt (SM 23 6) "Graph.__init__" cd L f) hB (fun _ => True) h2 [("self", some (.ref g)), ("incoming_graph_data", some .none), ("attr", some (.ref h.objs.size))] →
      ∀ (Q : Unit → Shared → Prop), (∀ h3, Ins h3 g C dx es' n' → KO (fun b => b = dx) h2 h3 → Heap.SameBut dx h2 h3 → Fn (envAt (SM 23 6) "Graph.__init__" cd L f) hB (fun _ => True) h3 [("self", some (.ref g)), ("incoming_graph_data", some .none), ("attr", some (.ref h.objs.size))] → Q () (mk c h3 (t2 + 2))) →
      wpAny (model prog w) (A.deeper (envAt (SM 23 6) "Graph.__init__" cd L f)) (setAttr (.ref g) x (.ref a)) Q NE (mk c h2 t2) := fun x es es' n n' hx a h2 t2 I2 hl e hz F2 Q k => by
    obtain ⟨e1, e2⟩ := Prod.mk.inj e
    refine g_set (X.keeps F2.keep) O I2 hx hl (by rw [e1]; exact hz) fun h3 e3 sb => ?_
    rw [e1, e2] at e3
    exact k h3 ⟨sb.extBut _ _ (Nat.ne_of_gt hgd) I2.ob, e3⟩ ((KO.refl h2).but sb rfl) sb (F2.upd hsz hdL sb.extBut trivial Stb.true)
  refine wpAny_execs_cons (plainObj_wpAny_Assign_Attribute (MethodCall_ (nm F0 (by walk_at "mem") (self_fac F0 X O I1 T G hroom' 5 (by decide) (by rfl) fun h2 t2 gd k2 s2 e2 => nm (F0.ext k2) (by walk_at "mem")
    (stp "graph" _ _ _ _ (by decide) gd h2 t2 (I1.at fun b o _ e => k2 b o e) (by rfl) rfl (by show 1 ≤ 1000; decide) (F0.ext k2) _ fun h3 I3 ko3 sb3 F3 => ?_)))))
  have kk3 : KO (fun b => b = dx) h h3 := ((kp.trans F.keep).ko).trans (k2.ko.trans ko3)
  have hne : ∀ a : Nat, h.objs.size ≤ a → a ≠ dx := fun a ha => by omega
  have z1 : h.objs.size < h1.objs.size := by omega
  have z2 := nlt (Heap.lt_size e2)
  have s2' := nle s2
  have z3 : h3.objs.size = h2.objs.size := sb3.1
  have a3 : h3.get? h.objs.size = some emptyDict := sb3.extBut _ _ (hne _ (Nat.le_refl _)) (k2 _ _ a1)
  have g3 : h3.get? gd = some emptyDict := sb3.extBut _ _ (hne _ (by omega)) e2
  refine wpAny_execs_cons (plainObj_wpAny_Assign_Attribute (MethodCall_ (nm F3 (by walk_at "mem") (self_fac F3 X O I3 T G hroom' 0 (by decide) (by rfl) fun h4 t4 nd k4 s4 e4 => nm (F3.ext k4) (by walk_at "mem")
    (stp "_node" _ _ _ _ (by decide) nd h4 t4 (I3.at fun b o _ e => k4 b o e) (by rfl) rfl (by show 2 ≤ 1000; decide) (F3.ext k4) _ fun h5 I5 ko5 sb5 F5 => ?_)))))
  have kk5 := kk3.trans (k4.ko.trans ko5)
  have z4 := nlt (Heap.lt_size e4)
  have s4' := nle s4
  have z5 : h5.objs.size = h4.objs.size := sb5.1
  have a5 : h5.get? h.objs.size = some emptyDict := sb5.extBut _ _ (hne _ (Nat.le_refl _)) (k4 _ _ a3)
  have g5 : h5.get? gd = some emptyDict := sb5.extBut _ _ (hne _ (by omega)) (k4 _ _ g3)
  have n5 : h5.get? nd = some emptyDict := sb5.extBut _ _ (hne _ (by omega)) e4
  refine wpAny_execs_cons (plainObj_wpAny_Assign_Attribute (MethodCall_ (nm F5 (by walk_at "mem") (self_fac F5 X O I5 T G hroom' 2 (by decide) (by rfl) fun h6 t6 adj k6 s6 e6 => nm (F5.ext k6) (by walk_at "mem")
    (stp "_adj" _ _ _ _ (by decide) adj h6 t6 (I5.at fun b o _ e => k6 b o e) (by rfl) rfl (by show 3 ≤ 1000; decide) (F5.ext k6) _ fun h7 I7 ko7 sb7 F7 => ?_)))))
  have kk7 := kk5.trans (k6.ko.trans ko7)
  have z6 := nlt (Heap.lt_size e6)
  have s6' := nle s6
  have z7 : h7.objs.size = h6.objs.size := sb7.1
  have a7 : h7.get? h.objs.size = some emptyDict := sb7.extBut _ _ (hne _ (Nat.le_refl _)) (k6 _ _ a5)
  have g7 : h7.get? gd = some emptyDict := sb7.extBut _ _ (hne _ (by omega)) (k6 _ _ g5)
  have n7 : h7.get? nd = some emptyDict := sb7.extBut _ _ (hne _ (by omega)) (k6 _ _ n5)
  have j7 : h7.get? adj = some emptyDict := sb7.extBut _ _ (hne _ (by omega)) e6
  have ra : RowK (PySem.strKind prog w) RI h7 h.objs.size [] fun _ => 0 := RowK.none a7 (hlow _ (Nat.le_refl _))
  have rg : RowK (PySem.strKind prog w) RI h7 gd [] fun _ => 0 := RowK.none g7 (hlow _ (by omega))
  refine wpAny_execs_cons (wpAny_Expr (MethodCall_ (nm F7 (by walk_at "mem") (getmk PySem.F.slot_dict_pop PySem.F.type_dict_pop ra (callWith_builtin rfl (evalArgs_plain (args_cons (wpAny_Constant_str (args_cons (wpAny_Constant_none (args_nil (pop0 (t := t6 + 2 + 1) ra ?_)))))))))))) 
  refine wpAny_execs_cons (wpAny_Expr (MethodCall_ (Attribute_Name_ (nm F7 (by walk_at "mem") (g_attr (X.keeps F7.keep) O I7 (by decide) (by rfl) (getmk PySem.F.slot_dict_update PySem.F.type_dict_update rg (callWith_builtin rfl (evalArgs_plain (args_cons (nm F7 (by walk_at "mem") (args_nil
    (update0 rg ra (by show (_ : Nat) ≠ _; omega) (by decide) fun h8 r8 sb8 => ?_))))))))))))
  have kk8 := kk7.ext sb8.extBut (by omega : h.objs.size ≤ gd)
  have gne := Nat.ne_of_lt (show @LT.lt Nat _ g gd by omega)
  have dne := Nat.ne_of_lt (show @LT.lt Nat _ dx gd by omega)
  have hne8 : ∀ a : Nat, a ≠ gd → ∀ o, h7.get? a = some o → h8.get? a = some o := fun a ha o e => sb8.extBut _ _ ha e
  refine wpAny_execs_nil (hR h8 _ nd adj _ _ kk8 (I7.at fun b o q e => hne8 b (q.elim (fun z => z ▸ gne) (fun z => z ▸ dne)) o e) (by rfl) (by rfl) (fun x hx => ?_) (fun x hx => ?_) (show @LE.le Nat _ h.objs.size nd by omega) (show @LT.lt Nat _ nd adj by omega) (hne8 nd (show @Ne Nat nd gd by omega) _ n7) (hne8 adj (show @Ne Nat adj gd by omega) _ j7))
  · simp only [gown, List.mem_cons, List.not_mem_nil, or_false] at hx
    rcases hx with rfl | rfl | rfl | rfl | rfl <;> rfl
  · refine getL_no x [en w "graph" _ _, en w "_node" _ _, en w "_adj" _ _] fun e he => ?_
    simp only [List.mem_cons, List.not_mem_nil, or_false] at he
    rcases he with rfl | rfl | rfl
    · exact ⟨_, _, rfl, fun q => hx (q ▸ by decide)⟩
    · exact ⟨_, _, rfl, fun q => hx (q ▸ by decide)⟩
    · exact ⟨_, _, rfl, fun q => hx (q ▸ by decide)⟩
end
end Mine
end
section
open PySem PySem.W PyProof.Rows PySem.Calls
set_option maxRecDepth 100000
namespace Mine
local macro_rules | `(tactic| walk_at "mem") => `(tactic| with_reducible (first | exact List.mem_cons_self | (refine List.mem_cons_of_mem _ ?_; walk_at "mem")))
section
variable {prog : Program} {w : World} {A : Around} {c : Cst} {h : Heap} {t : Nat} {E : Value → Shared → Prop} {K : Frag} {C g dx : Addr} {fs : List (Str × Addr)} {es : List DictEntry} {n : Nat}
/-- __init__ of DiGraph -/
theorem init_D {f dt : Addr} {cd : Value} {hB : Heap} {R : Result → Shared → Prop} (G : Gl hB) (X : K.In hB) (O : ClsOk K C fs gown) (T : Facs hB fs) (hf : FnAt hB f (SM 25 0) "DiGraph.__init__" (.ref dt) cd) (hdt : ∃ o n, hB.get? dt = some o ∧ o.data = .seq #[.none] n)
    (hroom : A.depth + 1 < recursionLimit) (k0 : Keep hB h) (hsz : hB.objs.size ≤ dx) (I : Ins h g C dx [] 0) (hgd : dx < g)
    (hR : ∀ h' t' nd adj prd es n, KO (fun b => b = dx) h h' → Ins h' g C dx es n → getL "_node" es = some (some (.ref nd)) → getL "_adj" es = some (some (.ref adj)) → getL "_succ" es = some (some (.ref adj)) → getL "_pred" es = some (some (.ref prd)) → (∀ x ∈ gown, (getL x es).isSome = true) →
      (∀ x : Str, x ∉ gown → getL x es = some none) → h.objs.size ≤ nd → nd < adj → adj < prd → h'.get? nd = some emptyDict → h'.get? adj = some emptyDict → h'.get? prd = some emptyDict → R (.ok (.ret .none)) (mk c h' t')) :
    codeAny (model prog w) A (.call (.ref f) ⟨[.ref g], []⟩) R (mk c h t) := by
  obtain ⟨od, nn, d1, d2⟩ := hdt
  have hdl := nlt (Heap.lt_size I.di)
  have hgd' := nlt hgd
  have hsz' := nle hsz
  have hg := nlt (Heap.lt_size I.ob)
  refine call_W (fun h₀ => h₀ = h.push emptyDict) (G.keep k0) (hf.keep k0) (by omega) (fun h₀ e => e ▸ Keep.push _ _) (fun pm Q' E' k => bindD (b1 := [("self", .ref g), ("incoming_graph_data", .none)]) (x := "attr") (T := dt) rfl (k0 _ _ d1) d2 (by rfl) (by rfl) k)
    [("self", some (.ref g)), ("incoming_graph_data", some .none), ("attr", some (.ref h.objs.size))] ?_
  rintro _ rfl h1 t1 F
  have kp : Keep h (h.push emptyDict) := Keep.push _ _
  have sz0 : (h.push emptyDict).objs.size = h.objs.size + 1 := Heap.size_push ..
  have F0 := F.rebase (k0.trans kp) (by omega)
  generalize hL : (h.push emptyDict).objs.size = L at F F0
  rw [sz0] at hL
  have hlow : ∀ a : Addr, h.objs.size ≤ a → (a == sysModules) = false := fun a ha => by
    have := Nat.lt_of_lt_of_le G.low (Nat.le_trans hsz (Nat.le_of_lt hdl))
    simpa using Nat.ne_of_gt (Nat.lt_of_lt_of_le this ha)
  have I1 : Ins h1 g C dx [] 0 := (I.at fun b o _ e => F.keep b o (kp b o e))
  have a1 : h1.get? h.objs.size = some emptyDict := F.keep _ _ (Heap.get?_push_size _ rfl)
  have hL1 := nlt (show L < h1.objs.size from F0.loc.lt)
  have hroom' : (A.deeper (envAt (SM 25 0) "DiGraph.__init__" cd L f)).depth < recursionLimit := hroom
  have hdL : dx ≠ L := by show (_ : Nat) ≠ _; omega
  have stp : ∀ (x : Str) (es es' : List DictEntry) (n n' : Nat) (hx : x ∈ gown) (a : Addr) h2 t2, Ins h2 g C dx es n → (getL x es).isSome = true → (putL x (PyData.keyHash w.params x) (.str x (t2 + 1 + 1)) (.ref a) es, putN x es n) = (es', n') → es'.length ≤ 1000 →
      Fn (envAt (SM 25 0) "DiGraph.__init__" cd L f) hB (fun _ => True) h2 [("self", some (.ref g)), ("incoming_graph_data", some .none), ("attr", some (.ref h.objs.size))] →
      ∀ (Q : Unit → Shared → Prop), (∀ h3, Ins h3 g C dx es' n' → KO (fun b => b = dx) h2 h3 → Heap.SameBut dx h2 h3 → Fn (envAt (SM 25 0) "DiGraph.__init__" cd L f) hB (fun _ => True) h3 [("self", some (.ref g)), ("incoming_graph_data", some .none), ("attr", some (.ref h.objs.size))] → Q () (mk c h3 (t2 + 2))) →
      wpAny (model prog w) (A.deeper (envAt (SM 25 0) "DiGraph.__init__" cd L f)) (setAttr (.ref g) x (.ref a)) Q NE (mk c h2 t2) := fun x es es' n n' hx a h2 t2 I2 hl e hz F2 Q k => by
    obtain ⟨e1, e2⟩ := Prod.mk.inj e
    refine g_set (X.keeps F2.keep) O I2 hx hl (by rw [e1]; exact hz) fun h3 e3 sb => ?_
    rw [e1, e2] at e3
    exact k h3 ⟨sb.extBut _ _ (Nat.ne_of_gt hgd) I2.ob, e3⟩ ((KO.refl h2).but sb rfl) sb (F2.upd hsz hdL sb.extBut trivial Stb.true)
  refine wpAny_execs_cons (plainObj_wpAny_Assign_Attribute (MethodCall_ (nm F0 (by walk_at "mem") (self_fac F0 X O I1 T G hroom' 5 (by decide) (by rfl) fun h2 t2 gd k2 s2 e2 => nm (F0.ext k2) (by walk_at "mem")
    (stp "graph" _ _ _ _ (by decide) gd h2 t2 (I1.at fun b o _ e => k2 b o e) (by rfl) rfl (by show 1 ≤ 1000; decide) (F0.ext k2) _ fun h3 I3 ko3 sb3 F3 => ?_)))))
  have kk3 : KO (fun b => b = dx) h h3 := ((kp.trans F.keep).ko).trans (k2.ko.trans ko3)
  have hne : ∀ a : Nat, h.objs.size ≤ a → a ≠ dx := fun a ha => by omega
  have z1 : h.objs.size < h1.objs.size := by omega
  have z2 := nlt (Heap.lt_size e2)
  have s2' := nle s2
  have z3 : h3.objs.size = h2.objs.size := sb3.1
  have a3 : h3.get? h.objs.size = some emptyDict := sb3.extBut _ _ (hne _ (Nat.le_refl _)) (k2 _ _ a1)
  have g3 : h3.get? gd = some emptyDict := sb3.extBut _ _ (hne _ (by omega)) e2
  refine wpAny_execs_cons (plainObj_wpAny_Assign_Attribute (MethodCall_ (nm F3 (by walk_at "mem") (self_fac F3 X O I3 T G hroom' 0 (by decide) (by rfl) fun h4 t4 nd k4 s4 e4 => nm (F3.ext k4) (by walk_at "mem")
    (stp "_node" _ _ _ _ (by decide) nd h4 t4 (I3.at fun b o _ e => k4 b o e) (by rfl) rfl (by show 2 ≤ 1000; decide) (F3.ext k4) _ fun h5 I5 ko5 sb5 F5 => ?_)))))
  have kk5 := kk3.trans (k4.ko.trans ko5)
  have z4 := nlt (Heap.lt_size e4)
  have s4' := nle s4
  have z5 : h5.objs.size = h4.objs.size := sb5.1
  have a5 : h5.get? h.objs.size = some emptyDict := sb5.extBut _ _ (hne _ (Nat.le_refl _)) (k4 _ _ a3)
  have g5 : h5.get? gd = some emptyDict := sb5.extBut _ _ (hne _ (by omega)) (k4 _ _ g3)
  have n5 : h5.get? nd = some emptyDict := sb5.extBut _ _ (hne _ (by omega)) e4
  refine wpAny_execs_cons (plainObj_wpAny_Assign_Attribute (MethodCall_ (nm F5 (by walk_at "mem") (self_fac F5 X O I5 T G hroom' 2 (by decide) (by rfl) fun h6 t6 adj k6 s6 e6 => nm (F5.ext k6) (by walk_at "mem")
    (stp "_adj" _ _ _ _ (by decide) adj h6 t6 (I5.at fun b o _ e => k6 b o e) (by rfl) rfl (by show 3 ≤ 1000; decide) (F5.ext k6) _ fun h7 I7 ko7 sb7 F7 => ?_)))))
  have kk7 := kk5.trans (k6.ko.trans ko7)
  have z6 := nlt (Heap.lt_size e6)
  have s6' := nle s6
  have z7 : h7.objs.size = h6.objs.size := sb7.1
  have a7 : h7.get? h.objs.size = some emptyDict := sb7.extBut _ _ (hne _ (Nat.le_refl _)) (k6 _ _ a5)
  have g7 : h7.get? gd = some emptyDict := sb7.extBut _ _ (hne _ (by omega)) (k6 _ _ g5)
  have n7 : h7.get? nd = some emptyDict := sb7.extBut _ _ (hne _ (by omega)) (k6 _ _ n5)
  have j7 : h7.get? adj = some emptyDict := sb7.extBut _ _ (hne _ (by omega)) e6
  refine wpAny_execs_cons (plainObj_wpAny_Assign_Attribute (Attribute_Name_ (nm F7 (by walk_at "mem") (g_attr (X.keeps F7.keep) O I7 (by decide) (by rfl) (nm F7 (by walk_at "mem")
    (stp "_succ" _ _ _ _ (by decide) adj h7 (t6 + 2 + 1) I7 (by rfl) rfl (by show 4 ≤ 1000; decide) F7 _ fun h9 I9 ko9 sb9 F9 => ?_))))))
  have kk9 := kk7.trans ko9
  have z9 : h9.objs.size = h7.objs.size := sb9.1
  have a9 : h9.get? h.objs.size = some emptyDict := sb9.extBut _ _ (hne _ (Nat.le_refl _)) a7
  have g9 : h9.get? gd = some emptyDict := sb9.extBut _ _ (hne _ (by omega)) g7
  have n9 : h9.get? nd = some emptyDict := sb9.extBut _ _ (hne _ (by omega)) n7
  have j9 : h9.get? adj = some emptyDict := sb9.extBut _ _ (hne _ (by omega)) j7
  refine wpAny_execs_cons (plainObj_wpAny_Assign_Attribute (MethodCall_ (nm F9 (by walk_at "mem") (self_fac F9 X O I9 T G hroom' 2 (by decide) (by rfl) fun hA tA prd kA sA eA => nm (F9.ext kA) (by walk_at "mem")
    (stp "_pred" _ _ _ _ (by decide) prd hA tA (I9.at fun b o _ e => kA b o e) (by rfl) rfl (by show 5 ≤ 1000; decide) (F9.ext kA) _ fun hC IC koC sbC FC => ?_)))))
  have kkC := kk9.trans (kA.ko.trans koC)
  have zA := nlt (Heap.lt_size eA)
  have sA' := nle sA
  have zC : hC.objs.size = hA.objs.size := sbC.1
  have aC : hC.get? h.objs.size = some emptyDict := sbC.extBut _ _ (hne _ (Nat.le_refl _)) (kA _ _ a9)
  have gC : hC.get? gd = some emptyDict := sbC.extBut _ _ (hne _ (by omega)) (kA _ _ g9)
  have nC : hC.get? nd = some emptyDict := sbC.extBut _ _ (hne _ (by omega)) (kA _ _ n9)
  have jC : hC.get? adj = some emptyDict := sbC.extBut _ _ (hne _ (by omega)) (kA _ _ j9)
  have pC : hC.get? prd = some emptyDict := sbC.extBut _ _ (hne _ (by omega)) eA
  have ra : RowK (PySem.strKind prog w) RI hC h.objs.size [] fun _ => 0 := RowK.none aC (hlow _ (Nat.le_refl _))
  have rg : RowK (PySem.strKind prog w) RI hC gd [] fun _ => 0 := RowK.none gC (hlow _ (by omega))
  refine wpAny_execs_cons (wpAny_Expr (MethodCall_ (nm FC (by walk_at "mem") (getmk PySem.F.slot_dict_pop PySem.F.type_dict_pop ra (callWith_builtin rfl (evalArgs_plain (args_cons (wpAny_Constant_str (args_cons (wpAny_Constant_none (args_nil (pop0 (t := tA + 2 + 1) ra ?_)))))))))))) 
  refine wpAny_execs_cons (wpAny_Expr (MethodCall_ (Attribute_Name_ (nm FC (by walk_at "mem") (g_attr (X.keeps FC.keep) O IC (by decide) (by rfl) (getmk PySem.F.slot_dict_update PySem.F.type_dict_update rg (callWith_builtin rfl (evalArgs_plain (args_cons (nm FC (by walk_at "mem") (args_nil
    (update0 rg ra (by show (_ : Nat) ≠ _; omega) (by decide) fun h8 r8 sb8 => ?_))))))))))))
  have kk8 := kkC.ext sb8.extBut (by omega : h.objs.size ≤ gd)
  have gne := Nat.ne_of_lt (show @LT.lt Nat _ g gd by omega)
  have dne := Nat.ne_of_lt (show @LT.lt Nat _ dx gd by omega)
  have hne8 : ∀ a : Nat, a ≠ gd → ∀ o, hC.get? a = some o → h8.get? a = some o := fun a ha o e => sb8.extBut _ _ ha e
  refine wpAny_execs_nil (hR h8 _ nd adj prd _ _ kk8 (IC.at fun b o q e => hne8 b (q.elim (fun z => z ▸ gne) (fun z => z ▸ dne)) o e) (by rfl) (by rfl) (by rfl) (by rfl) (fun x hx => ?_) (fun x hx => ?_) (show @LE.le Nat _ h.objs.size nd by omega) (show @LT.lt Nat _ nd adj by omega) (show @LT.lt Nat _ adj prd by omega) (hne8 nd (show @Ne Nat nd gd by omega) _ nC) (hne8 adj (show @Ne Nat adj gd by omega) _ jC) (hne8 prd (show @Ne Nat prd gd by omega) _ pC))
  · simp only [gown, List.mem_cons, List.not_mem_nil, or_false] at hx
    rcases hx with rfl | rfl | rfl | rfl | rfl <;> rfl
  · refine getL_no x [en w "graph" _ _, en w "_node" _ _, en w "_adj" _ _, en w "_succ" _ _, en w "_pred" _ _] fun e he => ?_
    simp only [List.mem_cons, List.not_mem_nil, or_false] at he
    rcases he with rfl | rfl | rfl | rfl | rfl
    · exact ⟨_, _, rfl, fun q => hx (q ▸ by decide)⟩
    · exact ⟨_, _, rfl, fun q => hx (q ▸ by decide)⟩
    · exact ⟨_, _, rfl, fun q => hx (q ▸ by decide)⟩
    · exact ⟨_, _, rfl, fun q => hx (q ▸ by decide)⟩
    · exact ⟨_, _, rfl, fun q => hx (q ▸ by decide)⟩
end
end Mine
end
section
open PySem PySem.W PyProof.Rows PySem.Calls
set_option maxRecDepth 100000
namespace Mine
local macro_rules | `(tactic| walk_at "mem") => `(tactic| with_reducible (first | exact List.mem_cons_self | (refine List.mem_cons_of_mem _ ?_; walk_at "mem")))
/-- a graph object while it grows -/
structure GD where
  (g dx nd adj prd : Addr)
  es : List DictEntry
  n : Nat
  (Nn Na Np : List Int)
  (na inn pin : Int → Addr)
  (nbr pnb : Int → List Int)
  (ea pea : Int → Int → Addr)
  wt : Int → Int → Int
def lab (ro : Addr → Nat × Int) (b : Addr) : Prop := (ro b).1 < 8
/-- an edge's dict and its weight -/
def EdgeW (prog : Program) (w : World) (h : Heap) (a : Addr) (x : Int) : Prop := ∃ ks af, RowK (PySem.strKind prog w) RI h a ks af ∧ x = if ("weight" : Str) ∈ ks then af "weight" else 1
structure GSt (prog : Program) (w : World) (hB : Heap) (C : Addr) (di : Bool) (y : GD) (ro : Addr → Nat × Int) (h : Heap) : Prop where
  ins : Ins h y.g C y.dx y.es y.n
  e1 : getL "_node" y.es = some (some (.ref y.nd))
  e2 : getL "_adj" y.es = some (some (.ref y.adj))
  e3 : di = true → getL "_succ" y.es = some (some (.ref y.adj)) ∧ getL "_pred" y.es = some (some (.ref y.prd))
  e4 : ∀ x : Str, x ∉ gown → getL x y.es = some none
  nd : Row prog w RR h y.nd y.Nn y.na
  adj : Row prog w RR h y.adj y.Na y.inn
  inn : ∀ u ∈ y.Na, Row prog w RR h (y.inn u) (y.nbr u) (y.ea u)
  ed : ∀ u ∈ y.Na, ∀ v ∈ y.nbr u, EdgeW prog w h (y.ea u v) (y.wt u v)
  prd : di = true → Row prog w RR h y.prd y.Np y.pin
  pin : di = true → ∀ u ∈ y.Np, Row prog w RR h (y.pin u) (y.pnb u) (y.pea u)
  rg : ro y.g = (0, 0)
  rx : ro y.dx = (1, 0)
  rn : ro y.nd = (2, 0)
  ra : ro y.adj = (3, 0)
  rp : di = true → ro y.prd = (4, 0)
  ri : ∀ u ∈ y.Na, ro (y.inn u) = (5, u)
  rq : di = true → ∀ u ∈ y.Np, ro (y.pin u) = (6, u)
  re : ∀ u ∈ y.Na, ∀ v ∈ y.nbr u, ro (y.ea u v) = (7, 0)
  st : ∀ b, lab ro b → hB.objs.size ≤ b ∧ ∃ o, h.get? b = some o
section
variable {prog : Program} {w : World} {hB h h' : Heap} {C : Addr} {di : Bool} {y : GD} {ro : Addr → Nat × Int}
theorem ne_ro {ro : Addr → Nat × Int} {a b : Addr} {p q : Nat × Int} (h1 : ro a = p) (h2 : ro b = q) (hn : p ≠ q) : a ≠ b := fun e => hn (by rw [← h1, ← h2, e])
theorem lab_of {ro : Addr → Nat × Int} {a : Addr} {p : Nat × Int} (h1 : ro a = p) (h : p.1 < 8) : lab ro a := by unfold lab; rw [h1]; exact h
theorem EdgeW.at {a : Addr} {x : Int} (e : EdgeW prog w h a x) (k : ∀ o, h.get? a = some o → h'.get? a = some o) : EdgeW prog w h' a x := let ⟨ks, af, r, q⟩ := e; ⟨ks, af, r.at k, q⟩
theorem GSt.dep : Dep (lab ro) (GSt prog w hB C di y ro) := fun h h' k x =>
  { x with
    ins := x.ins.at fun b o q => k b o (q.elim (fun z => z ▸ lab_of x.rg (by decide)) fun z => z ▸ lab_of x.rx (by decide))
    nd := x.nd.at fun o => k _ o (lab_of x.rn (by decide))
    adj := x.adj.at fun o => k _ o (lab_of x.ra (by decide))
    inn := fun u hu => (x.inn u hu).at fun o => k _ o (lab_of (x.ri u hu) (by show 5 < 8; decide))
    ed := fun u hu v hv => (x.ed u hu v hv).at fun o => k _ o (lab_of (x.re u hu v hv) (by decide))
    prd := fun d => (x.prd d).at fun o => k _ o (lab_of (x.rp d) (by decide))
    pin := fun d u hu => (x.pin d u hu).at fun o => k _ o (lab_of (x.rq d u hu) (by show 6 < 8; decide))
    st := fun b hb => let ⟨s, o, e⟩ := x.st b hb; ⟨s, o, k b o hb e⟩ }
theorem GSt.keep (x : GSt prog w hB C di y ro h) (k : Keep h h') : GSt prog w hB C di y ro h' := GSt.dep h h' (fun b o _ e => k b o e) x
theorem GSt.nlab (x : GSt prog w hB C di y ro h) {b : Addr} (hb : h.objs.size ≤ b) : ¬ lab ro b := fun q => let ⟨_, _, e⟩ := x.st b q; Nat.not_lt.mpr hb (Heap.lt_size e)
theorem RowK.ex {K : Type} [DecidableEq K] {knd : KeyKind prog w K} {α : Type} {R : Value → α → Prop} {d : Addr} {ks : List K} {f : K → α} (x : RowK knd R h d ks f) : ∃ o, h.get? d = some o := let ⟨_, _, ⟨o, _, _, ho, _⟩, _⟩ := x; ⟨o, ho⟩
/-- a new object gets a role -/
theorem GSt.role (x : GSt prog w hB C di y ro h) (k : Keep h h') {a : Addr} (ha : h.objs.size ≤ a) (hB' : hB.objs.size ≤ h.objs.size) (e : ∃ o, h'.get? a = some o) (r : Nat × Int) : GSt prog w hB C di y (upd ro a r) h' := by
  have hn : ∀ {b p}, ro b = p → p.1 < 8 → upd ro a r b = p := fun {b p} hp hl => by
    have : b ≠ a := fun q => x.nlab ha (q ▸ lab_of hp hl)
    rw [upd, if_neg this]; exact hp
  have x' := x.keep k
  exact { x' with
    rg := hn x.rg (by decide)
    rx := hn x.rx (by decide)
    rn := hn x.rn (by decide)
    ra := hn x.ra (by decide)
    rp := fun d => hn (x.rp d) (by decide)
    ri := fun u hu => hn (x.ri u hu) (by show 5 < 8; decide)
    rq := fun d u hu => hn (x.rq d u hu) (by show 6 < 8; decide)
    re := fun u hu v hv => hn (x.re u hu v hv) (by decide)
    st := fun b hb => by
      by_cases q : b = a
      · subst q; exact ⟨Nat.le_trans hB' ha, e⟩
      · have : lab ro b := by unfold lab at hb ⊢; rw [upd, if_neg q] at hb; exact hb
        exact x'.st b this }
/-- one labelled dict is changed -/
theorem GSt.oth (x : GSt prog w hB C di y ro h) {a : Addr} (sb : Heap.SameBut a h h') (e : ∃ o, h'.get? a = some o) : ∀ b, lab ro b → hB.objs.size ≤ b ∧ ∃ o, h'.get? b = some o := fun b hb => by
  obtain ⟨s, o, q⟩ := x.st b hb
  by_cases z : b = a
  · subst z; exact ⟨s, e⟩
  · exact ⟨s, o, sb.extBut _ _ z q⟩
theorem GSt.set_nd {v : Int} {a : Addr} (x : GSt prog w hB C di y ro h) (r : Row prog w RR h' y.nd (addk y.Nn v) (upd y.na v a)) (sb : Heap.SameBut y.nd h h') : GSt prog w hB C di { y with Nn := addk y.Nn v, na := upd y.na v a } ro h' := by
  have o {b p} (hp : ro b = p) (hn : p ≠ (2, 0)) : ∀ o, h.get? b = some o → h'.get? b = some o := fun o e => sb.extBut _ _ (ne_ro hp x.rn hn) e
  exact { x with
    ins := x.ins.at fun b ob q => q.elim (fun z => z ▸ o x.rg (by decide) ob) fun z => z ▸ o x.rx (by decide) ob
    nd := r
    adj := x.adj.at (o x.ra (by decide))
    inn := fun u hu => (x.inn u hu).at (o (x.ri u hu) (by simp))
    ed := fun u hu v hv => (x.ed u hu v hv).at (o (x.re u hu v hv) (by decide))
    prd := fun d => (x.prd d).at (o (x.rp d) (by decide))
    pin := fun d u hu => (x.pin d u hu).at (o (x.rq d u hu) (by simp))
    st := x.oth sb r.ex }
theorem GSt.set_adj {v : Int} {a : Addr} (x : GSt prog w hB C di y ro h) (hs : (a == sysModules) = false) (hv : v ∉ y.Na) (ha : ro a = (5, v)) (e : h.get? a = some emptyDict) (r : Row prog w RR h' y.adj (addk y.Na v) (upd y.inn v a)) (sb : Heap.SameBut y.adj h h') :
    GSt prog w hB C di { y with Na := addk y.Na v, inn := upd y.inn v a, nbr := upd y.nbr v [] } ro h' := by
  have o {b p} (hp : ro b = p) (hn : p ≠ (3, 0)) : ∀ o, h.get? b = some o → h'.get? b = some o := fun o e => sb.extBut _ _ (ne_ro hp x.ra hn) e
  have hmem : ∀ u, u ∈ addk y.Na v → (u ∈ y.Na ∧ u ≠ v) ∨ u = v := fun u hu => (addk_mem.mp hu).elim (fun z => .inl ⟨z, fun q => hv (q ▸ z)⟩) .inr
  exact { x with
    ins := x.ins.at fun b ob q => q.elim (fun z => z ▸ o x.rg (by decide) ob) fun z => z ▸ o x.rx (by decide) ob
    nd := x.nd.at (o x.rn (by decide))
    adj := r
    inn := fun u hu => by
      rcases hmem u hu with ⟨q, n⟩ | rfl
      · simp only [upd, if_neg n]; exact (x.inn u q).at (o (x.ri u q) (by simp))
      · simp only [upd, if_pos]; exact RowK.none (o ha (by simp) _ e) hs
    ed := fun u hu v' hv' => by
      rcases hmem u hu with ⟨q, n⟩ | rfl
      · simp only [upd, if_neg n] at hv'; exact (x.ed u q v' hv').at (o (x.re u q v' hv') (by decide))
      · simp [upd] at hv'
    prd := fun d => (x.prd d).at (o (x.rp d) (by decide))
    pin := fun d u hu => (x.pin d u hu).at (o (x.rq d u hu) (by simp))
    ri := fun u hu => by
      rcases hmem u hu with ⟨q, n⟩ | rfl
      · simp only [upd, if_neg n]; exact x.ri u q
      · simp only [upd, if_pos]; exact ha
    re := fun u hu v' hv' => by
      rcases hmem u hu with ⟨q, n⟩ | rfl
      · simp only [upd, if_neg n] at hv'; exact x.re u q v' hv'
      · simp [upd] at hv'
    st := x.oth sb r.ex }
theorem GSt.set_prd {v : Int} {a : Addr} (x : GSt prog w hB C true y ro h) (hs : (a == sysModules) = false) (hv : v ∉ y.Np) (ha : ro a = (6, v)) (e : h.get? a = some emptyDict) (r : Row prog w RR h' y.prd (addk y.Np v) (upd y.pin v a)) (sb : Heap.SameBut y.prd h h') :
    GSt prog w hB C true { y with Np := addk y.Np v, pin := upd y.pin v a, pnb := upd y.pnb v [] } ro h' := by
  have o {b p} (hp : ro b = p) (hn : p ≠ (4, 0)) : ∀ o, h.get? b = some o → h'.get? b = some o := fun o e => sb.extBut _ _ (ne_ro hp (x.rp rfl) hn) e
  have hmem : ∀ u, u ∈ addk y.Np v → (u ∈ y.Np ∧ u ≠ v) ∨ u = v := fun u hu => (addk_mem.mp hu).elim (fun z => .inl ⟨z, fun q => hv (q ▸ z)⟩) .inr
  exact { x with
    ins := x.ins.at fun b ob q => q.elim (fun z => z ▸ o x.rg (by decide) ob) fun z => z ▸ o x.rx (by decide) ob
    nd := x.nd.at (o x.rn (by decide))
    adj := x.adj.at (o x.ra (by decide))
    inn := fun u hu => (x.inn u hu).at (o (x.ri u hu) (by simp))
    ed := fun u hu v hv => (x.ed u hu v hv).at (o (x.re u hu v hv) (by decide))
    prd := fun _ => r
    pin := fun _ u hu => by
      rcases hmem u hu with ⟨q, n⟩ | rfl
      · simp only [upd, if_neg n]; exact (x.pin rfl u q).at (o (x.rq rfl u q) (by simp))
      · simp only [upd, if_pos]; exact RowK.none (o ha (by simp) _ e) hs
    rq := fun _ u hu => by
      rcases hmem u hu with ⟨q, n⟩ | rfl
      · simp only [upd, if_neg n]; exact x.rq rfl u q
      · simp only [upd, if_pos]; exact ha
    st := x.oth sb r.ex }
/-- an edge goes into the row of u -/
theorem GSt.set_inn {u v : Int} {a : Addr} {z : Int} (x : GSt prog w hB C di y ro h) (hu : u ∈ y.Na) (ha : ro a = (7, 0)) (e : EdgeW prog w h a z) (r : Row prog w RR h' (y.inn u) (addk (y.nbr u) v) (upd (y.ea u) v a)) (sb : Heap.SameBut (y.inn u) h h') :
    GSt prog w hB C di { y with nbr := upd y.nbr u (addk (y.nbr u) v), ea := upd y.ea u (upd (y.ea u) v a), wt := upd y.wt u (upd (y.wt u) v z) } ro h' := by
  have o {b p} (hp : ro b = p) (hn : p ≠ (5, u)) : ∀ o, h.get? b = some o → h'.get? b = some o := fun o e => sb.extBut _ _ (ne_ro hp (x.ri u hu) hn) e
  exact { x with
    ins := x.ins.at fun b ob q => q.elim (fun z => z ▸ o x.rg (by simp) ob) fun z => z ▸ o x.rx (by simp) ob
    nd := x.nd.at (o x.rn (by simp))
    adj := x.adj.at (o x.ra (by simp))
    inn := fun i hi => by
      by_cases q : i = u
      · subst q; simp only [upd, if_pos]; exact r
      · simp only [upd, if_neg q]; exact (x.inn i hi).at (o (x.ri i hi) (by simpa using q))
    ed := fun i hi j hj => by
      by_cases q : i = u
      · subst q
        simp only [upd, if_pos] at hj ⊢
        by_cases q2 : j = v
        · rw [if_pos q2, if_pos q2]; exact e.at (o ha (by simp))
        · rw [if_neg q2, if_neg q2]
          have hj' : j ∈ y.nbr i := (addk_mem.mp hj).resolve_right q2
          exact (x.ed i hi j hj').at (o (x.re i hi j hj') (by simp))
      · simp only [upd, if_neg q] at hj ⊢; exact (x.ed i hi j hj).at (o (x.re i hi j hj) (by simp))
    prd := fun d => (x.prd d).at (o (x.rp d) (by simp))
    pin := fun d u hu => (x.pin d u hu).at (o (x.rq d u hu) (by simp))
    re := fun i hi j hj => by
      by_cases q : i = u
      · subst q
        simp only [upd, if_pos] at hj ⊢
        by_cases q2 : j = v
        · rw [if_pos q2]; exact ha
        · rw [if_neg q2]; exact x.re i hi j ((addk_mem.mp hj).resolve_right q2)
      · simp only [upd, if_neg q] at hj ⊢; exact x.re i hi j hj
    st := x.oth sb r.ex }
theorem GSt.set_pin {u v : Int} {a : Addr} (x : GSt prog w hB C true y ro h) (hu : u ∈ y.Np) (r : Row prog w RR h' (y.pin u) (addk (y.pnb u) v) (upd (y.pea u) v a)) (sb : Heap.SameBut (y.pin u) h h') :
    GSt prog w hB C true { y with pnb := upd y.pnb u (addk (y.pnb u) v), pea := upd y.pea u (upd (y.pea u) v a) } ro h' := by
  have o {b p} (hp : ro b = p) (hn : p ≠ (6, u)) : ∀ o, h.get? b = some o → h'.get? b = some o := fun o e => sb.extBut _ _ (ne_ro hp (x.rq rfl u hu) hn) e
  exact { x with
    ins := x.ins.at fun b ob q => q.elim (fun z => z ▸ o x.rg (by simp) ob) fun z => z ▸ o x.rx (by simp) ob
    nd := x.nd.at (o x.rn (by simp))
    adj := x.adj.at (o x.ra (by simp))
    inn := fun i hi => (x.inn i hi).at (o (x.ri i hi) (by simp))
    ed := fun i hi j hj => (x.ed i hi j hj).at (o (x.re i hi j hj) (by simp))
    prd := fun d => (x.prd d).at (o (x.rp d) (by simp))
    pin := fun _ i hi => by
      by_cases q : i = u
      · subst q; simp only [upd, if_pos]; exact r
      · simp only [upd, if_neg q]; exact (x.pin rfl i hi).at (o (x.rq rfl i hi) (by simpa using q))
    st := x.oth sb r.ex }
end
end Mine
end
section
open PySem PySem.W PyProof.Rows PySem.Calls
set_option maxRecDepth 100000
namespace Mine
local macro_rules | `(tactic| walk_at "mem") => `(tactic| with_reducible (first | exact List.mem_cons_self | (refine List.mem_cons_of_mem _ ?_; walk_at "mem")))
structure GB (hB : Heap) (K : Frag) (C : Addr) (fs : List (Str × Addr)) : Prop where
  G : Gl hB
  X : K.In hB
  O : ClsOk K C fs gown
  T : Facs hB fs
def ro5 (di : Bool) (g dx nd adj prd : Addr) : Addr → Nat × Int := fun b => if b = g then (0, 0) else if b = dx then (1, 0) else if b = nd then (2, 0) else if b = adj then (3, 0) else if di = true ∧ b = prd then (4, 0) else (9, 0)
section
variable {prog : Program} {w : World} {A : Around} {c : Cst} {h hB : Heap} {t : Nat} {K : Frag} {C : Addr} {fs : List (Str × Addr)}
theorem gst0 {di : Bool} {h' : Heap} {g dx nd adj prd : Addr} {es : List DictEntry} {n : Nat} (hs : ∀ a, hB.objs.size ≤ a → (a == sysModules) = false) (h1 : hB.objs.size ≤ dx) (h2 : dx < g) (h3 : g < nd) (h4 : nd < adj) (h5 : di = true → adj < prd)
    (I : Ins h' g C dx es n) (e1 : getL "_node" es = some (some (.ref nd))) (e2 : getL "_adj" es = some (some (.ref adj))) (e3 : di = true → getL "_succ" es = some (some (.ref adj)) ∧ getL "_pred" es = some (some (.ref prd))) (e4 : ∀ x : Str, x ∉ gown → getL x es = some none)
    (o1 : h'.get? nd = some emptyDict) (o2 : h'.get? adj = some emptyDict) (o3 : di = true → h'.get? prd = some emptyDict) :
    GSt prog w hB C di ⟨g, dx, nd, adj, prd, es, n, [], [], [], fun _ => 0, fun _ => 0, fun _ => 0, fun _ => [], fun _ => [], fun _ _ => 0, fun _ _ => 0, fun _ _ => 0⟩ (ro5 di g dx nd adj prd) h' := by
  have n1 : dx ≠ g := Nat.ne_of_lt h2
  have n2 : nd ≠ g := Nat.ne_of_gt h3
  have n3 : nd ≠ dx := Nat.ne_of_gt (Nat.lt_trans h2 h3)
  have n4 : adj ≠ g := Nat.ne_of_gt (Nat.lt_trans h3 h4)
  have n5 : adj ≠ dx := Nat.ne_of_gt (Nat.lt_trans h2 (Nat.lt_trans h3 h4))
  have n6 : adj ≠ nd := Nat.ne_of_gt h4
  have l1 : hB.objs.size ≤ g := Nat.le_trans h1 (Nat.le_of_lt h2)
  have l2 : hB.objs.size ≤ nd := Nat.le_trans l1 (Nat.le_of_lt h3)
  have l3 : hB.objs.size ≤ adj := Nat.le_trans l2 (Nat.le_of_lt h4)
  have l4 : di = true → hB.objs.size ≤ prd := fun d => Nat.le_trans l3 (Nat.le_of_lt (h5 d))
  exact {
    ins := I
    e1 := e1
    e2 := e2
    e3 := e3
    e4 := e4
    nd := RowK.none o1 (hs _ l2)
    adj := RowK.none o2 (hs _ l3)
    inn := fun u hu => (nomatch hu)
    ed := fun u hu => (nomatch hu)
    prd := fun d => RowK.none (o3 d) (hs _ (l4 d))
    pin := fun _ u hu => (nomatch hu)
    rg := by simp [ro5]
    rx := by simp [ro5, n1]
    rn := by simp [ro5, n2, n3]
    ra := by simp [ro5, n4, n5, n6]
    rp := fun d => by
      have m1 : prd ≠ adj := Nat.ne_of_gt (h5 d)
      have m2 : prd ≠ nd := Nat.ne_of_gt (Nat.lt_trans h4 (h5 d))
      have m3 : prd ≠ g := Nat.ne_of_gt (Nat.lt_trans h3 (Nat.lt_trans h4 (h5 d)))
      have m4 : prd ≠ dx := Nat.ne_of_gt (Nat.lt_trans h2 (Nat.lt_trans h3 (Nat.lt_trans h4 (h5 d))))
      simp [ro5, m1, m2, m3, m4, d]
    ri := fun u hu => (nomatch hu)
    rq := fun _ u hu => (nomatch hu)
    re := fun u hu => (nomatch hu)
    st := fun b hb => by
      unfold lab ro5 at hb
      split at hb
      · rename_i q; exact q ▸ ⟨l1, _, I.ob⟩
      · split at hb
        · rename_i q; exact q ▸ ⟨h1, _, I.di⟩
        · split at hb
          · rename_i q; exact q ▸ ⟨l2, _, o1⟩
          · split at hb
            · rename_i q; exact q ▸ ⟨l3, _, o2⟩
            · split at hb
              · rename_i q; exact q.2 ▸ ⟨l4 q.1, _, o3 q.1⟩
              · exact absurd hb (by decide) }
theorem ro5_low {di : Bool} {g dx nd adj prd : Addr} {m : Nat} (h1 : m ≤ dx) (h2 : dx < g) (h3 : g < nd) (h4 : nd < adj) (h5 : di = true → adj < prd) : ∀ b, lab (ro5 di g dx nd adj prd) b → m ≤ b := fun b hb => by
  have h1 := nle h1
  have h2 := nlt h2
  have h3 := nlt h3
  have h4 := nlt h4
  unfold lab ro5 at hb
  split at hb
  · rename_i q; subst q; omega
  · split at hb
    · rename_i q; subst q; omega
    · split at hb
      · rename_i q; subst q; omega
      · split at hb
        · rename_i q; subst q; omega
        · split at hb
          · rename_i q; have := nlt (h5 q.1); rw [q.2]; omega
          · exact absurd hb (by decide)

/-- Graph() -/
theorem make_G {f dt : Addr} {cd : Value} {Q : Value → Shared → Prop} (B : GB hB K C fs) (hi : (("__init__" : Str), f) ∈ fs) (hf : FnAt hB f (SM 23 6) "Graph.__init__" (.ref dt) cd) (hdt : ∃ o n, hB.get? dt = some o ∧ o.data = .seq #[.none] n)
    (hroom : A.depth + 10 < recursionLimit) (k0 : Keep hB h) (hsz : hB.objs.size ≤ h.objs.size)
    (hQ : ∀ h' t' y ro, GSt prog w hB C false y ro h' → Keep h h' → (∀ b, lab ro b → h.objs.size ≤ b) → y.Nn = [] → y.Na = [] → (∀ u, y.nbr u = []) → Q (.ref y.g) (mk c h' t')) :
    wpAny (model prog w) A (call (.ref C) []) Q NE (mk c h t) := by
  have X := B.X.keeps k0
  have hlow : ∀ a, hB.objs.size ≤ a → (a == sysModules) = false := fun a ha => by simpa using Nat.ne_of_gt (Nat.lt_of_lt_of_le B.G.low ha)
  have s1 : (h.push emptyDict).objs.size = h.objs.size + 1 := Heap.size_push ..
  have k1 : Keep h ((h.push emptyDict).push (instObj C h.objs.size)) := (Keep.push _ _).trans (Keep.push _ _)
  refine wpAny_call (make_core (makes_of X B.O.mks) (looks_findIn X (B.O.fs _ hi).1) (fun self => bind_fn X self (B.O.fs _ hi).2) (.inl rfl) ?_)
  refine init_G (c := c) (t := t) B.G B.X B.O B.T hf hdt ?_ (k0.trans k1) hsz ⟨?_, Heap.get?_push_of_some _ (Heap.get?_push_size _ rfl)⟩ (Nat.lt_succ_self _) fun h' t' nd adj es n ko I e1 e2 e3 e4 z1 z2 o1 o2 => ⟨rfl, ?_⟩
  · show A.depth + _ + 1 < _
    have : (Code.builtin "type.__call__" ⟨[.ref C], []⟩).weight ≤ 5 := by
      show _ ≤ 5
      exact of_decide_eq_true (by rfl)
    omega
  · have := Heap.get?_push_size (h.push emptyDict) (o := instObj C h.objs.size) rfl
    rwa [s1] at this
  · have z1 : h.objs.size + 1 < nd := by
      have := nle z1; rw [Heap.size_push, s1] at this; omega
    refine hQ h' t' _ _ (gst0 (di := false) (prd := 0) hlow hsz (Nat.lt_succ_self _) z1 z2 (fun d => nomatch d) I e1 e2 (fun d => nomatch d) e4 o1 o2 fun d => nomatch d) (fun b o e => ko b o (Nat.ne_of_lt (Heap.lt_size e)) (k1 b o e)) (ro5_low (Nat.le_refl _) (Nat.lt_succ_self _) z1 z2 fun d => nomatch d) rfl rfl fun _ => rfl
/-- DiGraph() -/
theorem make_D {f dt : Addr} {cd : Value} {Q : Value → Shared → Prop} (B : GB hB K C fs) (hi : (("__init__" : Str), f) ∈ fs) (hf : FnAt hB f (SM 25 0) "DiGraph.__init__" (.ref dt) cd) (hdt : ∃ o n, hB.get? dt = some o ∧ o.data = .seq #[.none] n)
    (hroom : A.depth + 10 < recursionLimit) (k0 : Keep hB h) (hsz : hB.objs.size ≤ h.objs.size)
    (hQ : ∀ h' t' y ro, GSt prog w hB C true y ro h' → Keep h h' → (∀ b, lab ro b → h.objs.size ≤ b) → y.Nn = [] → y.Na = [] → y.Np = [] → (∀ u, y.nbr u = []) → (∀ u, y.pnb u = []) → Q (.ref y.g) (mk c h' t')) :
    wpAny (model prog w) A (call (.ref C) []) Q NE (mk c h t) := by
  have X := B.X.keeps k0
  have hlow : ∀ a, hB.objs.size ≤ a → (a == sysModules) = false := fun a ha => by simpa using Nat.ne_of_gt (Nat.lt_of_lt_of_le B.G.low ha)
  have s1 : (h.push emptyDict).objs.size = h.objs.size + 1 := Heap.size_push ..
  have k1 : Keep h ((h.push emptyDict).push (instObj C h.objs.size)) := (Keep.push _ _).trans (Keep.push _ _)
  refine wpAny_call (make_core (makes_of X B.O.mks) (looks_findIn X (B.O.fs _ hi).1) (fun self => bind_fn X self (B.O.fs _ hi).2) (.inl rfl) ?_)
  refine init_D (c := c) (t := t) B.G B.X B.O B.T hf hdt ?_ (k0.trans k1) hsz ⟨?_, Heap.get?_push_of_some _ (Heap.get?_push_size _ rfl)⟩ (Nat.lt_succ_self _) fun h' t' nd adj prd es n ko I e1 e2 e5 e6 e3 e4 z1 z2 z3 o1 o2 o3 => ⟨rfl, ?_⟩
  · show A.depth + _ + 1 < _
    have : (Code.builtin "type.__call__" ⟨[.ref C], []⟩).weight ≤ 5 := by
      show _ ≤ 5
      exact of_decide_eq_true (by rfl)
    omega
  · have := Heap.get?_push_size (h.push emptyDict) (o := instObj C h.objs.size) rfl
    rwa [s1] at this
  · have z1 : h.objs.size + 1 < nd := by
      have := nle z1; rw [Heap.size_push, s1] at this; omega
    refine hQ h' t' _ _ (gst0 (di := true) hlow hsz (Nat.lt_succ_self _) z1 z2 (fun _ => z3) I e1 e2 (fun _ => ⟨e5, e6⟩) e4 o1 o2 fun _ => o3) (fun b o e => ko b o (Nat.ne_of_lt (Heap.lt_size e)) (k1 b o e)) (ro5_low (Nat.le_refl _) (Nat.lt_succ_self _) z1 z2 fun _ => z3) rfl rfl rfl (fun _ => rfl) fun _ => rfl
end
end Mine
end
section
open PySem PySem.W PyProof.Rows PySem.Calls
set_option maxRecDepth 100000
namespace Mine
local macro_rules | `(tactic| walk_at "mem") => `(tactic| with_reducible (first | exact List.mem_cons_self | (refine List.mem_cons_of_mem _ ?_; walk_at "mem")))
section
variable {M : Model} {A : Around} {E : Value → Shared → Prop} {s : Shared} {env : Env}
theorem assign_sub {o i : Expr} {p' : Pos} {v : Value} {Q : Unit → Shared → Prop}
    (h : wpAny M A (eval o env) (fun ov s₂ => wpAny M A (eval i env) (fun iv s₃ => wpAny M A (setItem ov iv v) Q E s₃) E s₂) E s) : wpAny M A (assign (.Subscript o i p') env v) Q E s := kas_sub h
end
section
variable {prog : Program} {w : World} {A : Around} {c : Cst} {h hB : Heap} {t : Nat} {K : Frag} {C : Addr} {fs : List (Str × Addr)} {y : GD} {ro : Addr → Nat × Int}
theorem GB.low (B : GB hB K C fs) (a : Addr) (h : hB.objs.size ≤ a) : (a == sysModules) = false := by simpa using Nat.ne_of_gt (Nat.lt_of_lt_of_le B.G.low h)
theorem GSt.stb {di : Bool} {L : Addr} (x : ¬ lab ro L) : Stb L (GSt prog w hB C di y ro) := GSt.dep.stb x
theorem nlab_upd {a L : Addr} {r : Nat × Int} (x : ¬ lab ro L) (h : L ≠ a) : ¬ lab (upd ro a r) L := by unfold lab at x ⊢; rw [upd, if_neg h]; exact x
/-- Graph.add_node, a new node -/
theorem addn_G {f : Addr} {cd : Value} {v : Int} {tv : Tok} {Q : Value → Shared → Prop} (B : GB hB K C fs) (hf : FnAt hB f (SM 23 12) "Graph.add_node" .none cd) (hroom : A.depth + 3 < recursionLimit) (k0 : Keep hB h) (hsz : hB.objs.size ≤ h.objs.size) (x : GSt prog w hB C false y ro h) (hv1 : v ∉ y.Nn) (hv2 : v ∉ y.Na) (len1 : y.Nn.length ≤ 1000) (len2 : y.Na.length ≤ 1000)
    (hQ : ∀ h' t' a b ro', GSt prog w hB C false { y with Na := addk y.Na v, inn := upd y.inn v a, nbr := upd y.nbr v [], Nn := addk y.Nn v, na := upd y.na v b } ro' h' → KO (lab ro) h h' → (∀ b, b < h.objs.size → ro' b = ro b) → Q .none (mk c h' t')) :
    wpAny (model prog w) A (call (.ref f) [.ref y.g, .int v tv]) Q NE (mk c h t) := by
  refine wpAny_call (call_W (fun h₀ => h₀ = h.push emptyDict) (B.G.keep k0) (hf.keep k0) (by omega) (fun h₀ e => e ▸ Keep.push _ _) (fun pm Q' E' k => bind0 (b1 := [("self", .ref y.g), ("node_for_adding", .int v tv)]) (x := "attr") (by rfl) k)
    [("self", some (.ref y.g)), ("node_for_adding", some (.int v tv)), ("attr", some (.ref h.objs.size)), ("attr_dict", none)] ?_)
  rintro _ rfl h1 t1 F
  have kp : Keep h (h.push emptyDict) := Keep.push _ _
  have sz0 : (h.push emptyDict).objs.size = h.objs.size + 1 := Heap.size_push ..
  have F0 := F.rebase (k0.trans kp) (by omega)
  generalize hL : (h.push emptyDict).objs.size = L at F F0
  rw [sz0] at hL
  have a1 : h1.get? h.objs.size = some emptyDict := F.keep _ _ (Heap.get?_push_size _ rfl)
  have x1 : GSt prog w hB C false y ro h1 := x.keep (kp.trans F.keep)
  have hnl : ¬ lab ro L := x.nlab (by omega)
  have F1 := F0.say (P' := GSt prog w hB C false y ro) x1 (GSt.stb hnl)
  have ko1 : KO (lab ro) h h1 := (kp.trans F.keep).ko
  have zL := nlt (show L < h1.objs.size from F1.loc.lt)
  have hroom' : (A.deeper (envAt (SM 23 12) "Graph.add_node" cd L f)).depth < recursionLimit := by show A.depth + 1 < _; omega
  refine wpAny_execs_cons (wpAny_If (wpAny_isTrue_Compare1 (nm F1 (by walk_at "mem") (Attribute_Name_ (nm F1 (by walk_at "mem") (g_attr (B.X.keeps F1.keep) B.O x1.ins (by decide) x1.e1 (row_notin x1.nd fun t2 => wpAny_truthy_bool ?_)))))))
  rw [if_pos (by simpa using hv1)]
  refine wpAny_execs_cons (wpAny_If (wpAny_isTrue_Compare1 (nm F1 (by walk_at "mem") (wpAny_Constant_none (is_int_none (wpAny_truthy_bool ?_))))))
  rw [if_neg (by decide)]
  refine wpAny_execs_nil (wpAny_execs_cons (wpAny_Assign_Subscript (MethodCall_ (nm F1 (by walk_at "mem") (self_fac F1 B.X B.O x1.ins B.T B.G hroom' 3 (by decide) (x1.e4 _ (by decide)) fun h2 t3 a k2 s2 e2 => ?_)))))
  have x2 : GSt prog w hB C false y (upd ro a (5, v)) h2 := x1.role k2 s2 (by omega) ⟨_, e2⟩ _
  have s2' := nle s2
  have z2 := nlt (Heap.lt_size e2)
  have hnl2 : ¬ lab (upd ro a (5, v)) L := nlab_upd hnl (show @Ne Nat L a by omega)
  have F2 := (F1.ext k2).say x2 (GSt.stb hnl2)
  have hadj := x2.st _ (lab_of x2.ra (by decide))
  have adjL : y.adj ≠ L := fun q => hnl2 (q ▸ lab_of x2.ra (by decide))
  refine Attribute_Name_ (nm F2 (by walk_at "mem") (g_attr (B.X.keeps F2.keep) B.O x2.ins (by decide) x2.e2 (nm F2 (by walk_at "mem") (row_set x2.adj (show RR (.ref a) a from rfl) (by omega) fun h3 t4 r3 sb3 => ?_))))
  have x3 := x2.set_adj (B.low a (by omega)) hv2 (by simp [upd]) e2 r3 sb3
  have F3 := F2.upd hadj.1 adjL sb3.extBut x3 (GSt.stb hnl2)
  have ko3 := (ko1.trans k2.ko).but sb3 (lab_of x.ra (by decide))
  refine wpAny_execs_cons (wpAny_Assign_two (MethodCall_ (nm F3 (by walk_at "mem") (self_fac F3 B.X B.O x3.ins B.T B.G hroom' 1 (by decide) (x3.e4 _ (by decide)) fun h4 t5 b k4 s4 e4 => ?_))))
  have z3 : h3.objs.size = h2.objs.size := sb3.1
  have s4' := nle s4
  have F4 := F3.ext k4
  refine wpAny_assign_Name (st3 F4 fun h5 t6 F5 sb5 => ?_)
  have x5 := F5.inv
  have e5 : h5.get? b = some emptyDict := sb5.extBut _ _ (show @Ne Nat b L by omega) e4
  have z5 : h5.objs.size = h4.objs.size := sb5.1
  have hnd := x5.st _ (lab_of x5.rn (by decide))
  have ndL : y.nd ≠ L := fun q => hnl2 (q ▸ lab_of x5.rn (by decide))
  refine assign_sub (Attribute_Name_ (nm F5 (by walk_at "mem") (g_attr (B.X.keeps F5.keep) B.O x5.ins (by decide) x5.e1 (nm F5 (by walk_at "mem") (row_set x5.nd (show RR (.ref b) b from rfl) (by show y.Nn.length ≤ _; omega) fun h6 t7 r6 sb6 => ?_)))))
  have x6 := x5.set_nd r6 sb6
  have F6 := F5.upd hnd.1 ndL sb6.extBut x6 (GSt.stb hnl2)
  have ko6 := ((ko3.trans k4.ko).ext sb5.extBut (show @LE.le Nat _ h.objs.size L by omega)).but sb6 (lab_of x.rn (by decide))
  have bnd : b ≠ y.nd := fun q => by
    obtain ⟨o, e⟩ := (x.st _ (lab_of x.rn (by decide))).2
    have := nlt (Heap.lt_size e)
    rw [← q] at this; omega
  have e6 : h6.get? b = some emptyDict := sb6.extBut _ _ bnd e5
  have a6 : h6.get? h.objs.size = some emptyDict := by
    have n1 : h.objs.size ≠ y.adj := fun q => by
      obtain ⟨o, e⟩ := (x.st _ (lab_of x.ra (by decide))).2
      exact Nat.lt_irrefl _ (q ▸ Heap.lt_size e)
    have n2 : h.objs.size ≠ y.nd := fun q => by
      obtain ⟨o, e⟩ := (x.st _ (lab_of x.rn (by decide))).2
      exact Nat.lt_irrefl _ (q ▸ Heap.lt_size e)
    exact sb6.extBut _ _ n2 (sb5.extBut _ _ (show @Ne Nat h.objs.size L by omega) (k4 _ _ (sb3.extBut _ _ n1 (k2 _ _ a1))))
  have rb : RowK (PySem.strKind prog w) RI h6 b [] fun _ => 0 := RowK.none e6 (B.low _ (by omega))
  have ra : RowK (PySem.strKind prog w) RI h6 h.objs.size [] fun _ => 0 := RowK.none a6 (B.low _ (by omega))
  refine wpAny_execs_cons (wpAny_Expr (MethodCall_ (nm F6 (by walk_at "mem") (getmk PySem.F.slot_dict_update PySem.F.type_dict_update rb (callWith_builtin rfl (evalArgs_plain (args_cons (nm F6 (by walk_at "mem") (args_nil
    (update0 rb ra (show @Ne Nat b h.objs.size by omega) (by decide) fun h8 r8 sb8 => ?_))))))))))
  have hbn : ¬ lab (upd ro a (5, v)) b := fun q => by
    obtain ⟨_, o, e⟩ := x3.st b q
    exact Nat.not_lt.mpr s4 (Heap.lt_size e)
  refine wpAny_execs_nil (wpAny_execs_nil (hQ h8 _ a b (upd ro a (5, v)) (GSt.dep h6 h8 (fun b' o q e => sb8.extBut _ _ (fun z => hbn (z ▸ q)) e) x6) (ko6.ext sb8.extBut (by omega)) fun b' hb' => ?_))
  rw [upd, if_neg (show @Ne Nat b' a by have := nlt hb'; omega)]
end
end Mine
end
section
open PySem PySem.W PyProof.Rows PySem.Calls
set_option maxRecDepth 100000
namespace Mine
local macro_rules | `(tactic| walk_at "mem") => `(tactic| with_reducible (first | exact List.mem_cons_self | (refine List.mem_cons_of_mem _ ?_; walk_at "mem")))
section
variable {prog : Program} {w : World} {A : Around} {c : Cst} {h hB : Heap} {t : Nat} {K : Frag} {C : Addr} {fs : List (Str × Addr)} {y : GD} {ro : Addr → Nat × Int}
/-- DiGraph.add_node, a new node -/
theorem addn_D {f : Addr} {cd : Value} {v : Int} {tv : Tok} {Q : Value → Shared → Prop} (B : GB hB K C fs) (hf : FnAt hB f (SM 25 4) "DiGraph.add_node" .none cd) (hroom : A.depth + 3 < recursionLimit) (k0 : Keep hB h) (hsz : hB.objs.size ≤ h.objs.size) (x : GSt prog w hB C true y ro h) (hv1 : v ∉ y.Nn) (hv2 : v ∉ y.Na) (hv3 : v ∉ y.Np) (len1 : y.Nn.length ≤ 1000) (len2 : y.Na.length ≤ 1000) (len3 : y.Np.length ≤ 1000)
    (hQ : ∀ h' t' a a' b ro', GSt prog w hB C true { y with Na := addk y.Na v, inn := upd y.inn v a, nbr := upd y.nbr v [], Np := addk y.Np v, pin := upd y.pin v a', pnb := upd y.pnb v [], Nn := addk y.Nn v, na := upd y.na v b } ro' h' → KO (lab ro) h h' → (∀ b, b < h.objs.size → ro' b = ro b) → Q .none (mk c h' t')) :
    wpAny (model prog w) A (call (.ref f) [.ref y.g, .int v tv]) Q NE (mk c h t) := by
  refine wpAny_call (call_W (fun h₀ => h₀ = h.push emptyDict) (B.G.keep k0) (hf.keep k0) (by omega) (fun h₀ e => e ▸ Keep.push _ _) (fun pm Q' E' k => bind0 (b1 := [("self", .ref y.g), ("node_for_adding", .int v tv)]) (x := "attr") (by rfl) k)
    [("self", some (.ref y.g)), ("node_for_adding", some (.int v tv)), ("attr", some (.ref h.objs.size)), ("attr_dict", none)] ?_)
  rintro _ rfl h1 t1 F
  have kp : Keep h (h.push emptyDict) := Keep.push _ _
  have sz0 : (h.push emptyDict).objs.size = h.objs.size + 1 := Heap.size_push ..
  have F0 := F.rebase (k0.trans kp) (by omega)
  generalize hL : (h.push emptyDict).objs.size = L at F F0
  rw [sz0] at hL
  have a1 : h1.get? h.objs.size = some emptyDict := F.keep _ _ (Heap.get?_push_size _ rfl)
  have x1 : GSt prog w hB C true y ro h1 := x.keep (kp.trans F.keep)
  have hnl : ¬ lab ro L := x.nlab (by omega)
  have F1 := F0.say (P' := GSt prog w hB C true y ro) x1 (GSt.stb hnl)
  have ko1 : KO (lab ro) h h1 := (kp.trans F.keep).ko
  have zL := nlt (show L < h1.objs.size from F1.loc.lt)
  have hroom' : (A.deeper (envAt (SM 25 4) "DiGraph.add_node" cd L f)).depth < recursionLimit := by show A.depth + 1 < _; omega
  refine wpAny_execs_cons (wpAny_If (wpAny_isTrue_Compare1 (nm F1 (by walk_at "mem") (Attribute_Name_ (nm F1 (by walk_at "mem") (g_attr (B.X.keeps F1.keep) B.O x1.ins (by decide) (x1.e3 rfl).1 (row_notin x1.adj fun t2 => wpAny_truthy_bool ?_)))))))
  rw [if_pos (by simpa using hv2)]
  refine wpAny_execs_cons (wpAny_If (wpAny_isTrue_Compare1 (nm F1 (by walk_at "mem") (wpAny_Constant_none (is_int_none (wpAny_truthy_bool ?_))))))
  rw [if_neg (by decide)]
  refine wpAny_execs_nil (wpAny_execs_cons (wpAny_Assign_Subscript (MethodCall_ (nm F1 (by walk_at "mem") (self_fac F1 B.X B.O x1.ins B.T B.G hroom' 3 (by decide) (x1.e4 _ (by decide)) fun h2 t3 a k2 s2 e2 => ?_)))))
  have x2 : GSt prog w hB C true y (upd ro a (5, v)) h2 := x1.role k2 s2 (by omega) ⟨_, e2⟩ _
  have s2' := nle s2
  have z2 := nlt (Heap.lt_size e2)
  have hnl2 : ¬ lab (upd ro a (5, v)) L := nlab_upd hnl (show @Ne Nat L a by omega)
  have F2 := (F1.ext k2).say x2 (GSt.stb hnl2)
  have hadj := x2.st _ (lab_of x2.ra (by decide))
  have adjL : y.adj ≠ L := fun q => hnl2 (q ▸ lab_of x2.ra (by decide))
  refine Attribute_Name_ (nm F2 (by walk_at "mem") (g_attr (B.X.keeps F2.keep) B.O x2.ins (by decide) (x2.e3 rfl).1 (nm F2 (by walk_at "mem") (row_set x2.adj (show RR (.ref a) a from rfl) (by omega) fun h3 t4 r3 sb3 => ?_))))
  have x3 := x2.set_adj (B.low a (by omega)) hv2 (by simp [upd]) e2 r3 sb3
  have F3 := F2.upd hadj.1 adjL sb3.extBut x3 (GSt.stb hnl2)
  have ko3 := (ko1.trans k2.ko).but sb3 (lab_of x.ra (by decide))
  have z3 : h3.objs.size = h2.objs.size := sb3.1
  refine wpAny_execs_cons (wpAny_Assign_Subscript (MethodCall_ (nm F3 (by walk_at "mem") (self_fac F3 B.X B.O x3.ins B.T B.G hroom' 3 (by decide) (x3.e4 _ (by decide)) fun hp tp a' kq sp ep => ?_))))
  have xp : GSt prog w hB C true _ (upd (upd ro a (5, v)) a' (6, v)) hp := x3.role kq sp (by omega) ⟨_, ep⟩ _
  have sp' := nle sp
  have zp := nlt (Heap.lt_size ep)
  have hnlp : ¬ lab (upd (upd ro a (5, v)) a' (6, v)) L := nlab_upd hnl2 (show @Ne Nat L a' by omega)
  have Fp := (F3.ext kq).say xp (GSt.stb hnlp)
  have hprd := xp.st _ (lab_of (xp.rp rfl) (by decide))
  have prdL : y.prd ≠ L := fun q => hnlp (q ▸ lab_of (xp.rp rfl) (by decide))
  refine Attribute_Name_ (nm Fp (by walk_at "mem") (g_attr (B.X.keeps Fp.keep) B.O xp.ins (by decide) (xp.e3 rfl).2 (nm Fp (by walk_at "mem") (row_set (xp.prd rfl) (show RR (.ref a') a' from rfl) (by show y.Np.length ≤ _; omega) fun hq tq rq sbq => ?_))))
  have xq := xp.set_prd (B.low a' (by omega)) hv3 (by simp [upd]) ep rq sbq
  have Fq := Fp.upd hprd.1 prdL sbq.extBut xq (GSt.stb hnlp)
  have koq := (ko3.trans kq.ko).but sbq (lab_of (x.rp rfl) (by decide))
  have zq : hq.objs.size = hp.objs.size := sbq.1
  refine wpAny_execs_cons (wpAny_Assign_two (MethodCall_ (nm Fq (by walk_at "mem") (self_fac Fq B.X B.O xq.ins B.T B.G hroom' 1 (by decide) (xq.e4 _ (by decide)) fun h4 t5 b k4 s4 e4 => ?_))))
  have s4' := nle s4
  have F4 := Fq.ext k4
  refine wpAny_assign_Name (st3 F4 fun h5 t6 F5 sb5 => ?_)
  have x5 := F5.inv
  have e5 : h5.get? b = some emptyDict := sb5.extBut _ _ (show @Ne Nat b L by omega) e4
  have z5 : h5.objs.size = h4.objs.size := sb5.1
  have hnd := x5.st _ (lab_of x5.rn (by decide))
  have ndL : y.nd ≠ L := fun q => hnlp (q ▸ lab_of x5.rn (by decide))
  refine assign_sub (Attribute_Name_ (nm F5 (by walk_at "mem") (g_attr (B.X.keeps F5.keep) B.O x5.ins (by decide) x5.e1 (nm F5 (by walk_at "mem") (row_set x5.nd (show RR (.ref b) b from rfl) (by show y.Nn.length ≤ _; omega) fun h6 t7 r6 sb6 => ?_)))))
  have x6 := x5.set_nd r6 sb6
  have F6 := F5.upd hnd.1 ndL sb6.extBut x6 (GSt.stb hnlp)
  have ko6 := ((koq.trans k4.ko).ext sb5.extBut (show @LE.le Nat _ h.objs.size L by omega)).but sb6 (lab_of x.rn (by decide))
  have bnd : b ≠ y.nd := fun q => by
    obtain ⟨o, e⟩ := (x.st _ (lab_of x.rn (by decide))).2
    have := nlt (Heap.lt_size e)
    rw [← q] at this; omega
  have e6 : h6.get? b = some emptyDict := sb6.extBut _ _ bnd e5
  have a6 : h6.get? h.objs.size = some emptyDict := by
    have n1 : h.objs.size ≠ y.adj := fun q => by
      obtain ⟨o, e⟩ := (x.st _ (lab_of x.ra (by decide))).2
      exact Nat.lt_irrefl _ (q ▸ Heap.lt_size e)
    have n2 : h.objs.size ≠ y.nd := fun q => by
      obtain ⟨o, e⟩ := (x.st _ (lab_of x.rn (by decide))).2
      exact Nat.lt_irrefl _ (q ▸ Heap.lt_size e)
    have n3 : h.objs.size ≠ y.prd := fun q => by
      obtain ⟨o, e⟩ := (x.st _ (lab_of (x.rp rfl) (by decide))).2
      exact Nat.lt_irrefl _ (q ▸ Heap.lt_size e)
    exact sb6.extBut _ _ n2 (sb5.extBut _ _ (show @Ne Nat h.objs.size L by omega) (k4 _ _ (sbq.extBut _ _ n3 (kq _ _ (sb3.extBut _ _ n1 (k2 _ _ a1))))))
  have rb : RowK (PySem.strKind prog w) RI h6 b [] fun _ => 0 := RowK.none e6 (B.low _ (by omega))
  have ra : RowK (PySem.strKind prog w) RI h6 h.objs.size [] fun _ => 0 := RowK.none a6 (B.low _ (by omega))
  refine wpAny_execs_cons (wpAny_Expr (MethodCall_ (nm F6 (by walk_at "mem") (getmk PySem.F.slot_dict_update PySem.F.type_dict_update rb (callWith_builtin rfl (evalArgs_plain (args_cons (nm F6 (by walk_at "mem") (args_nil
    (update0 rb ra (show @Ne Nat b h.objs.size by omega) (by decide) fun h8 r8 sb8 => ?_))))))))))
  have hbn : ¬ lab (upd (upd ro a (5, v)) a' (6, v)) b := fun q => by
    obtain ⟨_, o, e⟩ := xq.st b q
    exact Nat.not_lt.mpr s4 (Heap.lt_size e)
  refine wpAny_execs_nil (wpAny_execs_nil (hQ h8 _ a a' b (upd (upd ro a (5, v)) a' (6, v)) (GSt.dep h6 h8 (fun b' o q e => sb8.extBut _ _ (fun z => hbn (z ▸ q)) e) x6) (ko6.ext sb8.extBut (by omega)) fun b' hb' => ?_))
  rw [upd, if_neg (show @Ne Nat b' a' by have := nlt hb'; omega), upd, if_neg (show @Ne Nat b' a by have := nlt hb'; omega)]
end
end Mine
end
section
open PySem PySem.W PyProof.Rows PySem.Calls
set_option maxRecDepth 100000
namespace Mine
local macro_rules | `(tactic| walk_at "mem") => `(tactic| with_reducible (first | exact List.mem_cons_self | (refine List.mem_cons_of_mem _ ?_; walk_at "mem")))
section
variable {prog : Program} {w : World} {A : Around} {c : Cst} {h hB : Heap} {t : Nat} {K : Frag} {C : Addr} {fs : List (Str × Addr)} {y : GD} {ro : Addr → Nat × Int} {E : Value → Shared → Prop}
/-- xa, xb = va, vb, stored from the right -/
theorem swap2 {env : Env} {xa xb : Str} {elts : List Expr} {k : Nat} {tpos pos : Pos} {value : Expr} {Q : Flow → Shared → Prop} {s : Shared} (hA : A.handled = none)
    (hval : wpAny (model prog w) A (eval value env) (fun v s₁ => ∃ T va vb h1 t1, v = .ref T ∧ s₁ = mk c h1 t1 ∧ IsTup h1 T #[va, vb] ∧ ∀ h', Keep h1 h' → wpAny (model prog w) A (storeName env xb vb) (fun _ s => wpAny (model prog w) A (storeName env xa va) (fun _ => Q .next) E s) E (mk c h' t1)) E s)
    (hs : swapsWithSole [.Tuple elts k tpos] value pos.line env = pure false := by rfl)
    (hw : swappedStores [.Tuple elts k tpos] value env = pure (some [xa, xb]) := by rfl) :
    wpAny (model prog w) A (exec (.Assign [.Tuple elts k tpos] value pos) env) Q E s := by
  refine Assign_Tuple_swapped (names := [xa, xb]) (wpAny_mono hval (fun v s₁ q => ?_) fun _ _ e => e) hs hw
  obtain ⟨T, va, vb, h1, t1, rfl, rfl, tp, k⟩ := q
  have tail : ∀ h', Heap.ExtBut h1.objs.size h1 h' → wpAny (model prog w) A (assignInOrder [bindName env xb, bindName env xa] [vb, va]) (fun _ => Q .next) E (mk c h' t1) := fun h' hx => ?_
  · exact PyProof.Rows.unpackItems_tuple (s := mk c h1 t1) (items := #[va, vb]) hA tp fun h' hx => tail h' hx
  have kk := k h' fun b o q => hx b o (Nat.ne_of_lt (Heap.lt_size q)) q
  refine assignInOrder_cons (wpAny_bindName (wpAny_mono kk (fun _ s₂ h₂ => ?_) fun _ _ e => e))
  exact assignInOrder_cons (wpAny_bindName (wpAny_mono h₂ (fun _ s₃ h₃ => assignInOrder_nil h₃) fun _ _ e => e))
theorem one_name {a : Addr} {x : Str} {tk : Tok} {v : Value} {n : Int} (e : h.get? a = some (dictOf [⟨PyData.keyHash w.params x, .str x tk, v⟩] 1)) (hs : (a == sysModules) = false) (hv : RI v n) : RowK (PySem.strKind prog w) RI h a [x] fun _ => n :=
  ⟨hs, [(x, v)], ⟨_, _, 1, e, ⟨rfl, rfl, rfl⟩, rfl, fun e he => by
    obtain rfl : e = ⟨PyData.keyHash w.params x, .str x tk, v⟩ := by simpa using he
    exact ⟨x, PySem.strKind_is prog w x tk, rfl⟩, Pairs.cons (PySem.strKind_is prog w x tk) rfl Pairs.nil, by simp⟩, rfl, fun kv m => by rw [List.mem_singleton.mp m]; exact hv⟩
/-- the binding with one more keyword -/
theorem bind1 {A : Around} {fd : FuncData} {pos : List Value} {b1 : List (Str × Value)} {x kx : Str} {v : Value} {n : Int} {Q' : List (Str × Value) → Shared → Prop} {E' : Value → Shared → Prop} (hv : RI v n) (hs : (h.objs.size == sysModules) = false)
    (hb : bindArgs fd ⟨pos, [(kx, v)]⟩ = (alloc emptyDict >>= fun D => forIn [(kx, v)] PUnit.unit (fun x _ => nsSet D x.1 x.2 >>= fun _ => pure (ForInStep.yield PUnit.unit)) >>= fun _ => pure (b1 ++ [(x, .ref D)])))
    (k : ∀ h₀ t₀, (Keep h h₀ ∧ h₀.objs.size = h.objs.size + 1 ∧ RowK (PySem.strKind prog w) RI h₀ h.objs.size [kx] fun _ => n) → Q' (b1 ++ [(x, .ref h.objs.size)]) (mk c h₀ t₀)) :
    wpAny (model prog w) A (bindArgs fd ⟨pos, [(kx, v)]⟩) Q' E' (mk c h t) := by
  rw [hb]
  refine wpAny_bind (wpAny_alloc (wpAny_bind ?_))
  rw [List.forIn_cons]
  refine wpAny_bind (wpAny_bind (nsSet_m (s := mk c (h.push emptyDict) t) (es := []) (n := 0) (Heap.get?_push_size _ rfl) (by rfl) fun h' e sb => wpAny_pure ?_))
  refine wpAny_pure (wpAny_pure (k h' (t + 1) ⟨fun b o q => sb.extBut _ _ (Nat.ne_of_lt (Heap.lt_size q)) (Heap.get?_push_of_some _ q), by rw [sb.1, Heap.size_push], one_name e hs hv⟩))
theorem bind0' {A : Around} {fd : FuncData} {pos : List Value} {b1 : List (Str × Value)} {x : Str} {Q' : List (Str × Value) → Shared → Prop} {E' : Value → Shared → Prop} (hs : (h.objs.size == sysModules) = false)
    (hb : bindArgs fd ⟨pos, []⟩ = (alloc emptyDict >>= fun d => pure (b1 ++ [(x, .ref d)]))) (k : ∀ h₀ t₀, (Keep h h₀ ∧ h₀.objs.size = h.objs.size + 1 ∧ RowK (PySem.strKind prog w) RI h₀ h.objs.size [] fun _ => 0) → Q' (b1 ++ [(x, .ref h.objs.size)]) (mk c h₀ t₀)) :
    wpAny (model prog w) A (bindArgs fd ⟨pos, []⟩) Q' E' (mk c h t) :=
  bind0 hb fun h₀ t₀ e => k h₀ t₀ (by subst e; exact ⟨Keep.push _ _, Heap.size_push .., RowK.none (Heap.get?_push_size _ rfl) hs⟩)
end
end Mine
end
section
open PySem PySem.W PyProof.Rows PySem.Calls
set_option maxRecDepth 100000
namespace Mine
local macro_rules | `(tactic| walk_at "mem") => `(tactic| with_reducible (first | exact List.mem_cons_self | (refine List.mem_cons_of_mem _ ?_; walk_at "mem")))
def stepE (y : GD) (u v : Int) (a : Addr) (z : Int) : GD := { y with nbr := upd y.nbr u (addk (y.nbr u) v), ea := upd y.ea u (upd (y.ea u) v a), wt := upd y.wt u (upd (y.wt u) v z) }
def stepP (y : GD) (u v : Int) (a : Addr) : GD := { y with pnb := upd y.pnb u (addk (y.pnb u) v), pea := upd y.pea u (upd (y.pea u) v a) }
/-- what the binding of an edge's call leaves -/
def PBind (prog : Program) (w : World) (h : Heap) (ks : List Str) (af : Str → Int) (h₀ : Heap) : Prop := Keep h h₀ ∧ h₀.objs.size = h.objs.size + 1 ∧ RowK (PySem.strKind prog w) RI h₀ h.objs.size ks af
section
variable {prog : Program} {w : World} {A : Around} {c : Cst} {h hB : Heap} {t : Nat} {K : Frag} {C : Addr} {fs : List (Str × Addr)} {y : GD} {ro : Addr → Nat × Int}
theorem upd_len {α : Type} {f : Int → List α} {i j : Int} {l : List α} {n : Nat} (h1 : (f j).length ≤ n) (h2 : l.length ≤ n) : (upd f i l j).length ≤ n := by
  unfold upd; split
  · exact h2
  · exact h1
theorem GSt.role' {di : Bool} (x : GSt prog w hB C di y ro h) {a : Addr} (ha : ¬ lab ro a) (hB' : hB.objs.size ≤ a) (e : ∃ o, h.get? a = some o) (r : Nat × Int) : GSt prog w hB C di y (upd ro a r) h := by
  have hn : ∀ {b p}, ro b = p → p.1 < 8 → upd ro a r b = p := fun {b p} hp hl => by
    have : b ≠ a := fun q => ha (q ▸ lab_of hp hl)
    rw [upd, if_neg this]; exact hp
  exact { x with
    rg := hn x.rg (by decide)
    rx := hn x.rx (by decide)
    rn := hn x.rn (by decide)
    ra := hn x.ra (by decide)
    rp := fun d => hn (x.rp d) (by decide)
    ri := fun u hu => hn (x.ri u hu) (by show 5 < 8; decide)
    rq := fun d u hu => hn (x.rq d u hu) (by show 6 < 8; decide)
    re := fun u hu v hv => hn (x.re u hu v hv) (by decide)
    st := fun b hb => by
      by_cases q : b = a
      · subst q; exact ⟨hB', e⟩
      · have : lab ro b := by unfold lab at hb ⊢; rw [upd, if_neg q] at hb; exact hb
        exact x.st b this }
/-- Graph.add_edge, a new edge -/
theorem adde_G {f : Addr} {cd : Value} {u v : Int} {tu tv : Tok} {kw : List (Str × Value)} {ks : List Str} {af : Str → Int} {Q : Value → Shared → Prop} (B : GB hB K C fs) (hf : FnAt hB f (SM 23 20) "Graph.add_edge" .none cd) (hA : A.handled = none) (hroom : A.depth + 3 < recursionLimit) (k0 : Keep hB h) (hsz : hB.objs.size ≤ h.objs.size) (x : GSt prog w hB C false y ro h)
    (hu : u ∈ y.Nn) (hv : v ∈ y.Nn) (hua : u ∈ y.Na) (hva : v ∈ y.Na) (huv : v ∉ y.nbr u) (len1 : (y.nbr u).length ≤ 1000) (len2 : (y.nbr v).length ≤ 1000) (len3 : ks.length ≤ 1000)
    (hbind : ∀ pm (Q' : List (Str × Value) → Shared → Prop) (E' : Value → Shared → Prop), (∀ h₀ t₀, PBind prog w h ks af h₀ → Q' ([(("self" : Str), Value.ref y.g), ("u_of_edge", .int u tu), ("v_of_edge", .int v tv)] ++ [(("attr" : Str), Value.ref h.objs.size)]) (mk c h₀ t₀)) →
      wpAny (model prog w) A.in1 (bindArgs (fdOf (SM 23 20) "Graph.add_edge" .none pm cd) ⟨[.ref y.g, .int u tu, .int v tv], kw⟩) Q' E' (mk c h t))
    (hQ : ∀ h' t' a ro', GSt prog w hB C false (stepE (stepE y u v a (if ("weight" : Str) ∈ ks then af "weight" else 1)) v u a (if ("weight" : Str) ∈ ks then af "weight" else 1)) ro' h' → KO (lab ro) h h' → (∀ b, b < h.objs.size → ro' b = ro b) → Q .none (mk c h' t')) :
    wpAny (model prog w) A (call (.ref f) [.ref y.g, .int u tu, .int v tv] kw) Q NE (mk c h t) := by
  generalize hzz : (if ("weight" : Str) ∈ ks then af "weight" else 1) = z at hQ
  refine wpAny_call (call_W (PBind prog w h ks af) (B.G.keep k0) (hf.keep k0) (by omega) (fun h₀ e => e.1) hbind
    [("self", some (.ref y.g)), ("u_of_edge", some (.int u tu)), ("v_of_edge", some (.int v tv)), ("attr", some (.ref h.objs.size)), ("u", none), ("v", none), ("datadict", none)] ?_)
  rintro h₀ ⟨kp, sz0, ra0⟩ h1 t1 F
  have F0 := F.rebase (k0.trans kp) (by omega)
  generalize hL : h₀.objs.size = L at F F0
  rw [sz0] at hL
  have ra1 := ra0.keep F.keep
  have x1 : GSt prog w hB C false y ro h1 := x.keep (kp.trans F.keep)
  have hnl : ¬ lab ro L := x.nlab (by omega)
  have F1 := F0.say (P' := GSt prog w hB C false y ro) x1 (GSt.stb hnl)
  have ko1 : KO (lab ro) h h1 := (kp.trans F.keep).ko
  have zL := nlt (show L < h1.objs.size from F1.loc.lt)
  have hroom' : (A.deeper (envAt (SM 23 20) "Graph.add_edge" cd L f)).depth < recursionLimit := by show A.depth + 1 < _; omega
  refine wpAny_execs_cons (swap2 (c := c) hA (Tuple_ (args_cons (nm F1 (by walk_at "mem") (args_cons (nm F1 (by walk_at "mem") (args_nil (wpAny_newTuple ?_ (by rw [sizeLine_eq]; show 2 ≤ _; decide)))))))))
  refine ⟨h1.objs.size, _, _, h1.push { cls := .type "tuple", data := .seq #[.int u tu, .int v tv] }, t1, rfl, rfl, ⟨_, Heap.get?_push_size _ rfl, rfl, _, rfl⟩, fun h2 k2 => ?_⟩
  have kh2 : Keep h1 h2 := (Keep.push _ _).trans k2
  refine st5 (F1.ext kh2) fun h3 t3 F3 sb3 => st4 F3 fun h4 t4 F4 sb4 => ?_
  have nL : (h.objs.size : Nat) ≠ L := by omega
  have ra4 := (ra1.keep kh2).at (fun o e => sb4.extBut _ _ nL (sb3.extBut _ _ nL e))
  have ko4 := ((ko1.trans kh2.ko).ext sb3.extBut (show @LE.le Nat _ h.objs.size L by omega)).ext sb4.extBut (show @LE.le Nat _ h.objs.size L by omega)
  have x4 := F4.inv
  refine wpAny_execs_cons (wpAny_If (wpAny_isTrue_Compare1 (nm F4 (by walk_at "mem") (Attribute_Name_ (nm F4 (by walk_at "mem") (g_attr (B.X.keeps F4.keep) B.O x4.ins (by decide) x4.e1 (row_notin x4.nd fun t5 => wpAny_truthy_bool ?_)))))))
  rw [if_neg (by simpa using hu)]
  refine wpAny_execs_nil (wpAny_execs_cons (wpAny_If (wpAny_isTrue_Compare1 (nm F4 (by walk_at "mem") (Attribute_Name_ (nm F4 (by walk_at "mem") (g_attr (B.X.keeps F4.keep) B.O x4.ins (by decide) x4.e1 (row_notin x4.nd fun t6 => wpAny_truthy_bool ?_))))))))
  rw [if_neg (by simpa using hv)]
  refine wpAny_execs_nil (wpAny_execs_cons (wpAny_Assign_Name (MethodCall_ (Subscript_ (Attribute_Name_ (nm F4 (by walk_at "mem") (g_attr (B.X.keeps F4.keep) B.O x4.ins (by decide) x4.e2 (nm F4 (by walk_at "mem") (row_itm x4.adj hua fun v7 t7 r7 => ?_)))))))))
  cases r7
  refine getmk PySem.F.slot_dict_get PySem.F.type_dict_get (x4.inn u hua) (callWith_builtin rfl (evalArgs_plain (args_cons (nm F4 (by walk_at "mem") (args_cons (MethodCall_ (nm F4 (by walk_at "mem") (self_fac F4 B.X B.O x4.ins B.T B.G hroom' 4 (by decide) (x4.e4 _ (by decide)) fun h8 t8 a k8 s8 e8 => args_nil ?_))))))))
  have z3 : h3.objs.size = h2.objs.size := sb3.1
  have z4 : h4.objs.size = h3.objs.size := sb4.1
  have zL4 := nlt (show L < h4.objs.size from F4.loc.lt)
  have s8' := nle s8
  have z8 := nlt (Heap.lt_size e8)
  have F8 := F4.ext k8
  have ra8 := ra4.keep k8
  have ko8 := ko4.trans k8.ko
  have hna : ¬ lab ro a := fun q => by
    obtain ⟨_, o, e⟩ := x.st a q
    have := nlt (Heap.lt_size e)
    omega
  refine get2_m (intKind_is prog w v tv) (F8.inv.inn u hua) (fun hm => absurd hm huv) fun _ t9 => ?_
  refine st6 F8 fun h9 t10 F9 sb9 => ?_
  have x9 := F9.inv
  have e9 : h9.get? a = some emptyDict := sb9.extBut _ _ (show @Ne Nat a L by omega) e8
  have ra9 := ra8.at (fun o e => sb9.extBut _ _ nL e)
  have rb9 : RowK (PySem.strKind prog w) RI h9 a [] af := RowK.none e9 (B.low _ (by omega))
  have ko9 := ko8.ext sb9.extBut (show @LE.le Nat _ h.objs.size L by omega)
  refine wpAny_execs_cons (wpAny_Expr (MethodCall_ (nm F9 (by walk_at "mem") (getmk PySem.F.slot_dict_update PySem.F.type_dict_update rb9 (callWith_builtin rfl (evalArgs_plain (args_cons (nm F9 (by walk_at "mem") (args_nil
    (update0 rb9 ra9 (show @Ne Nat a h.objs.size by omega) (by omega) fun hC rC sbC => ?_))))))))))
  have xC : GSt prog w hB C false y ro hC := GSt.dep h9 hC (fun b' o q e => sbC.extBut _ _ (fun z => hna (z ▸ q)) e) x9
  have xD := xC.role' hna (by omega) rC.ex (7, 0)
  have hnlD : ¬ lab (upd ro a (7, 0)) L := nlab_upd hnl (show @Ne Nat L a by omega)
  have FD := F9.upd (show @LE.le Nat _ hB.objs.size a by omega) (show @Ne Nat a L by omega) sbC.extBut xD (GSt.stb hnlD)
  have koD := ko9.ext sbC.extBut (show @LE.le Nat _ h.objs.size a by omega)
  have haD : (upd ro a (7, 0)) a = (7, 0) := by simp [upd]
  have ewD : EdgeW prog w hC a z := ⟨ks, af, rC, hzz.symm⟩
  have innL : ∀ i, i ∈ y.Na → hB.objs.size ≤ y.inn i ∧ y.inn i ≠ L ∧ lab ro (y.inn i) := fun i hi => by
    have q : lab ro (y.inn i) := lab_of (x.ri i hi) (by show 5 < 8; decide)
    exact ⟨(x.st _ q).1, fun e => hnl (e ▸ q), q⟩
  refine wpAny_execs_cons (wpAny_Assign_Subscript (nm FD (by walk_at "mem") (Subscript_ (Attribute_Name_ (nm FD (by walk_at "mem") (g_attr (B.X.keeps FD.keep) B.O xD.ins (by decide) xD.e2 (nm FD (by walk_at "mem") (row_itm xD.adj hua fun vE tE rE => ?_))))))))
  cases rE
  refine nm FD (by walk_at "mem") (row_set (xD.inn u hua) (show RR (.ref a) a from rfl) (by omega) fun hF tF rF sbF => ?_)
  have xF := xD.set_inn hua haD ewD rF sbF
  have FF := FD.upd (innL u hua).1 (innL u hua).2.1 sbF.extBut xF (GSt.stb hnlD)
  have koF := koD.but sbF (innL u hua).2.2
  have ewF : EdgeW prog w hF a z := ewD.at fun o e => sbF.extBut _ _ (ne_ro haD (xD.ri u hua) (by simp)) e
  refine wpAny_execs_cons (wpAny_Assign_Subscript (nm FF (by walk_at "mem") (Subscript_ (Attribute_Name_ (nm FF (by walk_at "mem") (g_attr (B.X.keeps FF.keep) B.O xF.ins (by decide) xF.e2 (nm FF (by walk_at "mem") (row_itm xF.adj hva fun vG tG rG => ?_))))))))
  cases rG
  refine nm FF (by walk_at "mem") (row_set (xF.inn v hva) (show RR (.ref a) a from rfl) (Nat.le_trans (upd_len (n := 1001) (by omega) (Nat.le_trans (addk_len _ _) (by omega))) (by decide)) fun hH tH rH sbH => ?_)
  have xH := xF.set_inn hva haD ewF rH sbH
  refine wpAny_execs_nil (hQ hH _ a (upd ro a (7, 0)) xH (koF.but sbH (innL v hva).2.2) fun b' hb' => ?_)
  rw [upd, if_neg (show @Ne Nat b' a by have := nlt hb'; omega)]
end
end Mine
end
section
open PySem PySem.W PyProof.Rows PySem.Calls
set_option maxRecDepth 100000
namespace Mine
local macro_rules | `(tactic| walk_at "mem") => `(tactic| with_reducible (first | exact List.mem_cons_self | (refine List.mem_cons_of_mem _ ?_; walk_at "mem")))
section
variable {prog : Program} {w : World} {A : Around} {c : Cst} {h hB : Heap} {t : Nat} {K : Frag} {C : Addr} {fs : List (Str × Addr)} {y : GD} {ro : Addr → Nat × Int}
/-- DiGraph.add_edge, a new edge -/
theorem adde_D {f : Addr} {cd : Value} {u v : Int} {tu tv : Tok} {kw : List (Str × Value)} {ks : List Str} {af : Str → Int} {Q : Value → Shared → Prop} (B : GB hB K C fs) (hf : FnAt hB f (SM 25 8) "DiGraph.add_edge" .none cd) (hA : A.handled = none) (hroom : A.depth + 3 < recursionLimit) (k0 : Keep hB h) (hsz : hB.objs.size ≤ h.objs.size) (x : GSt prog w hB C true y ro h)
    (hua : u ∈ y.Na) (hva : v ∈ y.Na) (hvp : v ∈ y.Np) (huv : v ∉ y.nbr u) (len1 : (y.nbr u).length ≤ 1000) (len2 : (y.pnb v).length ≤ 1000) (len3 : ks.length ≤ 1000)
    (hbind : ∀ pm (Q' : List (Str × Value) → Shared → Prop) (E' : Value → Shared → Prop), (∀ h₀ t₀, PBind prog w h ks af h₀ → Q' ([(("self" : Str), Value.ref y.g), ("u_of_edge", .int u tu), ("v_of_edge", .int v tv)] ++ [(("attr" : Str), Value.ref h.objs.size)]) (mk c h₀ t₀)) →
      wpAny (model prog w) A.in1 (bindArgs (fdOf (SM 25 8) "DiGraph.add_edge" .none pm cd) ⟨[.ref y.g, .int u tu, .int v tv], kw⟩) Q' E' (mk c h t))
    (hQ : ∀ h' t' a ro', GSt prog w hB C true (stepP (stepE y u v a (if ("weight" : Str) ∈ ks then af "weight" else 1)) v u a) ro' h' → KO (lab ro) h h' → (∀ b, b < h.objs.size → ro' b = ro b) → Q .none (mk c h' t')) :
    wpAny (model prog w) A (call (.ref f) [.ref y.g, .int u tu, .int v tv] kw) Q NE (mk c h t) := by
  generalize hzz : (if ("weight" : Str) ∈ ks then af "weight" else 1) = z at hQ
  refine wpAny_call (call_W (PBind prog w h ks af) (B.G.keep k0) (hf.keep k0) (by omega) (fun h₀ e => e.1) hbind
    [("self", some (.ref y.g)), ("u_of_edge", some (.int u tu)), ("v_of_edge", some (.int v tv)), ("attr", some (.ref h.objs.size)), ("u", none), ("v", none), ("datadict", none)] ?_)
  rintro h₀ ⟨kp, sz0, ra0⟩ h1 t1 F
  have F0 := F.rebase (k0.trans kp) (by omega)
  generalize hL : h₀.objs.size = L at F F0
  rw [sz0] at hL
  have ra1 := ra0.keep F.keep
  have x1 : GSt prog w hB C true y ro h1 := x.keep (kp.trans F.keep)
  have hnl : ¬ lab ro L := x.nlab (by omega)
  have F1 := F0.say (P' := GSt prog w hB C true y ro) x1 (GSt.stb hnl)
  have ko1 : KO (lab ro) h h1 := (kp.trans F.keep).ko
  have zL := nlt (show L < h1.objs.size from F1.loc.lt)
  have hroom' : (A.deeper (envAt (SM 25 8) "DiGraph.add_edge" cd L f)).depth < recursionLimit := by show A.depth + 1 < _; omega
  refine wpAny_execs_cons (swap2 (c := c) hA (Tuple_ (args_cons (nm F1 (by walk_at "mem") (args_cons (nm F1 (by walk_at "mem") (args_nil (wpAny_newTuple ?_ (by rw [sizeLine_eq]; show 2 ≤ _; decide)))))))))
  refine ⟨h1.objs.size, _, _, h1.push { cls := .type "tuple", data := .seq #[.int u tu, .int v tv] }, t1, rfl, rfl, ⟨_, Heap.get?_push_size _ rfl, rfl, _, rfl⟩, fun h2 k2 => ?_⟩
  have kh2 : Keep h1 h2 := (Keep.push _ _).trans k2
  refine st5 (F1.ext kh2) fun h3 t3 F3 sb3 => st4 F3 fun h4 t4 F4 sb4 => ?_
  have nL : (h.objs.size : Nat) ≠ L := by omega
  have ra4 := (ra1.keep kh2).at (fun o e => sb4.extBut _ _ nL (sb3.extBut _ _ nL e))
  have ko4 := ((ko1.trans kh2.ko).ext sb3.extBut (show @LE.le Nat _ h.objs.size L by omega)).ext sb4.extBut (show @LE.le Nat _ h.objs.size L by omega)
  have x4 := F4.inv
  refine wpAny_execs_cons (wpAny_If (wpAny_isTrue_Compare1 (nm F4 (by walk_at "mem") (Attribute_Name_ (nm F4 (by walk_at "mem") (g_attr (B.X.keeps F4.keep) B.O x4.ins (by decide) (x4.e3 rfl).1 (row_notin x4.adj fun t5 => wpAny_truthy_bool ?_)))))))
  rw [if_neg (by simpa using hua)]
  refine wpAny_execs_nil (wpAny_execs_cons (wpAny_If (wpAny_isTrue_Compare1 (nm F4 (by walk_at "mem") (Attribute_Name_ (nm F4 (by walk_at "mem") (g_attr (B.X.keeps F4.keep) B.O x4.ins (by decide) (x4.e3 rfl).1 (row_notin x4.adj fun t6 => wpAny_truthy_bool ?_))))))))
  rw [if_neg (by simpa using hva)]
  refine wpAny_execs_nil (wpAny_execs_cons (wpAny_Assign_Name (MethodCall_ (Subscript_ (Attribute_Name_ (nm F4 (by walk_at "mem") (g_attr (B.X.keeps F4.keep) B.O x4.ins (by decide) x4.e2 (nm F4 (by walk_at "mem") (row_itm x4.adj hua fun v7 t7 r7 => ?_)))))))))
  cases r7
  refine getmk PySem.F.slot_dict_get PySem.F.type_dict_get (x4.inn u hua) (callWith_builtin rfl (evalArgs_plain (args_cons (nm F4 (by walk_at "mem") (args_cons (MethodCall_ (nm F4 (by walk_at "mem") (self_fac F4 B.X B.O x4.ins B.T B.G hroom' 4 (by decide) (x4.e4 _ (by decide)) fun h8 t8 a k8 s8 e8 => args_nil ?_))))))))
  have z3 : h3.objs.size = h2.objs.size := sb3.1
  have z4 : h4.objs.size = h3.objs.size := sb4.1
  have zL4 := nlt (show L < h4.objs.size from F4.loc.lt)
  have s8' := nle s8
  have z8 := nlt (Heap.lt_size e8)
  have F8 := F4.ext k8
  have ra8 := ra4.keep k8
  have ko8 := ko4.trans k8.ko
  have hna : ¬ lab ro a := fun q => by
    obtain ⟨_, o, e⟩ := x.st a q
    have := nlt (Heap.lt_size e)
    omega
  refine get2_m (intKind_is prog w v tv) (F8.inv.inn u hua) (fun hm => absurd hm huv) fun _ t9 => ?_
  refine st6 F8 fun h9 t10 F9 sb9 => ?_
  have x9 := F9.inv
  have e9 : h9.get? a = some emptyDict := sb9.extBut _ _ (show @Ne Nat a L by omega) e8
  have ra9 := ra8.at (fun o e => sb9.extBut _ _ nL e)
  have rb9 : RowK (PySem.strKind prog w) RI h9 a [] af := RowK.none e9 (B.low _ (by omega))
  have ko9 := ko8.ext sb9.extBut (show @LE.le Nat _ h.objs.size L by omega)
  refine wpAny_execs_cons (wpAny_Expr (MethodCall_ (nm F9 (by walk_at "mem") (getmk PySem.F.slot_dict_update PySem.F.type_dict_update rb9 (callWith_builtin rfl (evalArgs_plain (args_cons (nm F9 (by walk_at "mem") (args_nil
    (update0 rb9 ra9 (show @Ne Nat a h.objs.size by omega) (by omega) fun hC rC sbC => ?_))))))))))
  have xC : GSt prog w hB C true y ro hC := GSt.dep h9 hC (fun b' o q e => sbC.extBut _ _ (fun z => hna (z ▸ q)) e) x9
  have xD := xC.role' hna (by omega) rC.ex (7, 0)
  have hnlD : ¬ lab (upd ro a (7, 0)) L := nlab_upd hnl (show @Ne Nat L a by omega)
  have FD := F9.upd (show @LE.le Nat _ hB.objs.size a by omega) (show @Ne Nat a L by omega) sbC.extBut xD (GSt.stb hnlD)
  have koD := ko9.ext sbC.extBut (show @LE.le Nat _ h.objs.size a by omega)
  have haD : (upd ro a (7, 0)) a = (7, 0) := by simp [upd]
  have ewD : EdgeW prog w hC a z := ⟨ks, af, rC, hzz.symm⟩
  have innL : ∀ i, i ∈ y.Na → hB.objs.size ≤ y.inn i ∧ y.inn i ≠ L ∧ lab ro (y.inn i) := fun i hi => by
    have q : lab ro (y.inn i) := lab_of (x.ri i hi) (by show 5 < 8; decide)
    exact ⟨(x.st _ q).1, fun e => hnl (e ▸ q), q⟩
  refine wpAny_execs_cons (wpAny_Assign_Subscript (nm FD (by walk_at "mem") (Subscript_ (Attribute_Name_ (nm FD (by walk_at "mem") (g_attr (B.X.keeps FD.keep) B.O xD.ins (by decide) (xD.e3 rfl).1 (nm FD (by walk_at "mem") (row_itm xD.adj hua fun vE tE rE => ?_))))))))
  cases rE
  refine nm FD (by walk_at "mem") (row_set (xD.inn u hua) (show RR (.ref a) a from rfl) (by omega) fun hF tF rF sbF => ?_)
  have xF := xD.set_inn hua haD ewD rF sbF
  have FF := FD.upd (innL u hua).1 (innL u hua).2.1 sbF.extBut xF (GSt.stb hnlD)
  have koF := koD.but sbF (innL u hua).2.2
  have ewF : EdgeW prog w hF a z := ewD.at fun o e => sbF.extBut _ _ (ne_ro haD (xD.ri u hua) (by simp)) e
  refine wpAny_execs_cons (wpAny_Assign_Subscript (nm FF (by walk_at "mem") (Subscript_ (Attribute_Name_ (nm FF (by walk_at "mem") (g_attr (B.X.keeps FF.keep) B.O xF.ins (by decide) (xF.e3 rfl).2 (nm FF (by walk_at "mem") (row_itm (xF.prd rfl) hvp fun vG tG rG => ?_))))))))
  cases rG
  refine nm FF (by walk_at "mem") (row_set (xF.pin rfl v hvp) (show RR (.ref a) a from rfl) (by show (y.pnb v).length ≤ _; omega) fun hH tH rH sbH => ?_)
  have xH := xF.set_pin hvp rH sbH
  refine wpAny_execs_nil (hQ hH _ a (upd ro a (7, 0)) xH (koF.but sbH (lab_of (x.rq rfl v hvp) (by show 6 < 8; decide))) fun b' hb' => ?_)
  rw [upd, if_neg (show @Ne Nat b' a by have := nlt hb'; omega)]
end
end Mine
end
section
open PySem PySem.W PyProof.Rows PySem.Calls
set_option maxRecDepth 100000
namespace Mine
local macro_rules | `(tactic| walk_at "mem") => `(tactic| with_reducible (first | exact List.mem_cons_self | (refine List.mem_cons_of_mem _ ?_; walk_at "mem")))
section
variable {prog : Program} {w : World} {A : Around} {c : Cst} {h hB : Heap} {t : Nat} {K : Frag} {C g dx : Addr} {fs : List (Str × Addr)} {es : List DictEntry} {n : Nat} {E : Value → Shared → Prop}
/-- iter() of an instance whose class has __iter__ -/
theorem iter_inst {f : Addr} {Q : Value → Shared → Prop} (X : K.In h) (O : ClsOk K C fs gown) (I : Ins h g C dx es n) (hi : (("__iter__" : Str), f) ∈ fs)
    (hc : wpAny (model prog w) A (call (.ref f) [.ref g]) (fun it s' => ∃ a, it = .ref a ∧ s'.TypeIs (.ref a) "dict_keyiterator" ∧ Q it s') E (mk c h t)) : wpAny (model prog w) A (pyIter (.ref g)) Q E (mk c h t) := by
  obtain ⟨hs, ht⟩ := O.fs _ hi
  have T := I.inst.type (M := model prog w)
  unfold pyIter
  refine wpAny_bind (wpAny_bind (T.here (s := mk c h t) ((looks_findIn X hs).here (s := mk c h t) ?_)))
  refine wpAny_bind ?_
  simp only [callSpecialIfBoundUnlessNone?, bindSpecialIfBound?]
  refine wpAny_holding (wpAny_bind (wpAny_bind (wpAny_bind (T.here (s := mk c h t) ((looks_findIn X hs).here (s := mk c h t) ?_)))))
  refine wpAny_bind (wpAny_askSetting (wpAny_ite ?_))
  split
  · refine wpAny_bind ((bind_fn X _ ht).here (s := mk c h t) (wpAny_pure ?_))
    show wpAny _ _ (if (Value.ref f == Value.none) = true then _ else _) _ _ _
    rw [if_neg (show ¬ ((Value.ref f == Value.none) = true) from Bool.false_ne_true)]
    refine wpAny_bind (wpAny_mono hc (fun it s' q => ?_) fun _ _ e => e)
    obtain ⟨a, rfl, ht, hq⟩ := q
    refine wpAny_pure ?_
    exact wpAny_bind (wpAny_specialOf ht PySem.F.slot_dict_keyiterator_next.lookup (wpAny_pure hq))
  · refine wpAny_tryCatch (wpAny_bind ((bind_fn X _ ht).here (s := mk c h t) (wpAny_pure ?_)))
    show wpAny _ _ (if (Value.ref f == Value.none) = true then _ else _) _ _ _
    rw [if_neg (show ¬ ((Value.ref f == Value.none) = true) from Bool.false_ne_true)]
    refine wpAny_bind (wpAny_mono hc (fun it s' q => ?_) fun _ _ e => e)
    obtain ⟨a, rfl, ht, hq⟩ := q
    refine wpAny_pure ?_
    exact wpAny_bind (wpAny_specialOf ht PySem.F.slot_dict_keyiterator_next.lookup (wpAny_pure hq))
theorem call_iter_dict {K' : Type} [DecidableEq K'] {knd : KeyKind prog w K'} {d : Addr} {kvs : List (K' × Value)} {Q : Value → Shared → Prop} (lo : (d == sysModules) = false) (hd : h.DictOf knd d kvs)
    (k : ∀ h' I ep, Keep h h' → h.objs.size ≤ I → I < h'.objs.size → h'.IsKeyIter I d 0 kvs.length ep → h'.DictAt knd d kvs ep → Q (.ref I) (mk c h' t)) : wpAny (model prog w) A (call (.builtin "iter") [.ref d]) Q E (mk c h t) := by
  obtain ⟨ep, ha⟩ := hd.dictAt
  refine call_function_entry (by decide +kernel) (by decide +kernel) kdk_entry_iter (kdk_args_iter _) ?_
  unfold Builtin.«iter»
  refine wpAny_bind (m := someArgs "iter" 1 2 _) (wpAny_of_eq (a := [Value.ref d]) (by first | rfl | kernel_rfl!) ?_)
  show wpAny _ _ (pyIter (.ref d) >>= _) _ _ _
  refine wpAny_bind (wpAny_pyIter_dict (s := mk c h t) lo ha ?_)
  exact wpAny_pure ⟨_, rfl, k _ _ ep (Keep.push _ _) (Nat.le_refl _) (by rw [Heap.size_push]; exact Nat.lt_succ_self _) ⟨_, Heap.get?_push_size _ rfl, rfl, rfl⟩ (ha.push _)⟩

variable {di : Bool} {y : GD} {ro : Addr → Nat × Int} {h0 hB1 : Heap}
theorem gattr_of (X : K.In h0) (O : ClsOk K C fs gown) (x : GSt prog w hB1 C di y ro h0) : GAttr prog w h0 y.g "_adj" (.ref y.adj) :=
  fun A c h t Q b k q => g_attr (X.keeps k) O (x.keep k).ins (by decide) x.e2 (q _)
theorem giter_of {f : Addr} {cd : Value} (G : Gl h0) (X : K.In h0) (O : ClsOk K C fs gown) (x : GSt prog w hB1 C di y ro h0) (hi : (("__iter__" : Str), f) ∈ fs) (hf : FnAt h0 f (SM 23 8) "Graph.__iter__" .none cd) : GIter prog w c h0 y.g y.nd y.Nn := by
  intro A h t Q hA hroom k hQ
  have x1 := x.keep k
  have G1 := G.keep k
  refine iter_inst (X.keeps k) O x1.ins hi ?_
  refine call_fn G1 (hf.keep k) (by omega) (binds := [("self", .ref y.g)]) (fun pm => BindsTo.of_eq (by kernel_rfl)) [("self", some (.ref y.g))] fun h1 t1 F => ?_
  have x2 := x1.keep F.keep
  refine wpAny_execs_cons (wpAny_Return_some (Call_ (bname (G1.keep F.keep) (by walk_at "mem") boot_iter (PyProof.Rows.callWith_builtin1 (args_cons (Attribute_Name_ (nm F (by walk_at "mem") (g_attr ((X.keeps k).keeps F.keep) O x2.ins (by decide) x2.e1 (args_nil ?_)))))))))
  obtain ⟨lo, kvs, hd, hk, _⟩ := x2.nd
  refine call_iter_dict lo hd fun h' I ep k' s1 s2 it at_ => ?_
  have hs := Nat.le_of_lt (Nat.lt_of_le_of_lt F.above F.loc.lt)
  exact ⟨I, rfl, let ⟨o, e, q, _⟩ := it; ⟨o, e, q⟩, hQ h' _ I ep kvs (F.keep.trans k') (Nat.le_trans hs s1) s2 x1.nd.lt it at_ hk⟩
/-- the graph as built -/
theorem gr_of {f : Addr} {cd : Value} (G : Gl h0) (X : K.In h0) (O : ClsOk K C fs gown) (x : GSt prog w hB1 C di y ro h0) (hi : (("__iter__" : Str), f) ∈ fs) (hf : FnAt h0 f (SM 23 8) "Graph.__iter__" .none cd) (hN : y.Na = y.Nn) (nd : y.Nn.Nodup) (len : y.Nn.length ≤ 1000)
    (hn : ∀ u ∈ y.Nn, (∀ v ∈ y.nbr u, v ∈ y.Nn) ∧ (y.nbr u).length ≤ 1000) : Gr prog w h0 y.g y.nd y.adj y.Nn y.nbr y.wt y.inn where
  it := fun c => giter_of G X O x hi hf
  at_ := gattr_of X O x
  ndo := x.nd.ex
  nodup := nd
  len := len
  row := hN ▸ x.adj
  nb := fun u hu => ⟨⟨y.ea u, x.inn u (hN ▸ hu), fun v hv => x.ed u (hN ▸ hu) v hv⟩, (hn u hu).1, (hn u hu).2⟩
end
end Mine
end
section
open PySem PySem.W PyProof.Rows PySem.Calls
set_option maxRecDepth 100000
namespace Mine
local macro_rules | `(tactic| walk_at "mem") => `(tactic| with_reducible (first | exact List.mem_cons_self | (refine List.mem_cons_of_mem _ ?_; walk_at "mem")))
section
variable {prog : Program} {w : World} {A : Around} {env : Env} {c : Cst} {h : Heap} {t : Nat}
/-- a list comprehension whose elements change nothing old; Rv j v: what is known of the j-th -/
theorem lcomp {ex : Expr} {scope : Scope} {cl : List (Str × Addr)} {x : Str} {use : Option (Value → Sem Unit)} {Q : Value → Shared → Prop} {I : Addr} {fp : List Addr} {n : Nat} {P : Nat → Value → Prop} {St : Nat → Heap → Prop} {h2 : Heap} {t2 : Nat} {hB : Heap} (Rv : Nat → Value → Heap → Prop)
    (W : Walks prog w A I fp [I] n P St) (st : St 0 h2) (hfp : ∀ b ∈ fp, b < h2.objs.size) (kB : Keep hB h2) (hI1 : hB.objs.size ≤ I) (hI2 : I < h2.objs.size) (hn : n ≤ 1000)
    (dep : ∀ j v, Dep (fun b => b ≠ I ∧ b ≠ h2.objs.size ∧ b ≠ h2.objs.size + 1) (Rv j v))
    (elt : ∀ j v h t, j < n → P j v → h2.objs.size + 1 < h.objs.size → Fn (compEnvC scope cl (h2.objs.size + 1) env) hB (fun _ => True) h [(x, some v)] →
      wpAny (model prog w) A (eval ex (compEnvC scope cl (h2.objs.size + 1) env)) (fun r s' => ∃ h' t', s' = mk c h' t' ∧ Keep h h' ∧ Rv j r h') NE (mk c h t))
    (fin : ∀ h t vs, Keep hB h → h2.objs.size + 1 < h.objs.size → Lst h h2.objs.size vs → vs.length = n → (∀ j v, vs[j]? = some v → Rv j v h) → match use with
      | none => Q (.ref h2.objs.size) (mk c h t)
      | some u => wpAny (model prog w) A (u (.ref h2.objs.size)) (fun _ s'' => ∃ h'' t'', s'' = mk c h'' t'' ∧ (∀ o, h.get? (h2.objs.size + 1) = some o → h''.get? (h2.objs.size + 1) = some o) ∧
          ∀ h', (∀ b o, b ≠ h2.objs.size + 1 → h''.get? b = some o → h'.get? b = some o) → Q .none (mk c h' t'')) NE (mk c h t)) :
    Comp prog w A env c scope cl x { cls := .type "list", data := .seq #[] } (EltL prog w A ex) use Q (.ref I) (mk c h2 t2) := by
  have hDI : h2.objs.size ≠ I := Nat.ne_of_gt hI2
  have hDC : h2.objs.size ≠ h2.objs.size + 1 := Nat.ne_of_lt (Nat.lt_succ_self _)
  refine ⟨I, fp, n, P, St, h2, t2, fun i h => ∃ vs, Lst h h2.objs.size vs ∧ vs.length = i ∧ ∀ j v, vs[j]? = some v → Rv j v h, hB, rfl, rfl, W, st, hfp, ⟨kB, hI1, hI2⟩, ⟨fun h' k => ?_, fun i => ?_, fun i v h t hi hP F => ?_⟩, fun h t k hsz ⟨vs, l1, l2, l3⟩ => by have z := fin h t vs k hsz l1 l2 l3; cases use <;> exact z⟩
  · exact ⟨[], (Lst.new h2 []).keep k, rfl, fun j v e => by simp at e⟩
  · intro h h' k ⟨vs, l1, l2, l3⟩
    exact ⟨vs, l1.at fun o e => k _ o ⟨hDI, hDC⟩ e, l2, fun j v e => dep j v h h' (fun b o z q => k b o ⟨z.1, z.2.2⟩ q) (l3 j v e)⟩
  · have hC : (compEnvC scope cl (h2.objs.size + 1) env).locals = h2.objs.size + 1 := rfl
    have hsz : h2.objs.size + 1 < h.objs.size := F.loc.lt
    refine wpAny_mono (elt i v h t hi hP hsz (F.say trivial Stb.true)) (fun r s' q => ?_) fun _ _ e => e
    obtain ⟨h', t', rfl, k', rv⟩ := q
    obtain ⟨vs, l1, l2, l3⟩ := F.inv
    refine append_m (l1.keep k') (by omega) fun h'' l4 sb => ?_
    have ext : ∀ b o, b ≠ h2.objs.size → h.get? b = some o → h''.get? b = some o := fun b o ne e => sb.extBut b o ne (k' b o e)
    have stb : Stb (compEnvC scope cl (h2.objs.size + 1) env).locals (fun h => ∃ vs, Lst h h2.objs.size vs ∧ vs.length = i + 1 ∧ ∀ j v, vs[j]? = some v → Rv j v h) := fun h h' k ⟨vs, l1, l2, l3⟩ =>
      ⟨vs, l1.at fun o e => k _ o hDC e, l2, fun j v e => dep j v h h' (fun b o z q => k b o z.2.2 q) (l3 j v e)⟩
    refine ⟨h'', t', rfl, fun b o nb e => ext b o (fun z => nb (.inl z)) e, F.upd (a := h2.objs.size) (Nat.le_of_lt (Nat.lt_of_le_of_lt hI1 hI2)) hDC ext ⟨vs ++ [r], l4, by simp [l2], fun j v' e => ?_⟩ stb⟩
    rcases Nat.lt_or_ge j vs.length with q | q
    · rw [List.getElem?_append_left q] at e
      exact dep j v' h h'' (fun b o z q => ext b o z.2.1 q) (l3 j v' e)
    · rw [List.getElem?_append_right q] at e
      have hj : j = vs.length := by
        rcases Nat.lt_or_ge vs.length j with z | z
        · have : 1 ≤ j - vs.length := by omega
          rw [List.getElem?_eq_none (by simpa using this)] at e; cases e
        · exact Nat.le_antisymm z q
      subst hj
      simp at e
      subst e
      rw [l2]
      exact dep i r h' h'' (fun b o z q => sb.extBut b o z.2.1 q) rv
end
end Mine
end
section
open PySem PySem.W PyProof.Rows PySem.Calls
set_option maxRecDepth 100000
namespace Mine
local macro_rules | `(tactic| walk_at "mem") => `(tactic| with_reducible (first | exact List.mem_cons_self | (refine List.mem_cons_of_mem _ ?_; walk_at "mem")))
abbrev lwEnv (cd : Value) (L f : Addr) : Env := envC (S 29) "law" cd L f
abbrev lwl (sc dr ow gr v u sg be to gd du pr we pa st : Option Value) : List (Str × Option Value) :=
  [("script", sc), ("drawn", dr), ("one_way", ow), ("graph", gr), ("v", v), ("u", u), ("sign", sg), ("before", be), ("told", to), ("good", gd), ("due", du), ("prior", pr), ("weights", we), ("path", pa), ("steps", st)]
/-- what is drawn -/
def Drw (vs : List Value) : Prop := ∀ v ∈ vs, ∃ n t, v = .int n t ∧ 0 ≤ n ∧ n < 1048576
theorem fmod_rng (a : Int) {b : Int} (hb : 0 < b) : 0 ≤ a.fmod b ∧ a.fmod b < b := ⟨Int.fmod_nonneg_of_pos a hb, Int.fmod_lt_of_pos a hb⟩
section
variable {M : Model} {A : Around} {E : Value → Shared → Prop} {s : Shared} {env : Env} {Q : Value → Shared → Prop}
theorem evp_none (h : Q .none s) : wpAny M A (evalPart none env) Q E s := wpAny_pure h
theorem evp_some {e : Expr} (h : wpAny M A (eval e env) Q E s) : wpAny M A (evalPart (some e) env) Q E s := h
end
section
variable {prog : Program} {w : World} {A : Around} {c : Cst} {hB h : Heap} {t : Nat} {L f sa : Addr} {cd : Value} {P : Heap → Prop} {E : Value → Shared → Prop}
theorem lw_S0 {vs : List Value} {ns : List Int} {dr ow gr v u sg be to gd du pr we pa st : Option Value} {Q : Flow → Shared → Prop} (dp : Dep (fun b => b < h.objs.size) P) (hA : A.handled = none) (hs : h.IsList sa vs.toArray) (hi : IntsAre vs ns) (hlen : vs.length ≤ 63)
    (F : Fn (lwEnv cd L f) hB P h (lwl (some (.ref sa)) dr ow gr v u sg be to gd du pr we pa st))
    (k : ∀ h' t' D ds, Lst h' D ds → Drw ds → ds.length ≤ 6 → hB.objs.size ≤ D → D ≠ L → KO (fun b => b = L) h h' → Fn (lwEnv cd L f) hB P h' (lwl (some (.ref sa)) (some (.ref D)) ow gr v u sg be to gd du pr we pa st) → Q .next (mk c h' t')) :
    wpAny (model prog w) A (exec (at' (dBody (S 29)) 0) (lwEnv cd L f)) Q NE (mk c h t) := by
  refine asg_lcomp (list_comp (c := c) (wpAny_Subscript_Slice list_getitem_lookup (nm F (by walk_at "mem") (wpAny_Slice (evp_none (evp_some (wpAny_Constant_int (evp_none ?_)))))) (by intro _ _; rfl)))
  generalize hh1 : h.push { cls := .type "slice", data := .fields #[.none, .int 6 (t + 1), .none] } = h1
  have k1 : Keep h h1 := hh1 ▸ Keep.push _ _
  have s1 : h1.objs.size = h.objs.size + 1 := hh1 ▸ Heap.size_push ..
  have hs1 : h1.IsList sa vs.toArray := hs.at fun o e => k1 _ o e
  have sl1 : h1.IsSliceOf h.objs.size .none (.int 6 (t + 1)) .none := hh1 ▸ Heap.IsSliceOf.new ..
  refine ⟨hs1.typeIs (s := mk c h1 (t + 1)), wpAny_getItem_list_slice (s := mk c h1 (t + 1)) hs1 sl1 .none (.int 6 _) .none (by simp) ?_ (by rw [List.size_toArray, sizeLine_eq]; omega)⟩
  have ip := slice_ints_uptoW hi (y := 6) (by decide)
  generalize hxs : slicePick vs.toArray none (some 6) none = xs at ip
  have lx : xs.toList.length ≤ 6 := by rw [ip.length]; simp; omega
  generalize hh2 : h1.push { cls := .type "list", data := .seq xs } = h2
  have k2 : Keep h1 h2 := hh2 ▸ Keep.push _ _
  have s2 : h2.objs.size = h1.objs.size + 1 := hh2 ▸ Heap.size_push ..
  have l2 : h2.IsList h1.objs.size xs := hh2 ▸ ⟨_, Heap.get?_push_size _ rfl, rfl, _, rfl⟩
  refine wpAny_pyIter_list (s := mk c h2 (t + 1)) l2 ?_
  generalize hh3 : h2.push { cls := .type "list_iterator", data := .fields #[.ref h1.objs.size, .int 0 0] } = h3
  have k3 : Keep h2 h3 := hh3 ▸ Keep.push _ _
  have s3 : h3.objs.size = h2.objs.size + 1 := hh3 ▸ Heap.size_push ..
  have hne : h1.objs.size ≠ h2.objs.size := by omega
  have zL := nlt (show L < h.objs.size from F.loc.lt)
  have hBh : hB.objs.size ≤ L := F.above
  refine lcomp (fun _ v _ => ∃ n t, v = .int n t ∧ 0 ≤ n ∧ n < 1048576) (Walks.list hA h2.objs.size h1.objs.size hne xs) ⟨hh3 ▸ ⟨_, Heap.get?_push_size _ rfl, rfl, rfl⟩, l2.at fun o e => k3 _ o e⟩ (fun b hb => ?_) (hB := h2) k3 (Nat.le_refl _) (by show @LT.lt Nat _ h2.objs.size h3.objs.size; omega) (by rw [← Array.length_toList]; omega) (fun j v => Dep.const) (fun j v h t hj hP hsz Fc => ?_) (fun h4 t4 ds k4 sz4 l4 n4 r4 => ?_)
  · simp only [List.mem_cons, List.not_mem_nil, or_false] at hb
    rcases hb with rfl | rfl
    · show @LT.lt Nat _ h2.objs.size h3.objs.size; omega
    · show @LT.lt Nat _ h1.objs.size h3.objs.size; omega
  · have hP : xs[j]? = some v := hP
    obtain ⟨n, tk, rfl⟩ : ∃ n tk, v = .int n tk := by
      have e : xs.toList[j]? = some v := by rw [Array.getElem?_toList]; exact hP
      obtain ⟨n, tk, q, _⟩ := ip.at _ _ e
      exact ⟨n, tk, q⟩
    refine wpAny_BinOp (nm Fc (by walk_at "mem") (wpAny_Constant_int (mod_int' (by decide) ?_)))
    exact ⟨h, t + 1 + 1, rfl, Keep.refl _, _, _, rfl, fmod_rng n (by decide)⟩
  · have kk : Keep h h4 := ((k1.trans k2).trans k4)
    refine wpAny_assign_Name (st1 (F.ext kk) fun h5 t5 F5 sb5 => ?_)
    have nD : h3.objs.size ≠ L := by omega
    have nC : h3.objs.size + 1 ≠ L := by omega
    refine ⟨h5, t5, rfl, fun o e => sb5.extBut _ _ nC e, fun h' e => ?_⟩
    have ek : ∀ b o, b ≠ h3.objs.size + 1 → b ≠ L → h4.get? b = some o → h'.get? b = some o := fun b o n1 n2 q => e b o n1 (sb5.extBut b o n2 q)
    refine k h' t5 h3.objs.size ds (l4.at fun o q => ek _ o (by omega) nD q) (fun v hv => ?_) ?_ (by omega) nD (fun b o hb q => ek b o (by have := nlt (Heap.lt_size q); show @Ne Nat b _; omega) hb (kk b o q)) (F5.off dp (by show ¬ @LT.lt Nat _ _ _; omega) (by omega) nC e)
    · obtain ⟨j, hj, rfl⟩ := List.getElem_of_mem hv
      exact r4 j _ (List.getElem?_eq_getElem hj)
    · rw [n4, ← Array.length_toList]; exact lx
end
end Mine
end
section
open PySem PySem.W PyProof.Rows PySem.Calls
set_option maxRecDepth 100000
namespace Mine
local macro_rules | `(tactic| walk_at "mem") => `(tactic| with_reducible (first | exact List.mem_cons_self | (refine List.mem_cons_of_mem _ ?_; walk_at "mem")))
section
variable {prog : Program} {w : World} {A : Around} {c : Cst} {hB h : Heap} {t : Nat} {L f sa : Addr} {cd : Value} {P : Heap → Prop} {E : Value → Shared → Prop}
/-- a slice of a list -/
theorem slice_tail {value slice : Expr} {l sl : Addr} {items : Array Value} {vl vu : Value} {lo hi : Option Int} {ops : List Value} {Q : Value → Shared → Prop} (hl : h.IsList l items) (hs : h.IsSliceOf sl vl vu .none) (pl : IsPart vl lo) (pu : IsPart vu hi) (hsz : items.size ≤ sizeLine)
    (k : Q (.ref h.objs.size) (mk c (h.push { cls := .type "list", data := .seq (slicePick items lo hi none) }) t)) (hsub : subscripted slice false (.ref l) (.ref sl) = operate ops (getItem (.ref l) (.ref sl))) :
    wpAny (model prog w) A (subscriptTail value slice (.ref l) (.ref sl)) Q E (mk c h t) := by
  unfold subscriptTail
  refine wpAny_bind ?_
  rw [getitemInPython_of_ne (Heap.IsList.typeIs (s := mk c h t) hl).not_modules]
  refine wpAny_bind (wpAny_specialOf (Heap.IsList.typeIs (s := mk c h t) hl) list_getitem_lookup ?_)
  have fin : wpAny (model prog w) A (subscripted slice false (.ref l) (.ref sl)) (fun r s₃ => wpAny (model prog w) A (letTemporaryGo value (.ref l) r >>= fun _ => pure r) Q E s₃) E (mk c h t) := by
    rw [hsub]
    exact wpAny_operating (wpAny_getItem_list_slice (s := mk c h t) hl hs pl pu .none (by simp) (wpAny_bind (wpAny_letTemporaryGo (wpAny_pure k))) hsz)
  first
    | exact wpAny_pure (wpAny_bind fin)
    | exact wpAny_bind (wpAny_pure (wpAny_bind fin))
    | exact wpAny_bind fin
theorem usual_spec {cd' : Value} {Q : Value → Shared → Prop} (G : Gl h) (hf : FnAt h 905 (S 27) "_LAW_USUAL" .none cd') (hroom : A.depth < recursionLimit)
    (hQ : ∀ h' t' a vs, Keep h h' → Lst h' a vs → IntsAre vs [0, 2224, 28672, 96, 851968, 2560] → h.objs.size ≤ a → Q (.ref a) (mk c h' t')) :
    wpAny (model prog w) A (call (.ref 905) []) Q NE (mk c h t) := by
  refine call_fn G hf hroom (binds := []) (fun pm => BindsTo.of_eq (by kernel_rfl)) [] fun h1 t1 F => ?_
  refine wpAny_execs_cons (wpAny_Return_some (List_ (args_cons (wpAny_Constant_int (args_cons (wpAny_Constant_int (args_cons (wpAny_Constant_int (args_cons (wpAny_Constant_int (args_cons (wpAny_Constant_int (args_cons (wpAny_Constant_int (args_nil
    (newList_m (t := t1 + 6) ?_ (by rw [sizeLine_eq]; show 6 ≤ _; decide)))))))))))))))))
  exact hQ _ _ _ _ (F.keep.trans (Keep.push _ _)) (Lst.new _ _) (.cons _ _ (.cons _ _ (.cons _ _ (.cons _ _ (.cons _ _ (.cons _ _ .nil)))))) (Nat.le_of_lt (Nat.lt_of_le_of_lt F.above F.loc.lt))
theorem lw_S1 {D : Addr} {ds : List Value} {cd' : Value} {sc ow gr v u sg be to gd du pr we pa st : Option Value} {Q : Flow → Shared → Prop} (G : Gl hB) (hf : FnAt hB 905 (S 27) "_LAW_USUAL" .none cd') (hroom : A.depth < recursionLimit) (l : Lst h D ds) (hd : Drw ds) (hlen : ds.length ≤ 6)
    (F : Fn (lwEnv cd L f) hB P h (lwl sc (some (.ref D)) ow gr v u sg be to gd du pr we pa st))
    (k : ∀ h' t' D ds, Lst h' D ds → Drw ds → ds.length = 6 → hB.objs.size ≤ D → D ≠ L → KO (fun b => b = L) h h' → Fn (lwEnv cd L f) hB P h' (lwl sc (some (.ref D)) ow gr v u sg be to gd du pr we pa st) → Q .next (mk c h' t')) :
    wpAny (model prog w) A (exec (at' (dBody (S 29)) 1) (lwEnv cd L f)) Q NE (mk c h t) := by
  have ⟨o, pm, ho, hdat, _⟩ := hf.keep F.keep
  refine wpAny_Assign_Name (wpAny_BinOp (nm F (by walk_at "mem") (Subscript_ (Call_ (gname (G.keep F.keep) (by walk_at "mem") (callWith_meth0 (first := []) hdat ho (usual_spec (G.keep F.keep) (hf.keep F.keep) hroom fun h1 t1 a vs k1 l1 i1 s1 => ?_)))))))
  have F1 := F.ext k1
  refine wpAny_Slice (evp_some (Call_ (bname (G.keep F1.keep) (by walk_at "mem") PySem.boot_len (PyProof.Rows.callWith_builtin1 (args_cons (nm F1 (by walk_at "mem") (args_nil (call_len_list (s := mk c h1 t1) (l.keep k1).isList (by rw [List.size_toArray]; omega) (evp_none (evp_none ?_))))))))))
  generalize hh2 : h1.push { cls := .type "slice", data := .fields #[.int ds.toArray.size (t1 + 1 + 1), .none, .none] } = h2
  have k2 : Keep h1 h2 := hh2 ▸ Keep.push _ _
  have s2 : h2.objs.size = h1.objs.size + 1 := hh2 ▸ Heap.size_push ..
  have l2 := l1.keep k2
  have sl2 : h2.IsSliceOf h1.objs.size (.int ds.toArray.size (t1 + 1 + 1)) .none .none := hh2 ▸ Heap.IsSliceOf.new ..
  have vl : vs.length = 6 := by rw [i1.length]; rfl
  refine slice_tail (t := t1 + 1 + 1) l2.isList sl2 (.int _ _) .none (by rw [List.size_toArray, sizeLine_eq]; omega) ?_ (by with_unfolding_all rfl)
  have ip := slice_ints_fromW i1 (x := (ds.toArray.size : Int)) (by omega)
  generalize hxs : slicePick vs.toArray (some (ds.toArray.size : Int)) none none = xs at ip
  have lx : xs.toList.length + ds.length = 6 := by rw [ip.length]; simp; omega
  generalize hh3 : h2.push { cls := .type "list", data := .seq xs } = h3
  have k3 : Keep h2 h3 := hh3 ▸ Keep.push _ _
  have s3 : h3.objs.size = h2.objs.size + 1 := hh3 ▸ Heap.size_push ..
  have l3 : IsL h3 h2.objs.size xs 0 := hh3 ▸ Heap.get?_push_size _ rfl
  obtain ⟨nd, l0⟩ := l.keep ((k1.trans k2).trans k3)
  refine PySem.P.add_list (s := mk c h3 (t1 + 1 + 1)) l0 l3 ?_ (by rw [List.size_toArray, sizeLine_eq]; have := Array.length_toList (xs := xs); omega)
  have F3 := F1.ext (k2.trans k3)
  generalize hh4 : h3.push { cls := .type "list", data := .seq (ds.toArray ++ xs) } = h4
  have k4 : Keep h3 h4 := hh4 ▸ Keep.push _ _
  have l4 : Lst h4 h3.objs.size (ds ++ xs.toList) := ⟨0, by rw [← hh4]; exact (Heap.get?_push_size _ rfl).trans (by simp)⟩
  refine st1 (F3.ext k4) fun h5 t5 F5 sb5 => ?_
  have zL := nlt (show L < h.objs.size from F.loc.lt)
  have hBh : hB.objs.size ≤ L := F.above
  have s1' := nle s1
  have za := nlt l1.lt
  have nD : (h3.objs.size : Nat) ≠ L := by omega
  refine k h5 t5 h3.objs.size (ds ++ xs.toList) (l4.at fun o q => sb5.extBut _ _ nD q) (fun v hv => ?_) (by rw [List.length_append]; omega) (by omega) nD (((((k1.trans k2).trans k3).trans k4).ko).but sb5 rfl) F5
  rcases List.mem_append.mp hv with q | q
  · exact hd v q
  · obtain ⟨j, hj, rfl⟩ := List.getElem_of_mem q
    obtain ⟨n, tk, e1, e2⟩ := ip.at _ _ (List.getElem?_eq_getElem hj)
    refine ⟨n, tk, e1, ?_⟩
    have : n ∈ ([0, 2224, 28672, 96, 851968, 2560] : List Int) := List.mem_of_mem_drop (List.mem_of_getElem? e2)
    simp only [List.mem_cons, List.not_mem_nil, or_false] at this
    rcases this with rfl | rfl | rfl | rfl | rfl | rfl <;> decide
end
end Mine
end
section
open PySem PySem.W PyProof.Rows PySem.Calls
set_option maxRecDepth 100000
namespace Mine
local macro_rules | `(tactic| walk_at "mem") => `(tactic| with_reducible (first | exact List.mem_cons_self | (refine List.mem_cons_of_mem _ ?_; walk_at "mem")))
/-- law's three cells: size, rows, least -/
def lwC (L : Addr) (sz rw le : Option Value) (h : Heap) : Prop := h.IsCell (L + 1) sz ∧ h.IsCell (L + 2) rw ∧ h.IsCell (L + 3) le
theorem lwC.dep {L : Addr} {sz rw le : Option Value} : Dep (fun b => b = L + 1 ∨ b = L + 2 ∨ b = L + 3) (lwC L sz rw le) := .and (Dep.cell (.inl rfl)) (.and (Dep.cell (.inr (.inl rfl))) (Dep.cell (.inr (.inr rfl))))
def lwP1 (L D : Addr) (ds : List Value) (sz rw le : Option Value) (h : Heap) : Prop := lwC L sz rw le h ∧ Lst h D ds
theorem lwP1.dep {L D : Addr} {ds : List Value} {sz rw le : Option Value} : Dep (fun b => b = D ∨ b = L + 1 ∨ b = L + 2 ∨ b = L + 3) (lwP1 L D ds sz rw le) :=
  .and (lwC.dep.mono fun _ x => .inr x) (Dep.at (.inl rfl) fun _ _ k x => x.at k)
theorem lwP1.stb {L D : Addr} {ds : List Value} {sz rw le : Option Value} (h : D ≠ L) : Stb L (lwP1 L D ds sz rw le) := lwP1.dep.stb fun x => by
  rcases x with x | x | x | x
  · exact h x.symm
  · exact absurd x (Nat.ne_of_lt (Nat.lt_succ_self L))
  · exact absurd x (Nat.ne_of_lt (by omega))
  · exact absurd x (Nat.ne_of_lt (by omega))
section
variable {prog : Program} {w : World} {A : Around} {c : Cst} {hB h : Heap} {t : Nat} {L f D : Addr} {cd : Value} {P : Heap → Prop} {E : Value → Shared → Prop} {ds : List Value}
theorem lst_itm {value slice : Expr} {l : Addr} {vs : List Value} {k : Int} {u : Tok} {x : Value} {Q : Value → Shared → Prop} (hl : Lst h l vs) (h0 : 0 ≤ k) (hfit : k < 2 ^ 63) (hx : vs[k.toNat]? = some x) (q : Q x (mk c h t))
    (hs : subscripted slice false (.ref l) (.int k u) = operate [.ref l, .int k u] (getItem (.ref l) (.int k u)) := by with_unfolding_all rfl) :
    wpAny (model prog w) A (subscriptTail value slice (.ref l) (.int k u)) Q E (mk c h t) :=
  subscriptTail_builtinR (s := mk c h t) (x := x) (Heap.IsList.typeIs (s := mk c h t) hl.isList) slot_list_getitem.lookup (wpAny_getItem_list (s := mk c h t) hl.isList h0 hfit (by simpa using hx) ⟨rfl, q⟩) hs
theorem drw_at {ds : List Value} (hd : Drw ds) {i : Nat} (hi : i < ds.length) : ∃ n t, ds[i]? = some (.int n t) ∧ 0 ≤ n ∧ n < 1048576 := by
  obtain ⟨n, t, e, h1, h2⟩ := hd _ (List.getElem_mem hi)
  exact ⟨n, t, by rw [List.getElem?_eq_getElem hi, e], h1, h2⟩
theorem size_rng (n0 : Int) : ∃ n : Nat, (5 - n0.fmod 5 : Int) = n ∧ 1 ≤ n ∧ n ≤ 5 := by
  have rg := fmod_rng n0 (b := 5) (by decide)
  exact ⟨(5 - n0.fmod 5).toNat, by omega, by omega, by omega⟩
theorem lw_S2 {sc ow gr v u sg be to gd du pr we pa st : Option Value} {Q : Flow → Shared → Prop} (hA : A.handled = none) (hd : Drw ds) (hlen : ds.length = 6) (hD : D ≠ L)
    (F : Fn (lwEnv cd L f) hB (lwP1 L D ds none none none) h (lwl sc (some (.ref D)) ow gr v u sg be to gd du pr we pa st))
    (k : ∀ h' t' (n : Nat) tn (o : Bool), 1 ≤ n → n ≤ 5 → KO (fun b => b = L ∨ b = L + 1) h h' → Fn (lwEnv cd L f) hB (lwP1 L D ds (some (.int n tn)) none none) h' (lwl sc (some (.ref D)) (some (.bool o)) gr v u sg be to gd du pr we pa st) → Q .next (mk c h' t')) :
    wpAny (model prog w) A (exec (at' (dBody (S 29)) 2) (lwEnv cd L f)) Q NE (mk c h t) := by
  obtain ⟨n0, t0, e0, r1, r2⟩ := drw_at hd (i := 0) (by omega)
  obtain ⟨n, hn, hn1, hn5⟩ := size_rng n0
  have k' : ∀ z : Int, z = n → ∀ h' t' tn o, KO (fun b => b = L ∨ b = L + 1) h h' → Fn (lwEnv cd L f) hB (lwP1 L D ds (some (.int z tn)) none none) h' (lwl sc (some (.ref D)) (some (.bool o)) gr v u sg be to gd du pr we pa st) → Q .next (mk c h' t') := by
    rintro z rfl h' t' tn o ko X
    exact k h' t' n tn o hn1 hn5 ko X
  have k' := k' _ hn
  refine Assign_Tuple (Tuple_ (args_cons (wpAny_BinOp (wpAny_Constant_int (wpAny_BinOp (Subscript_ (nm F (by walk_at "mem") (wpAny_Constant_int (lst_itm (t := t + 1 + 1) F.inv.2 (by decide) (by decide) e0 (wpAny_Constant_int (mod_int' (by decide) (PySem.P.sub_int ?_))))))))))))
  refine args_cons (wpAny_Compare1 (wpAny_BinOp (wpAny_BinOp (Subscript_ (nm F (by walk_at "mem") (wpAny_Constant_int (lst_itm (t := t + 1 + 1 + 1 + 1 + 1 + 1) F.inv.2 (by decide) (by decide) e0 (wpAny_Constant_int (floordiv_int (by decide) (wpAny_Constant_int (mod_int' (by decide) (wpAny_Constant_int (PySem.P.eq_int (args_nil (wpAny_newTuple ?_ (by rw [sizeLine_eq]; show 2 ≤ _; decide))))))))))))))))
  refine assign2' (c := c) hA ⟨_, Heap.get?_push_size _ rfl, rfl, _, rfl⟩ fun h2 k2 => ?_
  have F2 := (F.push _).ext k2
  have c2 := F2.inv.1
  have zL : L < h.objs.size := F.loc.lt
  refine stc c2.1 (fun h3 c3 sb3 => ?_) (by rfl)
  have o3 : ∀ b : Nat, b ≠ L + 1 → ∀ o, h2.get? b = some o → h3.get? b = some o := fun b nb o e => sb3.extBut b o nb e
  have hB1 : hB.objs.size ≤ L + 1 := Nat.le_succ_of_le F.above
  have hcl : ∀ b, (b = L + 1 ∨ b = L + 2 ∨ b = L + 3) → b ≠ D := fun b q e => by
    obtain ⟨nn, eD⟩ := F2.inv.2
    rcases q with q | q | q
    · obtain ⟨o, e1, d1⟩ := c2.1; rw [← q, e, eD] at e1; cases e1; cases d1
    · obtain ⟨o, e1, d1⟩ := c2.2.1; rw [← q, e, eD] at e1; cases e1; cases d1
    · obtain ⟨o, e1, d1⟩ := c2.2.2; rw [← q, e, eD] at e1; cases e1; cases d1
  have F3 := F2.upd (P' := lwP1 L D ds (some (.int (5 - n0.fmod 5) _)) none none) hB1 (show @Ne Nat (L + 1) L by omega) sb3.extBut
    ⟨⟨c3, let ⟨o, e, d⟩ := c2.2.1; ⟨o, o3 _ (by omega) _ e, d⟩, let ⟨o, e, d⟩ := c2.2.2; ⟨o, o3 _ (by omega) _ e, d⟩⟩, F2.inv.2.at fun o e => o3 D (fun q => hcl _ (.inl rfl) q.symm) o e⟩ (lwP1.stb hD)
  refine st2 F3 fun h4 t4 F4 sb4 => ?_
  exact k' h4 t4 _ _ ((((Keep.push _ _).trans k2).ko.but sb3 (.inr rfl)).but sb4 (.inl rfl)) F4
end
end Mine
end
section
open PySem PySem.W PyProof.Rows PySem.Calls
set_option maxRecDepth 100000
namespace Mine
local macro_rules | `(tactic| walk_at "mem") => `(tactic| with_reducible (first | exact List.mem_cons_self | (refine List.mem_cons_of_mem _ ?_; walk_at "mem")))
abbrev fsOf (o : Bool) : List (Str × Addr) := [("node_dict_factory", 395), ("node_attr_dict_factory", 402), ("adjlist_outer_dict_factory", 409), ("adjlist_inner_dict_factory", 416), ("edge_attr_dict_factory", 423), ("graph_attr_dict_factory", 430),
  ("__init__", if o then 697 else 438), ("__iter__", 455), ("add_node", if o then 734 else 483), ("add_edge", if o then 762 else 542)]
abbrev clsA (o : Bool) : Addr := if o then 889 else 674
/-- what the heap holds of the program when law is called -/
structure LB (h0 : Heap) (K : Frag) : Prop where
  bs : Bs h0
  nb : NoneBooked h0
  X : K.In h0
  O : ∀ o, ClsOk K (clsA o) (fsOf o) gown
  T : ∀ o, Facs h0 (fsOf o)
  kp : ∀ o, keepIn K (.ref (clsA o)) = true
  f88 : FnAt h0 88 (S 10) "floyd_warshall_tree" (.ref 83) (.ref 87)
  f96 : FnAt h0 96 (S 11) "floyd_warshall_predecessor_and_distance" (.ref 89) (.ref 95)
  f103 : ∃ cd, FnAt h0 103 (S 12) "reconstruct_path" .none cd
  f905 : ∃ cd, FnAt h0 905 (S 27) "_LAW_USUAL" .none cd
  f912 : ∃ cd, FnAt h0 912 (S 28) "_law_least" .none cd
  d83 : ∃ o tk n, h0.get? 83 = some o ∧ o.data = .seq #[.str "weight" tk] n
  d89 : ∃ o tk n, h0.get? 89 = some o ∧ o.data = .seq #[.str "weight" tk] n
  iG : ∃ dt cd, FnAt h0 438 (SM 23 6) "Graph.__init__" (.ref dt) cd ∧ ∃ o n, h0.get? dt = some o ∧ o.data = .seq #[.none] n
  iD : ∃ dt cd, FnAt h0 697 (SM 25 0) "DiGraph.__init__" (.ref dt) cd ∧ ∃ o n, h0.get? dt = some o ∧ o.data = .seq #[.none] n
  it : ∃ cd, FnAt h0 455 (SM 23 8) "Graph.__iter__" .none cd
  nG : ∃ cd, FnAt h0 483 (SM 23 12) "Graph.add_node" .none cd
  nD : ∃ cd, FnAt h0 734 (SM 25 4) "DiGraph.add_node" .none cd
  eG : ∃ cd, FnAt h0 542 (SM 23 20) "Graph.add_edge" .none cd
  eD : ∃ cd, FnAt h0 762 (SM 25 8) "DiGraph.add_edge" .none cd
theorem LB.gb {h0 : Heap} {K : Frag} (B : LB h0 K) (o : Bool) : GB h0 K (clsA o) (fsOf o) := ⟨B.bs.G, B.X, B.O o, B.T o⟩
theorem mem_fs (o : Bool) : (("__init__" : Str), (if o then (697 : Addr) else 438)) ∈ fsOf o := by unfold fsOf; simp
theorem Fn.mut {env : Env} {hB h h' : Heap} {P P' : Heap → Prop} {l} {W : Addr → Prop} (F : Fn env hB P h l) (ko : KO W h h') (hW : ∀ b, W b → hB.objs.size ≤ b ∧ b ≠ env.locals) (i : P' h') (s : Stb env.locals P') : Fn env hB P' h' l :=
  F.to (fun b o e e' => ko b o (fun q => absurd (Heap.lt_size e) (Nat.not_lt.mpr (hW b q).1)) e') (fun o e => ko _ o (fun q => (hW _ q).2 rfl) e) i s
section
variable {prog : Program} {w : World} {A : Around} {c : Cst} {hB h : Heap} {t : Nat} {L f D : Addr} {cd : Value} {K : Frag} {E : Value → Shared → Prop} {ds : List Value}
/-- the graph in law's frame; all its labels lie at m0 or above -/
def lwP2 (prog : Program) (w : World) (hB : Heap) (L D : Addr) (ds : List Value) (sz rw le : Option Value) (o : Bool) (y : GD) (ro : Addr → Nat × Int) (h : Heap) : Prop :=
  lwP1 L D ds sz rw le h ∧ GSt prog w hB (clsA o) o y ro h
theorem lwP2.dep {sz rw le : Option Value} {o : Bool} {y : GD} {ro : Addr → Nat × Int} : Dep (fun b => lab ro b ∨ b = D ∨ b = L + 1 ∨ b = L + 2 ∨ b = L + 3) (lwP2 prog w hB L D ds sz rw le o y ro) :=
  .and (lwP1.dep.mono fun _ x => .inr x) (GSt.dep.mono fun _ x => .inl x)
theorem lwP2.stb {sz rw le : Option Value} {o : Bool} {y : GD} {ro : Addr → Nat × Int} (h : D ≠ L) (h2 : ¬ lab ro L) : Stb L (lwP2 prog w hB L D ds sz rw le o y ro) :=
  Stb.and (lwP1.stb h) (GSt.stb h2)
theorem lw_S3 {sc gr v u sg be to gd du pr we pa st sz : Option Value} {o : Bool} {Q : Flow → Shared → Prop} (B : LB hB K) (hD : D ≠ L) (hroom : A.depth + 10 < recursionLimit)
    (F : Fn (lwEnv cd L f) hB (lwP1 L D ds sz none none) h (lwl sc (some (.ref D)) (some (.bool o)) gr v u sg be to gd du pr we pa st))
    (k : ∀ h' t' y ro, (∀ b, lab ro b → h.objs.size ≤ b) → y.Nn = [] → y.Na = [] → (o = true → y.Np = []) → (∀ u, y.nbr u = []) → (o = true → ∀ u, y.pnb u = []) → KO (fun b => b = L) h h' →
      Fn (lwEnv cd L f) hB (lwP2 prog w hB L D ds sz none none o y ro) h' (lwl sc (some (.ref D)) (some (.bool o)) (some (.ref y.g)) v u sg be to gd du pr we pa st) → Q .next (mk c h' t')) :
    wpAny (model prog w) A (exec (at' (dBody (S 29)) 3) (lwEnv cd L f)) Q NE (mk c h t) := by
  have zL := nlt (show L < h.objs.size from F.loc.lt)
  have hBL : hB.objs.size ≤ L := F.above
  have fin : ∀ h1 t1 y ro, GSt prog w hB (clsA o) o y ro h1 → Keep h h1 → (∀ b, lab ro b → h.objs.size ≤ b) → y.Nn = [] → y.Na = [] → (o = true → y.Np = []) → (∀ u, y.nbr u = []) → (o = true → ∀ u, y.pnb u = []) →
      wpAny (model prog w) A (storeName (lwEnv cd L f) "graph" (.ref y.g)) (fun _ => Q .next) NE (mk c h1 t1) := fun h1 t1 y ro x k1 lo e1 e2 e3 e4 e5 => by
    have nl : ¬ lab ro L := fun q => Nat.not_lt.mpr (lo L q) zL
    have F1 := (F.ext k1).say (P' := lwP2 prog w hB L D ds sz none none o y ro) ⟨(F.ext k1).inv, x⟩ (lwP2.stb hD nl)
    exact st3 F1 fun h2 t2 F2 sb2 => k h2 t2 y ro lo e1 e2 e3 e4 e5 (k1.ko.but sb2 rfl) F2
  have hg := (B.gb o)
  obtain ⟨dt, cdG, iG, dG⟩ := B.iG
  obtain ⟨dt', cdD, iD, dD⟩ := B.iD
  cases o with
  | true =>
    refine wpAny_Assign_Name (wpAny_IfExp ?_)
    refine isTrue_plain ?_ (by with_unfolding_all rfl)
    refine nm F (v := .bool true) ?_ ?_
    · walk_at "mem"
    refine wpAny_truthy_bool ?_
    rw [if_pos rfl]
    refine Call_ (gname (B.bs.G.keep F.keep) (by walk_at "mem") (callWith_K0 (s := mk c h t) (B.X.keeps F.keep) (show keepIn K (.ref 889) = true from B.kp true) ?_))
    exact make_D (C := 889) (hg : GB hB K 889 (fsOf true)) (mem_fs true) iD dD hroom F.keep (by omega) fun h1 t1 y ro x k1 lo e1 e2 e3 e4 e5 => fin h1 t1 y ro x k1 lo e1 e2 (fun _ => e3) e4 fun _ => e5
  | false =>
    refine wpAny_Assign_Name (wpAny_IfExp ?_)
    refine isTrue_plain ?_ (by with_unfolding_all rfl)
    refine nm F (v := .bool false) ?_ ?_
    · walk_at "mem"
    refine wpAny_truthy_bool ?_
    rw [if_neg (by decide)]
    refine Call_ (gname (B.bs.G.keep F.keep) (by walk_at "mem") (callWith_K0 (s := mk c h t) (B.X.keeps F.keep) (show keepIn K (.ref 674) = true from B.kp false) ?_))
    exact make_G (C := 674) (hg : GB hB K 674 (fsOf false)) (mem_fs false) iG dG hroom F.keep (by omega) fun h1 t1 y ro x k1 lo e1 e2 e4 => fin h1 t1 y ro x k1 lo e1 e2 (fun d => nomatch d) e4 fun d => nomatch d
end
end Mine
end
section
open PySem PySem.W PyProof.Rows PySem.Calls
set_option maxRecDepth 100000
namespace Mine
local macro_rules | `(tactic| walk_at "mem") => `(tactic| with_reducible (first | exact List.mem_cons_self | (refine List.mem_cons_of_mem _ ?_; walk_at "mem")))
section
variable {prog : Program} {w : World} {A : Around} {env : Env} {c : Cst} {h : Heap} {t : Nat}
/-- over range(n) -/
theorem loops_rangeT {target : Expr} {body : List Stmt} {Q : Flow → Shared → Prop} {r : Addr} {a b : Int} {t0 t1 t2 : Tok} (hA : A.handled = none) (x : IsRange h r a b 1 t0 t1 t2) (hab : a ≤ b) (ha : 0 ≤ a) (hb : b ≤ 1000)
    (Inv : Int → Heap → Nat → Prop) (i0 : Inv a h t)
    (hst : ∀ i h₁ t₁ h' t', (∀ b o, b ≠ h.objs.size → h₁.get? b = some o → h'.get? b = some o) → Inv i h₁ t₁ → Inv i h' t')
    (turn : ∀ i h₁ t₁ tk, a ≤ i → i < b → h.objs.size < h₁.objs.size → Inv i h₁ t₁ → wpAny (model prog w) A (assign target env (.int i tk)) (fun _ s₂ => wpAny (model prog w) A (execs body env) (Turn c (fun b => b ≠ h.objs.size) h₁ Q (Inv (i + 1))) NE s₂) NE (mk c h₁ t₁))
    (fin : ∀ h t, Inv b h t → Q .next (mk c h t)) :
    wpAny (model prog w) A (pyIter (.ref r)) (LoopsS prog w A env c target body Q fun b => b ≠ h.objs.size) NE (mk c h t) := by
  have hsz : Builtin.Range.rangeSize a b 1 = ((b - a).toNat : Int) := by
    unfold Builtin.Range.rangeSize
    by_cases e : a < b
    · simp [e]; omega
    · simp [e]; omega
  have hsm : Builtin.Range.small a b 1 = true := by
    simp only [Builtin.Range.small, Builtin.Range.rangeFitsLong, hsz, Bool.and_eq_true, Bool.or_eq_true, decide_eq_true_eq, beq_iff_eq]
    refine ⟨⟨⟨⟨?_, ?_⟩, ?_⟩, ?_⟩, Or.inr ?_⟩
    all_goals (try simp only [gt_iff_lt, Int.zero_lt_one, if_true])
    all_goals (try simp)
    all_goals (first | omega | (constructor <;> omega) | skip)
  refine wpAny_pyIter_range (s := mk c h t) x hsm ?_
  rw [hsz]
  refine ⟨h.objs.size, [h.objs.size], (b - a).toNat, _, _, _, t, fun i h t => Inv (a + i) h t, rfl, rfl, Walks.range hA _ a 1 (b - a).toNat, ?_, ?_, ?_, ?_, ?_, ?_, ?_⟩
  · show IsRangeIter _ _ _ _ _
    simpa using Heap.get?_push_size _ rfl
  · intro b hb
    rw [List.mem_singleton.mp hb]
    exact fun e => e rfl
  · intro i s v Q' st hq
    unfold letOwnedTupleGo
    cases target <;> first
      | exact wpAny_pure hq
      | (cases v <;> first
          | exact wpAny_pure hq
          | (refine wpAny_bind (wpAny_load st ?_)
             exact wpAny_pure hq))
  · have := hst a h t (h.push { cls := .type "range_iterator", data := .fields #[rawInt a, rawInt ((b - a).toNat : Int), rawInt 1] }) t (fun b o _ e => Heap.get?_push_of_some _ e) i0
    simpa using this
  · intro i h t h' t' hk iv; exact hst _ h t h' t' hk iv
  · rintro i h₁ t₁ hi st iv v ⟨tk, rfl⟩
    have := turn (a + i) h₁ t₁ tk (by omega) (by omega) (Heap.lt_size st) iv
    have e : a + (i : Int) * 1 = a + i := by omega
    have e2 : a + ((i + 1 : Nat) : Int) = a + i + 1 := by omega
    rw [e]
    show wpAny _ _ _ (fun x s₂ => wpAny _ _ _ (Turn c (fun b => b ≠ h.objs.size) h₁ Q (Inv (a + ((i + 1 : Nat) : Int)))) NE s₂) NE _
    rw [e2]
    exact this
  · intro h t iv
    have e : a + ((b - a).toNat : Int) = b := by omega
    try dsimp only at iv
    rw [e] at iv
    exact fin h t iv
end
/-- range(0), range(1), ... as a list -/
def rng (n : Nat) : List Int := (List.range n).map fun i : Nat => (i : Int)
theorem rng_succ (n : Nat) : rng (n + 1) = rng n ++ [(n : Int)] := by simp [rng, List.range_succ]
theorem mem_rng {n : Nat} {v : Int} : v ∈ rng n ↔ 0 ≤ v ∧ v < n := by
  simp only [rng, List.mem_map, List.mem_range]
  constructor
  · rintro ⟨a, h, rfl⟩; omega
  · rintro ⟨h1, h2⟩; exact ⟨v.toNat, by omega, by omega⟩
theorem rng_len (n : Nat) : (rng n).length = n := by simp [rng]
theorem rng_nodup (n : Nat) : (rng n).Nodup := by
  unfold rng
  exact List.Pairwise.map _ (fun (a b : Nat) (h : a ≠ b) (e : (a : Int) = b) => h (by omega)) List.nodup_range
section
variable {prog : Program} {w : World} {A : Around} {c : Cst} {hB h : Heap} {t : Nat} {L f D : Addr} {cd : Value} {K : Frag} {E : Value → Shared → Prop} {ds : List Value}
theorem addn_any {o : Bool} {v : Int} {tv : Tok} {y : GD} {ro : Addr → Nat × Int} {env : Env} {p' : Pos} {pos : Pos} {pl : Sem Bool} {Q : Value → Shared → Prop} (B : LB hB K) (hroom : A.depth + 10 < recursionLimit) (k0 : Keep hB h) (hsz : hB.objs.size ≤ h.objs.size) (x : GSt prog w hB (clsA o) o y ro h)
    (hv1 : v ∉ y.Nn) (hv2 : v ∉ y.Na) (hv3 : o = true → v ∉ y.Np) (len1 : y.Nn.length ≤ 1000) (len2 : y.Na.length ≤ 1000) (len3 : o = true → y.Np.length ≤ 1000)
    (he : ∀ Q' : Value → Shared → Prop, Q' (.int v tv) (mk c h t) → wpAny (model prog w) A (eval (.Name "v" p') env) Q' NE (mk c h t))
    (hQ : ∀ h' t' y' ro', GSt prog w hB (clsA o) o y' ro' h' → KO (lab ro) h h' → (∀ b, b < h.objs.size → ro' b = ro b) → y'.g = y.g → y'.Nn = addk y.Nn v → y'.Na = addk y.Na v → (o = true → y'.Np = addk y.Np v) → (∀ u, y.nbr u = [] → y'.nbr u = []) → (o = true → ∀ u, y.pnb u = [] → y'.pnb u = []) → Q .none (mk c h' t')) :
    wpAny (model prog w) A (getMethod (.ref y.g) "add_node" pl) (fun fx s₂ => wpAny (model prog w) A (callWith pos fx.1 fx.2 (backTo pos (starEach [.Name "v" p'] env)) []) Q NE s₂) NE (mk c h t) := by
  have hu : ∀ (f : Int → List Int) (u : Int), f u = [] → upd f v [] u = [] := fun f u q => by unfold upd; split <;> simp_all
  cases o with
  | true =>
    obtain ⟨cd, hf⟩ := B.nD
    have ⟨ob, pm, ho, hd, _⟩ := hf
    refine g_meth (C := 889) (f := 734) (B.X.keeps k0) (B.O true) x.ins (by simp [fsOf]) (x.e4 _ (by decide)) (callWith_meth hd ho (args_cons (he _ (args_nil ⟨k0, ?_⟩))))
    exact addn_D (B.gb true) hf (by omega) k0 hsz x hv1 hv2 (hv3 rfl) len1 len2 (len3 rfl) fun h' t' a a' b ro' x' ko r => hQ h' t' _ ro' x' ko r rfl rfl rfl (fun _ => rfl) (hu y.nbr) fun _ => hu y.pnb
  | false =>
    obtain ⟨cd, hf⟩ := B.nG
    have ⟨ob, pm, ho, hd, _⟩ := hf
    refine g_meth (C := 674) (f := 483) (B.X.keeps k0) (B.O false) x.ins (by simp [fsOf]) (x.e4 _ (by decide)) (callWith_meth hd ho (args_cons (he _ (args_nil ⟨k0, ?_⟩))))
    exact addn_G (B.gb false) hf (by omega) k0 hsz x hv1 hv2 len1 len2 fun h' t' a b ro' x' ko r => hQ h' t' _ ro' x' ko r rfl rfl rfl (fun d => nomatch d) (hu y.nbr) fun d => nomatch d
theorem addk_rng (n : Nat) : addk (rng n) (n : Int) = rng (n + 1) := by rw [addk, if_neg (fun q => by have := mem_rng.mp q; omega), rng_succ]
theorem lw_S4 {sc v u sg be to gd du pr we pa st : Option Value} {o : Bool} {n : Nat} {tn : Tok} {y : GD} {ro : Addr → Nat × Int} {m0 : Nat} {Q : Flow → Shared → Prop} (B : LB hB K) (hA : A.handled = none) (hroom : A.depth + 10 < recursionLimit) (hn : n ≤ 5) (hD : D ≠ L) (hm : L + 3 < m0) (hmD : D < m0) (hmh : m0 ≤ h.objs.size) (hlo : ∀ b, lab ro b → m0 ≤ b)
    (e1 : y.Nn = []) (e2 : y.Na = []) (e3 : o = true → y.Np = []) (e4 : ∀ u, y.nbr u = []) (e5 : o = true → ∀ u, y.pnb u = [])
    (F : Fn (lwEnv cd L f) hB (lwP2 prog w hB L D ds (some (.int n tn)) none none o y ro) h (lwl sc (some (.ref D)) (some (.bool o)) (some (.ref y.g)) v u sg be to gd du pr we pa st))
    (k : ∀ h' t' y ro v, (∀ b, lab ro b → m0 ≤ b) → y.Nn = rng n → y.Na = rng n → (o = true → y.Np = rng n) → (∀ u, y.nbr u = []) → (o = true → ∀ u, y.pnb u = []) → m0 ≤ h'.objs.size →
      Fn (lwEnv cd L f) hB (lwP2 prog w hB L D ds (some (.int n tn)) none none o y ro) h' (lwl sc (some (.ref D)) (some (.bool o)) (some (.ref y.g)) v u sg be to gd du pr we pa st) → Q .next (mk c h' t')) :
    wpAny (model prog w) A (exec (at' (dBody (S 29)) 4) (lwEnv cd L f)) Q NE (mk c h t) := by
  have zL := nlt (show L < h.objs.size from F.loc.lt)
  have hm := nlt hm
  have hmD := nlt hmD
  have hBL : hB.objs.size ≤ L := F.above
  refine for_walksS (c := c) (fun b => b ≠ h.objs.size + 1) (Call_ (bname (B.bs.G.keep F.keep) (by walk_at "mem") boot_range (Pv.callWith_type1 (args_cons (nmc F.inv.1.1.1 (args_nil (call_range_1 (s := mk c h t) (mk_toks (n := 2) ?_))))))))
  generalize hh1 : h.push { cls := .type "range", data := .fields #[.int 0 (t + 1), .int n tn, .int 1 (t + 1 + 1)] } = h1
  have hk1 : Keep h h1 := hh1 ▸ Keep.push _ _
  have s1 : h1.objs.size = h.objs.size + 1 := hh1 ▸ Heap.size_push ..
  have R1 : IsRange h1 h.objs.size 0 n 1 (t + 1) tn (t + 1 + 1) := hh1 ▸ IsRange.new ..
  have F1 := F.ext hk1
  rw [← s1]
  refine loops_rangeT hA R1 (by omega) (by omega) (by omega)
    (fun i h₁ t₁ => ∃ y ro v, 0 ≤ i ∧ (∀ b, lab ro b → m0 ≤ b ∧ b ≠ h1.objs.size) ∧ y.Nn = rng i.toNat ∧ y.Na = rng i.toNat ∧ (o = true → y.Np = rng i.toNat) ∧ (∀ u, y.nbr u = []) ∧ (o = true → ∀ u, y.pnb u = []) ∧
      Fn (lwEnv cd L f) hB (lwP2 prog w hB L D ds (some (.int n tn)) none none o y ro) h₁ (lwl sc (some (.ref D)) (some (.bool o)) (some (.ref y.g)) v u sg be to gd du pr we pa st))
    ⟨y, ro, v, by omega, fun b q => ⟨hlo b q, fun z => F1.inv.2.nlab (Nat.le_refl _) (z ▸ q)⟩, e1, e2, e3, e4, e5, F1⟩ ?_ ?_ ?_
  · rintro i h₁ t₁ h' t' e ⟨y, ro, v, i0, lo, q1, q2, q3, q4, q5, G1⟩
    have zI : @LT.lt Nat _ (L + 3) h1.objs.size := by omega
    refine ⟨y, ro, v, i0, lo, q1, q2, q3, q4, q5, G1.off (I := h1.objs.size) lwP2.dep ?_ (by omega) (show @Ne Nat h1.objs.size L by omega) e⟩
    · rintro (z | z | z | z | z)
      · exact (lo _ z).2 rfl
      · exact absurd z (Nat.ne_of_gt (show @LT.lt Nat _ D h1.objs.size by omega))
      · exact absurd z (Nat.ne_of_gt (show @LT.lt Nat _ (L + 1) h1.objs.size by omega))
      · exact absurd z (Nat.ne_of_gt (show @LT.lt Nat _ (L + 2) h1.objs.size by omega))
      · exact absurd z (Nat.ne_of_gt (show @LT.lt Nat _ (L + 3) h1.objs.size by omega))
  · rintro i h₁ t₁ tk hi1 hi2 hbig ⟨y, ro, v, i0, lo, q1, q2, q3, q4, q5, G1⟩
    have zI : @LT.lt Nat _ (L + 3) h1.objs.size := by omega
    refine wpAny_assign_Name (st4 G1 fun h2 t2 F2 sb2 => ?_)
    have x2 := F2.inv.2
    have hL2 := nlt (show L < h2.objs.size from F2.loc.lt)
    have hin : (i : Int) = (i.toNat : Nat) := by omega
    have hni : i ∉ rng i.toNat := fun q => by have := mem_rng.mp q; omega
    have hln : (rng i.toNat).length ≤ 1000 := by rw [rng_len]; omega
    have hak : addk (rng i.toNat) i = rng (i + 1).toNat := by
      rw [show (i + 1).toNat = i.toNat + 1 by omega, ← addk_rng, ← hin]
    refine wpAny_execs_cons (wpAny_Expr (MethodCall_ (nm F2 (by walk_at "mem") (addn_any (v := i) (tv := tk) B hroom F2.keep (by omega) x2 (q1 ▸ hni) (q2 ▸ hni) (fun d => q3 d ▸ hni) (q1 ▸ hln) (q2 ▸ hln) (fun d => q3 d ▸ hln)
      (fun Q' hq => nm F2 (by walk_at "mem") hq) fun h3 t3 y' ro' x3 ko r g1 g2 g3 g4 g5 g6 => ?_))))
    have zI2 : h1.objs.size < h2.objs.size := by have := sb2.1; omega
    have lo' : ∀ b, lab ro' b → m0 ≤ b ∧ b ≠ h1.objs.size := fun b q => by
      by_cases z : b < h2.objs.size
      · exact lo b (by unfold lab at q ⊢; rw [← r b z]; exact q)
      · have z := Nat.not_lt.mp z
        exact ⟨by have := nle z; omega, Nat.ne_of_gt (by have := nle z; omega)⟩
    have F3 := F2.mut (P' := lwP2 prog w hB L D ds (some (.int n tn)) none none o y' ro') ko (fun b q => ⟨(x2.st b q).1, fun z => by have := (lo b q).1; rw [z] at this; exact absurd this (by show ¬ @LE.le Nat _ m0 L; omega)⟩) ⟨lwP1.dep h2 h3 (fun b ob z e => ko b ob (fun q => by
      have := (lo b q).1
      rcases z with z | z | z | z <;> (rw [z] at this; omega)) e) F2.inv.1, x3⟩ (lwP2.stb hD (fun q => absurd (show @LE.le Nat _ m0 L from (lo' _ q).1) (by omega)))
    refine wpAny_execs_nil ⟨h3, t3, rfl, fun b ob nb e => ?_, y', ro', _, by omega, lo', by rw [g2, q1, hak], by rw [g3, q2, hak], fun d => by rw [g4 d, q3 d, hak], fun u => g5 u (q4 u), fun d u => g6 d u (q5 d u), g1 ▸ F3⟩
    have hb : b = h1.objs.size := Classical.not_not.mp nb
    exact ko b ob (fun q => (lo b q).2 hb) (sb2.extBut b ob (by rw [hb]; show @Ne Nat _ L; omega) e)
  · rintro h' t' ⟨y, ro, v, i0, lo, q1, q2, q3, q4, q5, G1⟩
    exact k h' t' y ro v (fun b q => (lo b q).1) (by simpa using q1) (by simpa using q2) (by simpa using q3) q4 q5 (Nat.le_trans (lo _ (lab_of G1.inv.2.rg (by decide))).1 (Nat.le_of_lt (Heap.lt_size G1.inv.2.ins.ob))) G1
end
end Mine
end
section
open PySem PySem.W PyProof.Rows PySem.Calls
set_option maxRecDepth 100000
namespace Mine
local macro_rules | `(tactic| walk_at "mem") => `(tactic| with_reducible (first | exact List.mem_cons_self | (refine List.mem_cons_of_mem _ ?_; walk_at "mem")))
/-- one edge more -/
structure EStep (o : Bool) (y y' : GD) (u v : Int) (z : Int) : Prop where
  g : y'.g = y.g
  Nn : y'.Nn = y.Nn
  Na : y'.Na = y.Na
  Np : y'.Np = y.Np
  nb : ∀ a b, b ∈ y'.nbr a ↔ b ∈ y.nbr a ∨ (a = u ∧ b = v) ∨ (o = false ∧ a = v ∧ b = u)
  wt : ∀ a b, y'.wt a b = if (a = u ∧ b = v) ∨ (o = false ∧ a = v ∧ b = u) then z else y.wt a b
  l1 : ∀ a, (y'.nbr a).length ≤ (y.nbr a).length + 2
  l2 : ∀ a, (y'.pnb a).length ≤ (y.pnb a).length + 2
theorem stepE_nb {y : GD} {u v : Int} {a : Addr} {z : Int} (i j : Int) : j ∈ (stepE y u v a z).nbr i ↔ j ∈ y.nbr i ∨ (i = u ∧ j = v) := by
  unfold stepE
  by_cases e : i = u
  · subst e; simp [upd, addk_mem]
  · simp [upd, e]
theorem stepE_wt {y : GD} {u v : Int} {a : Addr} {z : Int} (i j : Int) : (stepE y u v a z).wt i j = if i = u ∧ j = v then z else y.wt i j := by
  unfold stepE
  by_cases e : i = u
  · subst e; simp [upd]
  · simp [upd, e]
theorem stepE_len {y : GD} {u v : Int} {a : Addr} {z : Int} (i : Int) : ((stepE y u v a z).nbr i).length ≤ (y.nbr i).length + 1 := by
  unfold stepE
  by_cases e : i = u
  · subst e; simp only [upd, if_pos]; exact addk_len _ _
  · simp only [upd, if_neg e]; omega
theorem estep_D (y : GD) (u v : Int) (a : Addr) (z : Int) : EStep true y (stepP (stepE y u v a z) v u a) u v z where
  g := rfl
  Nn := rfl
  Na := rfl
  Np := rfl
  nb := fun i j => by show j ∈ (stepE y u v a z).nbr i ↔ _; rw [stepE_nb]; simp
  wt := fun i j => by show (stepE y u v a z).wt i j = _; rw [stepE_wt]; simp
  l1 := fun i => Nat.le_succ_of_le (stepE_len (a := a) (z := z) i)
  l2 := fun i => by
    unfold stepP stepE
    by_cases e : i = v
    · subst e; simp only [upd, if_pos]; exact Nat.le_succ_of_le (addk_len _ _)
    · simp only [upd, if_neg e]; omega
theorem estep_G (y : GD) (u v : Int) (a : Addr) (z : Int) : EStep false y (stepE (stepE y u v a z) v u a z) u v z where
  g := rfl
  Nn := rfl
  Na := rfl
  Np := rfl
  nb := fun i j => by rw [stepE_nb, stepE_nb]; simp [or_assoc]
  wt := fun i j => by
    rw [stepE_wt, stepE_wt]
    by_cases h1 : i = v ∧ j = u
    · simp [h1]
    · by_cases h2 : i = u ∧ j = v
      · simp [h2]
      · simp [h1, h2]
  l1 := fun i => Nat.le_trans (stepE_len i) (Nat.succ_le_succ (stepE_len (a := a) (z := z) i))
  l2 := fun i => by show (y.pnb i).length ≤ _; omega
section
variable {prog : Program} {w : World} {A : Around} {c : Cst} {hB h : Heap} {t : Nat} {K : Frag} {y : GD} {ro : Addr → Nat × Int}
abbrev eF (o : Bool) : Addr := if o then 762 else 542
abbrev eSt (o : Bool) : Stmt := if o then SM 25 8 else SM 23 20
abbrev eQ (o : Bool) : Str := if o then "DiGraph.add_edge" else "Graph.add_edge"
/-- graph.add_edge(u, v), graph.add_edge(u, v, weight=z) -/
theorem adde_any {o : Bool} {u v : Int} {tu tv : Tok} {wv : Option (Value × Int)} {Q : Value → Shared → Prop} (B : LB hB K) (hA : A.handled = none) (hroom : A.depth + 10 < recursionLimit) (k0 : Keep hB h) (hsz : hB.objs.size ≤ h.objs.size) (x : GSt prog w hB (clsA o) o y ro h)
    (hun : u ∈ y.Nn) (hvn : v ∈ y.Nn) (hua : u ∈ y.Na) (hva : v ∈ y.Na) (hvp : o = true → v ∈ y.Np) (huv : v ∉ y.nbr u) (len1 : ∀ a, (y.nbr a).length ≤ 1000) (len2 : o = true → ∀ a, (y.pnb a).length ≤ 1000) (hw : ∀ p, wv = some p → RI p.1 p.2)
    (hQ : ∀ h' t' y' ro', GSt prog w hB (clsA o) o y' ro' h' → EStep o y y' u v (match wv with | none => 1 | some p => p.2) → KO (lab ro) h h' → (∀ b, b < h.objs.size → ro' b = ro b) → Q .none (mk c h' t')) :
    wpAny (model prog w) A (call (.ref (eF o)) [.ref y.g, .int u tu, .int v tv] (match wv with | none => [] | some p => [("weight", p.1)])) Q NE (mk c h t) := by
  have hs : (h.objs.size == sysModules) = false := (B.gb o).low _ hsz
  cases o with
  | true =>
    obtain ⟨cd, hf⟩ := B.eD
    cases wv with
    | none =>
      refine adde_D (ks := []) (af := fun _ => 0) (B.gb true) hf hA (by omega) k0 hsz x hua hva (hvp rfl) huv (len1 u) (len2 rfl v) (by decide) (fun pm Q' E' k => bind0' (b1 := [("self", .ref y.g), ("u_of_edge", .int u tu), ("v_of_edge", .int v tv)]) (x := "attr") hs (by rfl) k) fun h' t' a ro' x' ko r => ?_
      exact hQ h' t' _ ro' x' (estep_D y u v a 1) ko r
    | some p =>
      refine adde_D (ks := ["weight"]) (af := fun _ => p.2) (B.gb true) hf hA (by omega) k0 hsz x hua hva (hvp rfl) huv (len1 u) (len2 rfl v) (by decide) (fun pm Q' E' k => bind1 (b1 := [("self", .ref y.g), ("u_of_edge", .int u tu), ("v_of_edge", .int v tv)]) (x := "attr") (hw p rfl) hs (by rfl) k) fun h' t' a ro' x' ko r => ?_
      exact hQ h' t' _ ro' x' (estep_D y u v a p.2) ko r
  | false =>
    obtain ⟨cd, hf⟩ := B.eG
    cases wv with
    | none =>
      refine adde_G (ks := []) (af := fun _ => 0) (B.gb false) hf hA (by omega) k0 hsz x hun hvn hua hva huv (len1 u) (len1 v) (by decide) (fun pm Q' E' k => bind0' (b1 := [("self", .ref y.g), ("u_of_edge", .int u tu), ("v_of_edge", .int v tv)]) (x := "attr") hs (by rfl) k) fun h' t' a ro' x' ko r => ?_
      exact hQ h' t' _ ro' x' (estep_G y u v a 1) ko r
    | some p =>
      refine adde_G (ks := ["weight"]) (af := fun _ => p.2) (B.gb false) hf hA (by omega) k0 hsz x hun hvn hua hva huv (len1 u) (len1 v) (by decide) (fun pm Q' E' k => bind1 (b1 := [("self", .ref y.g), ("u_of_edge", .int u tu), ("v_of_edge", .int v tv)]) (x := "attr") (hw p rfl) hs (by rfl) k) fun h' t' a ro' x' ko r => ?_
      exact hQ h' t' _ ro' x' (estep_G y u v a p.2) ko r
end
end Mine
end
section
open PySem PySem.W PyProof.Rows PySem.Calls
set_option maxRecDepth 100000
namespace Mine
local macro_rules | `(tactic| walk_at "mem") => `(tactic| with_reducible (first | exact List.mem_cons_self | (refine List.mem_cons_of_mem _ ?_; walk_at "mem")))
/-- where the rows may lie: no dict of the graph, nothing of X -/
def Zx (ro : Addr → Nat × Int) (X : List Addr) (b : Addr) : Prop := ¬ lab ro b ∧ b ∉ X
def lwP3 (prog : Program) (w : World) (hB : Heap) (L D : Addr) (ds : List Value) (sz : Option Value) (o : Bool) (X : List Addr) (y : GD) (ro : Addr → Nat × Int) (rd : Addr) (ks : List (Int × Int)) (ra : Int × Int → Int) (h : Heap) : Prop :=
  lwP1 L D ds sz (some (.ref rd)) none h ∧ GSt prog w hB (clsA o) o y ro h ∧ Arcs prog w (Zx ro X) h rd ks ra
/-- what stays true of the addresses -/
structure LwA (L D m0 : Nat) (X : List Addr) (ro : Addr → Nat × Int) (h : Heap) : Prop where
  d : D < m0
  l : L + 3 < m0
  dL : D ≠ L
  dX : D ∉ X
  cl : ∀ b, (b = L ∨ b = L + 1 ∨ b = L + 2 ∨ b = L + 3) → b ∈ X
  x : ∀ b ∈ X, ¬ lab ro b ∧ ∃ o, h.get? b = some o
  lo : ∀ b, lab ro b → m0 ≤ b
section
variable {prog : Program} {w : World} {A : Around} {c : Cst} {hB h : Heap} {t : Nat} {L f D m0 rd C0 : Addr} {cd : Value} {K : Frag} {y : GD} {ro : Addr → Nat × Int} {X : List Addr} {ds : List Value} {sz : Option Value} {o : Bool} {ks : List (Int × Int)} {ra : Int × Int → Int}
theorem lwP3.dep : Dep (fun b => lab ro b ∨ b = D ∨ b = L + 1 ∨ b = L + 2 ∨ b = L + 3 ∨ Zx ro X b) (lwP3 prog w hB L D ds sz o X y ro rd ks ra) :=
  .and (lwP1.dep.mono fun _ x => by rcases x with x | x | x | x <;> simp [x]) (.and (GSt.dep.mono fun _ x => .inl x) (Arcs.dep.mono fun _ x => by simp [x]))
theorem lwP3.stb (a : LwA L D m0 X ro h) : Stb L (lwP3 prog w hB L D ds sz o X y ro rd ks ra) := lwP3.dep.stb fun x => by
  have hl := nlt a.l
  rcases x with x | x | x | x | x | x
  · exact (a.x L (a.cl L (.inl rfl))).1 x
  · exact a.dL x.symm
  · exact absurd x (Nat.ne_of_lt (show @LT.lt Nat _ L (L + 1) by omega))
  · exact absurd x (Nat.ne_of_lt (show @LT.lt Nat _ L (L + 2) by omega))
  · exact absurd x (Nat.ne_of_lt (show @LT.lt Nat _ L (L + 3) by omega))
  · exact x.2 (a.cl L (.inl rfl))
/-- an iterator of X moves -/
theorem lwP3.nX (a : LwA L D m0 X ro h) {I : Addr} (hI : I ∈ X) (h1 : I ≠ L + 1) (h2 : I ≠ L + 2) (h3 : I ≠ L + 3) : ¬ (lab ro I ∨ I = D ∨ I = L + 1 ∨ I = L + 2 ∨ I = L + 3 ∨ Zx ro X I) := by
  rintro (x | x | x | x | x | x)
  · exact (a.x I hI).1 x
  · exact a.dX (x ▸ hI)
  · exact h1 x
  · exact h2 x
  · exact h3 x
  · exact x.2 hI
theorem LwA.size {di : Bool} (a : LwA L D m0 X ro h) (x : GSt prog w hB C0 di y ro h) : m0 ≤ h.objs.size := Nat.le_trans (a.lo _ (lab_of x.rg (by decide))) (Nat.le_of_lt (Heap.lt_size x.ins.ob))
theorem LwA.keep {h' : Heap} (a : LwA L D m0 X ro h) (k : ∀ b ∈ X, ∀ o, h.get? b = some o → ∃ o', h'.get? b = some o') : LwA L D m0 X ro h' :=
  ⟨a.d, a.l, a.dL, a.dX, a.cl, fun b hb => ⟨(a.x b hb).1, let ⟨o, e⟩ := (a.x b hb).2; k b hb o e⟩, a.lo⟩
theorem LwA.grow {h' : Heap} {ro' : Addr → Nat × Int} (a : LwA L D m0 X ro h) (hm : m0 ≤ h.objs.size) (r : ∀ b, b < h.objs.size → ro' b = ro b) (ko : KO (lab ro) h h') : LwA L D m0 X ro' h' :=
  ⟨a.d, a.l, a.dL, a.dX, a.cl, fun b hb => by
    obtain ⟨n, ob, e⟩ := a.x b hb
    exact ⟨fun q => n (by unfold lab at q ⊢; rw [← r b (Heap.lt_size e)]; exact q), ob, ko b ob n e⟩, fun b q => by
    rcases Nat.lt_or_ge b h.objs.size with z | z
    · exact a.lo b (by unfold lab at q ⊢; rw [← r b z]; exact q)
    · exact Nat.le_trans hm z⟩
/-- rows[xa, xb] = v -/
theorem rows_set {l : List (Str × Option Value)} {xa xb : Str} {p1 p2 p3 p4 : Pos} {kk : Nat} {a b z : Int} {ta tb : Tok} {vv : Value} {Q : Unit → Shared → Prop} (hu : A.units + 1 < cLine) (a0 : LwA L D m0 X ro h) (hm : m0 ≤ rd) (hv : RI vv z) (hlen : ks.length ≤ 1000000)
    (F : Fn (lwEnv cd L f) hB (lwP3 prog w hB L D ds sz o X y ro rd ks ra) h l) (ha : (xa, some (.int a ta)) ∈ l) (hb : (xb, some (.int b tb)) ∈ l)
    (k : ∀ h' t', Fn (lwEnv cd L f) hB (lwP3 prog w hB L D ds sz o X y ro rd (addk ks (a, b)) (upd ra (a, b) z)) h' l → KO (fun b => b = rd) h h' → rd ∉ X → Q () (mk c h' t')) :
    wpAny (model prog w) A (eval (.Name "rows" p1) (lwEnv cd L f)) (fun ov s₂ => wpAny (model prog w) A (eval (.Tuple [.Name xa p2, .Name xb p3] kk p4) (lwEnv cd L f)) (fun iv s₃ => wpAny (model prog w) A (setItem ov iv vv) Q NE s₃) NE s₂) NE (mk c h t) := by
  refine nmc F.inv.1.1.2.1 ?_ (by rfl)
  refine Tuple_ (args_cons (nm F ha (args_cons (nm F hb (args_nil (wpAny_newTuple ?_ (by rw [sizeLine_eq]; show 2 ≤ _; decide)))))))
  generalize hh1 : h.push { cls := .type "tuple", data := .seq #[.int a ta, .int b tb] } = h1
  have k1 : Keep h h1 := hh1 ▸ Keep.push _ _
  have s1 : h1.objs.size = h.objs.size + 1 := hh1 ▸ Heap.size_push ..
  have T1 : IsTup h1 h.objs.size #[.int a ta, .int b tb] := hh1 ▸ ⟨_, Heap.get?_push_size _ rfl, rfl, _, rfl⟩
  have F1 := F.ext k1
  have z1 : Zx ro X h.objs.size := ⟨F.inv.2.1.nlab (Nat.le_refl _), fun q => let ⟨_, _, e⟩ := a0.x _ q; Nat.lt_irrefl _ (Heap.lt_size e)⟩
  have zr : Zx ro X rd := F1.inv.2.2.2.1
  refine arcs_set hu F1.inv.2.2 T1 z1 hv hlen fun h2 t2 r2 sb2 => ?_
  have hrd := F1.inv.2.2
  have rL : rd ≠ L := fun q => zr.2 (q ▸ a0.cl L (.inl rfl))
  have o2 : ∀ b o, b ≠ rd → h1.get? b = some o → h2.get? b = some o := sb2.extBut
  have hl := nlt a0.l
  have hBL : hB.objs.size ≤ L := F.above
  have hm := nle hm
  have hd := nlt a0.d
  have hrB : @LE.le Nat _ hB.objs.size rd := by omega
  refine k h2 t2 (F1.upd hrB rL sb2.extBut ⟨lwP1.dep h1 h2 (fun b ob q e => o2 b ob (fun z => ?_) e) F1.inv.1, GSt.dep h1 h2 (fun b ob q e => o2 b ob (fun z => zr.1 (z ▸ q)) e) F1.inv.2.1, r2⟩ (lwP3.stb a0)) (k1.ko.but sb2 rfl) zr.2
  rw [z] at q
  rcases q with q | q | q | q
  · exact absurd q (Nat.ne_of_gt (show @LT.lt Nat _ D rd by omega))
  · exact absurd q (Nat.ne_of_gt (show @LT.lt Nat _ (L + 1) rd by omega))
  · exact absurd q (Nat.ne_of_gt (show @LT.lt Nat _ (L + 2) rd by omega))
  · exact absurd q (Nat.ne_of_gt (show @LT.lt Nat _ (L + 3) rd by omega))
/-- the graph got an edge -/
theorem lw3_edge {h' : Heap} {y' : GD} {ro' : Addr → Nat × Int} {l : List (Str × Option Value)} (a0 : LwA L D m0 X ro h) (hm : m0 ≤ h.objs.size) (F : Fn (lwEnv cd L f) hB (lwP3 prog w hB L D ds sz o X y ro rd ks ra) h l) (x' : GSt prog w hB (clsA o) o y' ro' h') (ko : KO (lab ro) h h') (r : ∀ b, b < h.objs.size → ro' b = ro b) :
    Fn (lwEnv cd L f) hB (lwP3 prog w hB L D ds sz o X y' ro' rd ks ra) h' l ∧ LwA L D m0 X ro' h' := by
  have a' := a0.grow (ro' := ro') hm r ko
  refine ⟨F.mut ko (fun b q => ⟨(F.inv.2.1.st b q).1, fun z => (a0.x L (a0.cl L (.inl rfl))).1 ((show b = L from z) ▸ q)⟩) ⟨lwP1.dep h h' (fun b ob q e => ko b ob (fun z => ?_) e) F.inv.1, x', ?_⟩ (lwP3.stb a'), a'⟩
  · have hl := nlt a0.l
    have hd := nlt a0.d
    have hz := nle (a0.lo b z)
    rcases q with q | q | q | q <;> (rw [q] at hz; omega)
  · have z1 : Arcs prog w (Zx ro' X) h rd ks ra := F.inv.2.2.weak fun b hb q => ⟨fun z => q.1 (by unfold lab at z ⊢; rw [← r b hb]; exact z), q.2⟩
    exact Arcs.dep h h' (fun b ob q e => ko b ob (fun z => q.1 (by unfold lab at z ⊢; rw [r b (Heap.lt_size e)]; exact z)) e) z1
end
theorem pow16 {v : Int} (h0 : 0 ≤ v) (h5 : v < 5) : (16 : Int) ^ v.toNat ≠ 0 ∧ ((16 : Int) ^ v.toNat).natAbs < 1073741824 ∧ (Builtin.Int.intBits 16 : Int) * v ≤ 2 ^ 27 := by
  have : v = 0 ∨ v = 1 ∨ v = 2 ∨ v = 3 ∨ v = 4 := by omega
  rcases this with rfl | rfl | rfl | rfl | rfl <;> decide
end Mine
end
section
open PySem PySem.W PyProof.Rows PySem.Calls
set_option maxRecDepth 100000
namespace Mine
local macro_rules | `(tactic| walk_at "mem") => `(tactic| with_reducible (first | exact List.mem_cons_self | (refine List.mem_cons_of_mem _ ?_; walk_at "mem")))
abbrev lwOut : Stmt := at' (dBody (S 29)) 6
abbrev lwInn : Stmt := at' (dFor lwOut) 0
def aks (o : Bool) (ks : List (Int × Int)) (u v : Int) : List (Int × Int) := if o then addk ks (u, v) else addk (addk ks (u, v)) (v, u)
def ara (o : Bool) (ra : Int × Int → Int) (u v z : Int) : Int × Int → Int := if o then upd ra (u, v) z else upd (upd ra (u, v) z) (v, u) z
section
variable {prog : Program} {w : World} {A : Around} {c : Cst} {hB h : Heap} {t : Nat} {L f D m0 rd : Addr} {cd : Value} {K : Frag} {y : GD} {ro : Addr → Nat × Int} {X : List Addr} {ds : List Value} {sz : Option Value} {o : Bool} {ks : List (Int × Int)} {ra : Int × Int → Int}
/-- rows[xa, xb] -/
theorem rows_get {E : Value → Shared → Prop} {l : List (Str × Option Value)} {xa xb : Str} {p1 p2 p3 p4 p5 : Pos} {kk : Nat} {a b : Int} {ta tb : Tok} {Q : Value → Shared → Prop} (hu : A.units + 1 < cLine) (hm : (a, b) ∈ ks)
    (F : Fn (lwEnv cd L f) hB (lwP3 prog w hB L D ds sz o X y ro rd ks ra) h l) (ha : (xa, some (.int a ta)) ∈ l) (hb : (xb, some (.int b tb)) ∈ l) (k : ∀ vv h' t', RI vv (ra (a, b)) → Keep h h' → Q vv (mk c h' t')) :
    wpAny (model prog w) A (eval (.Subscript (.Name "rows" p1) (.Tuple [.Name xa p2, .Name xb p3] kk p4) p5) (lwEnv cd L f)) Q E (mk c h t) := by
  refine Subscript_ (nmc F.inv.1.1.2.1 ?_ (by rfl))
  refine Tuple_ (args_cons (nm F ha (args_cons (nm F hb (args_nil (wpAny_newTuple ?_ (by rw [sizeLine_eq]; show 2 ≤ _; decide)))))))
  have F1 := F.push { cls := .type "tuple", data := .seq #[.int a ta, .int b tb] }
  exact arcs_itm (c := c) (t := t) hu F1.inv.2.2 hm ⟨_, Heap.get?_push_size _ rfl, rfl, _, rfl⟩ fun vv t' r => k vv _ t' r (Keep.push _ _)
theorem lw_sign {n : Nat} {u v : Int} {tu tv : Tok} {sc gr sg be to gd du pr we pa st : Option Value} {Q : Flow → Shared → Prop} (hd : Drw ds) (hl6 : ds.length = 6) (hn : n ≤ 5) (u0 : 0 ≤ u) (un : u < n) (v0 : 0 ≤ v) (vn : v < n)
    (F : Fn (lwEnv cd L f) hB (lwP3 prog w hB L D ds sz o X y ro rd ks ra) h (lwl sc (some (.ref D)) (some (.bool o)) gr (some (.int v tv)) (some (.int u tu)) sg be to gd du pr we pa st))
    (k : ∀ h' t' s tk, 0 ≤ s → s < 16 → KO (fun b => b = L) h h' → Fn (lwEnv cd L f) hB (lwP3 prog w hB L D ds sz o X y ro rd ks ra) h' (lwl sc (some (.ref D)) (some (.bool o)) gr (some (.int v tv)) (some (.int u tu)) (some (.int s tk)) be to gd du pr we pa st) → Q .next (mk c h' t')) :
    wpAny (model prog w) A (exec (at' (dFor lwInn) 0) (lwEnv cd L f)) Q NE (mk c h t) := by
  obtain ⟨d, td, e, r1, r2⟩ := drw_at hd (i := (u + 1).toNat) (by omega)
  obtain ⟨q1, q2, q3⟩ := pow16 v0 (by omega)
  have k' := fun h' t' tk => k h' t' ((d.fdiv (16 ^ v.toNat)).fmod 16) tk (fmod_rng _ (by decide)).1 (fmod_rng _ (by decide)).2
  refine wpAny_Assign_Name (wpAny_BinOp (wpAny_BinOp (Subscript_ (nm F (by walk_at "mem") (wpAny_BinOp (nm F (by walk_at "mem") (wpAny_Constant_int (PySem.P.add_int (lst_itm (t := t + 1 + 1) F.inv.1.2 (by omega) (by omega) e (wpAny_BinOp (wpAny_Constant_int (nm (t := t + 1 + 1 + 1) F (by walk_at "mem") (pow_int v0 q3 ?_)))))))))))))
  refine floordiv_int q1 (wpAny_Constant_int (mod_int' (by decide) ?_)) (.inl (PyProof.noPylong_small q2))
  exact st6 (t := t + 1 + 1 + 1 + 1 + 1 + 1 + 1) F fun h2 t2 F2 sb2 => k' h2 t2 _ ((KO.refl h).but sb2 rfl) F2
end
end Mine
end
section
open PySem PySem.W PyProof.Rows PySem.Calls
set_option maxRecDepth 100000
namespace Mine
local macro_rules | `(tactic| walk_at "mem") => `(tactic| with_reducible (first | exact List.mem_cons_self | (refine List.mem_cons_of_mem _ ?_; walk_at "mem")))
section
variable {prog : Program} {w : World} {A : Around} {c : Cst} {hB h : Heap} {t : Nat} {L f D m0 rd : Addr} {cd : Value} {K : Frag} {y : GD} {ro : Addr → Nat × Int} {X : List Addr} {ds : List Value} {sz : Option Value} {o : Bool} {ks : List (Int × Int)} {ra : Int × Int → Int}
theorem LB.eo (B : LB hB K) (o : Bool) : ∃ ob fd, hB.get? (eF o) = some ob ∧ ob.data = .func fd := by
  cases o with
  | true => obtain ⟨cd, ob, pm, h1, h2, _⟩ := B.eD; exact ⟨ob, _, h1, h2⟩
  | false => obtain ⟨cd, ob, pm, h1, h2, _⟩ := B.eG; exact ⟨ob, _, h1, h2⟩
/-- the iterators of X stand -/
def XS (X : List Addr) (L : Addr) (h h' : Heap) : Prop := ∀ b ∈ X, b ≠ L → ∀ o, h.get? b = some o → h'.get? b = some o
theorem XS.refl (h : Heap) : XS X L h h := fun _ _ _ _ e => e
theorem XS.trans {a b c : Heap} (x : XS X L a b) (z : XS X L b c) : XS X L a c := fun p hp n o e => z p hp n o (x p hp n o e)
theorem XS.keep {a b : Heap} (k : Keep a b) : XS X L a b := fun p _ _ o e => k p o e
theorem XS.dict {h' : Heap} (ko : KO (fun b => b = rd) h h') (n : rd ∉ X) : XS X L h h' := fun b hb _ o e => ko b o (fun z => n (z ▸ hb)) e
theorem XS.lab {h' : Heap} (a : LwA L D m0 X ro h) (ko : KO (lab ro) h h') : XS X L h h' := fun b hb _ o e => ko b o (a.x b hb).1 e
theorem XS.loc {h' : Heap} (ko : KO (fun b => b = L) h h') : XS X L h h' := fun b _ n o e => ko b o n e
theorem LwA.xs {h' : Heap} (a : LwA L D m0 X ro h) (x : XS X L h h') (hl : ∃ o, h'.get? L = some o) : LwA L D m0 X ro h' := a.keep fun b hb o e => by
  by_cases z : b = L
  · exact z ▸ hl
  · exact ⟨o, x b hb z o e⟩
theorem Fn.locEx {env : Env} {P : Heap → Prop} {l} (F : Fn env hB P h l) : ∃ o, h.get? env.locals = some o := let ⟨_, ⟨o, _, _, e, _⟩, _⟩ := F.loc.ns; ⟨o, e⟩

/-- what an edge's turn brings -/
def Edged (o : Bool) (u v : Int) (y y' : GD) (ks ks' : List (Int × Int)) (ra ra' : Int × Int → Int) : Prop :=
  (y' = y ∧ ks' = ks ∧ ra' = ra) ∨ ∃ z, -2 ≤ z ∧ z ≤ 7 ∧ EStep o y y' u v z ∧ ks' = aks o ks u v ∧ ra' = ara o ra u v z
variable {u v s : Int} {tu tv ts : Tok} {sc be to gd du pr we pa st : Option Value} {Q : Flow → Shared → Prop}
abbrev lwe (D : Addr) (o : Bool) (g : Addr) (u v s : Int) (tu tv ts : Tok) (sc be to gd du pr we pa st : Option Value) : List (Str × Option Value) :=
  lwl sc (some (.ref D)) (some (.bool o)) (some (.ref g)) (some (.int v tv)) (some (.int u tu)) (some (.int s ts)) be to gd du pr we pa st
/-- if sign > 5 and not one_way: rows[v, u] = rows[u, v] -/
theorem lw_s3 (hu : A.units + 1 < cLine) (a0 : LwA L D m0 X ro h) (hm : m0 ≤ rd) (hlen : ks.length ≤ 1000000) (hin : 5 < s → o = false → (u, v) ∈ ks)
    (F : Fn (lwEnv cd L f) hB (lwP3 prog w hB L D ds sz o X y ro rd ks ra) h (lwe D o y.g u v s tu tv ts sc be to gd du pr we pa st))
    (k : ∀ h' t', XS X L h h' → Fn (lwEnv cd L f) hB (lwP3 prog w hB L D ds sz o X y ro rd (if 5 < s ∧ o = false then addk ks (v, u) else ks) (if 5 < s ∧ o = false then upd ra (v, u) (ra (u, v)) else ra)) h' (lwe D o y.g u v s tu tv ts sc be to gd du pr we pa st) → Q .next (mk c h' t')) :
    wpAny (model prog w) A (exec (at' (dFor lwInn) 3) (lwEnv cd L f)) Q NE (mk c h t) := by
  by_cases h5 : 5 < s
  · cases o with
    | true =>
      refine wpAny_If (isTrue_and (wpAny_isTrue_Compare1 (nm F (by walk_at "mem") (wpAny_Constant_int (PySem.P.gt_int (wpAny_truthy_bool ?_))))))
      rw [if_pos (decide_eq_true h5)]
      refine isTrue_and (isTrue_not ?_)
      refine isTrue_plain ?_ (by with_unfolding_all rfl)
      refine nm (t := t + 1) F (v := .bool true) (by walk_at "mem") (wpAny_truthy_bool ?_)
      rw [if_neg (by decide)]
      exact wpAny_execs_nil (k h _ (XS.refl h) (by simpa using F))
    | false =>
      refine wpAny_If (isTrue_and (wpAny_isTrue_Compare1 (nm F (by walk_at "mem") (wpAny_Constant_int (PySem.P.gt_int (wpAny_truthy_bool ?_))))))
      rw [if_pos (decide_eq_true h5)]
      refine isTrue_and (isTrue_not ?_)
      refine isTrue_plain ?_ (by with_unfolding_all rfl)
      refine nm (t := t + 1) F (v := .bool false) (by walk_at "mem") (wpAny_truthy_bool ?_)
      rw [if_pos (by decide)]
      refine isTrue_and_nil ?_
      rw [if_pos rfl]
      refine wpAny_execs_cons (wpAny_Assign_Subscript (rows_get (t := t + 1) hu (hin h5 rfl) F (by walk_at "mem") (by walk_at "mem") fun vv h1 t1 r1 k1 => ?_))
      have a1 := a0.xs (XS.keep k1) ((F.ext k1).locEx)
      refine rows_set hu a1 hm r1 hlen (F.ext k1) (by walk_at "mem") (by walk_at "mem") fun h2 t2 F2 ko2 nx => wpAny_execs_nil (k h2 t2 ((XS.keep k1).trans (XS.dict ko2 nx)) ?_)
      simpa [h5] using F2
  · refine wpAny_If (isTrue_and (wpAny_isTrue_Compare1 (nm F (by walk_at "mem") (wpAny_Constant_int (PySem.P.gt_int (wpAny_truthy_bool ?_))))))
    rw [if_neg (by simpa using h5)]
    rw [if_neg (by decide)]
    exact wpAny_execs_nil (k h _ (XS.refl h) (by simpa [h5] using F))
end
end Mine
end
section
open PySem PySem.W PyProof.Rows PySem.Calls
set_option maxRecDepth 100000
namespace Mine
local macro_rules | `(tactic| walk_at "mem") => `(tactic| with_reducible (first | exact List.mem_cons_self | (refine List.mem_cons_of_mem _ ?_; walk_at "mem")))
structure EPre (o : Bool) (y : GD) (u v : Int) : Prop where
  un : u ∈ y.Nn
  vn : v ∈ y.Nn
  ua : u ∈ y.Na
  va : v ∈ y.Na
  vp : o = true → v ∈ y.Np
  nuv : v ∉ y.nbr u
  l1 : ∀ a, (y.nbr a).length ≤ 1000
  l2 : o = true → ∀ a, (y.pnb a).length ≤ 1000
section
variable {prog : Program} {w : World} {A : Around} {c : Cst} {hB h : Heap} {t : Nat} {L f D m0 rd : Addr} {cd : Value} {K : Frag} {y : GD} {ro : Addr → Nat × Int} {X : List Addr} {ds : List Value} {sz : Option Value} {o : Bool} {ks : List (Int × Int)} {ra : Int × Int → Int}
variable {u v s : Int} {tu tv ts : Tok} {sc be to gd du pr we pa st : Option Value} {Q : Flow → Shared → Prop}
/-- if sign == 6: graph.add_edge(u, v); rows[u, v] = 1 -/
theorem lw_s1 (B : LB hB K) (hA : A.handled = none) (hroom : A.depth + 10 < recursionLimit) (hu : A.units + 1 < cLine) (a0 : LwA L D m0 X ro h) (hm : m0 ≤ rd) (hlen : ks.length ≤ 1000000) (p : s = 6 → EPre o y u v)
    (F : Fn (lwEnv cd L f) hB (lwP3 prog w hB L D ds sz o X y ro rd ks ra) h (lwe D o y.g u v s tu tv ts sc be to gd du pr we pa st))
    (k0 : s ≠ 6 → ∀ t', Q .next (mk c h t'))
    (k : s = 6 → ∀ h' t' y' ro', EStep o y y' u v 1 → LwA L D m0 X ro' h' → XS X L h h' → Fn (lwEnv cd L f) hB (lwP3 prog w hB L D ds sz o X y' ro' rd (addk ks (u, v)) (upd ra (u, v) 1)) h' (lwe D o y'.g u v s tu tv ts sc be to gd du pr we pa st) → Q .next (mk c h' t')) :
    wpAny (model prog w) A (exec (at' (dFor lwInn) 1) (lwEnv cd L f)) Q NE (mk c h t) := by
  by_cases h6 : s = 6
  · obtain ⟨ob, fd, ho, hd⟩ := B.eo o
    have p := p h6
    have k := k h6
    have x := F.inv.2.1
    refine wpAny_If (wpAny_isTrue_Compare1 (nm F (by walk_at "mem") (wpAny_Constant_int (PySem.P.eq_int (wpAny_truthy_bool ?_)))))
    rw [if_pos (by simpa using h6)]
    refine wpAny_execs_cons (wpAny_Expr (MethodCall_ (nm (t := t + 1) F (by walk_at "mem") (g_meth (f := eF o) (B.X.keeps F.keep) (B.O o) x.ins (by simp [fsOf]) (x.e4 _ (by decide)) (callWith_meth hd ho (args_cons (nm (t := t + 1) F (by walk_at "mem") (args_cons (nm (t := t + 1) F (by walk_at "mem") (args_nil ⟨F.keep, ?_⟩))))))))))
    refine adde_any (wv := none) B hA hroom F.keep (Nat.le_trans F.above (Nat.le_of_lt F.loc.lt)) x p.un p.vn p.ua p.va p.vp p.nuv p.l1 p.l2 (fun _ e => nomatch e) fun h1 t1 y' ro' x' es ko r => ?_
    obtain ⟨F1, a1⟩ := lw3_edge a0 (a0.size x) F x' ko r
    have xs1 := XS.lab a0 ko
    refine wpAny_execs_cons (wpAny_Assign_Subscript (wpAny_Constant_int (rows_set (t := t1 + 1) hu a1 hm ⟨_, rfl⟩ hlen F1 (by walk_at "mem") (by walk_at "mem") fun h2 t2 F2 ko2 nx => wpAny_execs_nil (k h2 t2 y' ro' es ?_ (xs1.trans (XS.dict ko2 nx)) ?_))))
    · exact a1.xs (XS.dict ko2 nx) F2.locEx
    · rw [es.g]; exact F2
  · refine wpAny_If (wpAny_isTrue_Compare1 (nm F (by walk_at "mem") (wpAny_Constant_int (PySem.P.eq_int (wpAny_truthy_bool ?_)))))
    rw [if_neg (by simpa using h6)]
    exact wpAny_execs_nil (k0 h6 _)
/-- if sign > 6: rows[u, v] = ...; graph.add_edge(u, v, weight=rows[u, v]) -/
theorem lw_s2 (B : LB hB K) (hA : A.handled = none) (hroom : A.depth + 10 < recursionLimit) (hu : A.units + 1 < cLine) (a0 : LwA L D m0 X ro h) (hm : m0 ≤ rd) (hlen : ks.length ≤ 1000000) (p : 6 < s → EPre o y u v)
    (F : Fn (lwEnv cd L f) hB (lwP3 prog w hB L D ds sz o X y ro rd ks ra) h (lwe D o y.g u v s tu tv ts sc be to gd du pr we pa st))
    (k0 : ¬ 6 < s → ∀ t', Q .next (mk c h t'))
    (k : 6 < s → ∀ h' t' y' ro', EStep o y y' u v (if s = 7 then -2 else s - 8) → LwA L D m0 X ro' h' → XS X L h h' → Fn (lwEnv cd L f) hB (lwP3 prog w hB L D ds sz o X y' ro' rd (addk ks (u, v)) (upd ra (u, v) (if s = 7 then -2 else s - 8))) h' (lwe D o y'.g u v s tu tv ts sc be to gd du pr we pa st) → Q .next (mk c h' t')) :
    wpAny (model prog w) A (exec (at' (dFor lwInn) 2) (lwEnv cd L f)) Q NE (mk c h t) := by
  by_cases h6 : 6 < s
  · obtain ⟨ob, fd, ho, hd⟩ := B.eo o
    have p := p h6
    have k := k h6
    have main : ∀ vv t1, RI vv (if s = 7 then -2 else s - 8) → wpAny (model prog w) A (eval (.Name "rows" ⟨658, 16, 658, 20⟩) (lwEnv cd L f)) (fun ov s₂ => wpAny (model prog w) A (eval (.Tuple [.Name "u" ⟨658, 21, 658, 22⟩, .Name "v" ⟨658, 24, 658, 25⟩] 0 ⟨658, 21, 658, 25⟩) (lwEnv cd L f)) (fun iv s₃ => wpAny (model prog w) A (setItem ov iv vv) (fun _ s₄ => wpAny (model prog w) A (execs ((dIfB (at' (dFor lwInn) 2)).drop 1) (lwEnv cd L f)) Q NE s₄) NE s₃) NE s₂) NE (mk c h t1) := fun vv t1 hv => by
      refine rows_set hu a0 hm hv hlen F (by walk_at "mem") (by walk_at "mem") fun h2 t2 F2 ko2 nx => ?_
      have a2 := a0.xs (XS.dict ko2 nx) F2.locEx
      have x := F2.inv.2.1
      refine wpAny_execs_cons (wpAny_Expr (methodCall_KW (nm F2 (by walk_at "mem") (g_meth (f := eF o) (B.X.keeps F2.keep) (B.O o) x.ins (by simp [fsOf]) (x.e4 _ (by decide)) (callWith_function_kw (o := ob) (fd := fd) (evalArgs_kw (by rfl) ?_))))))
      refine args_cons (nm F2 (by walk_at "mem") (args_cons (nm F2 (by walk_at "mem") (args_nil (wpAny_evalAll_cons (wpAny_bind (rows_get (t := t2) hu (addk_mem.mpr (.inr rfl)) F2 (by walk_at "mem") (by walk_at "mem") fun v3 h3 t3 r3 k3 => wpAny_bind (wpAny_standAt ?_)))))))) 
      refine wpAny_pure (wpAny_evalAll_nil (M := model prog w) (A := A) (E := NE) ⟨⟨F2.keep.trans k3 _ _ ho, hd⟩, ?_⟩)
      have F3 := F2.ext k3
      have a3 := a2.xs (XS.keep k3) F3.locEx
      have ez : upd ra (u, v) (if s = 7 then -2 else s - 8) (u, v) = (if s = 7 then -2 else s - 8) := by simp [upd]
      rw [ez] at r3
      refine adde_any (wv := some (v3, if s = 7 then -2 else s - 8)) B hA hroom F3.keep (Nat.le_trans F3.above (Nat.le_of_lt F3.loc.lt)) F3.inv.2.1 p.un p.vn p.ua p.va p.vp p.nuv p.l1 p.l2 (fun q e => by cases e; exact r3) fun h4 t4 y' ro' x' es ko r => ?_
      obtain ⟨F4, a4⟩ := lw3_edge a3 (a3.size F3.inv.2.1) F3 x' ko r
      exact wpAny_execs_nil (k h4 t4 y' ro' es a4 (((XS.dict ko2 nx).trans (XS.keep k3)).trans (XS.lab a3 ko)) (by rw [es.g]; exact F4))
    refine wpAny_If (wpAny_isTrue_Compare1 (nm F (by walk_at "mem") (wpAny_Constant_int (PySem.P.gt_int (wpAny_truthy_bool ?_)))))
    rw [if_pos (decide_eq_true h6)]
    refine wpAny_execs_cons (wpAny_Assign_Subscript (wpAny_IfExp (wpAny_isTrue_Compare1 (nm (t := t + 1) F (by walk_at "mem") (wpAny_Constant_int (PySem.P.eq_int (wpAny_truthy_bool ?_)))))))
    by_cases h7 : s = 7
    · rw [if_pos (by simpa using h7)]
      exact wpAny_UnaryOp (wpAny_Constant_int (PySem.P.neg_int (main _ (t + 4) ⟨_, by rw [if_pos h7]⟩)))
    · rw [if_neg (by simpa using h7)]
      exact wpAny_BinOp (nm (t := t + 1 + 1) F (by walk_at "mem") (wpAny_Constant_int (PySem.P.sub_int (main _ (t + 4) ⟨_, by rw [if_neg h7]⟩))))
  · refine wpAny_If (wpAny_isTrue_Compare1 (nm F (by walk_at "mem") (wpAny_Constant_int (PySem.P.gt_int (wpAny_truthy_bool ?_)))))
    rw [if_neg (by simpa using h6)]
    exact wpAny_execs_nil (k0 h6 _)
end
end Mine
end
section
open PySem PySem.W PyProof.Rows PySem.Calls
set_option maxRecDepth 100000
namespace Mine
local macro_rules | `(tactic| walk_at "mem") => `(tactic| with_reducible (first | exact List.mem_cons_self | (refine List.mem_cons_of_mem _ ?_; walk_at "mem")))
section
variable {prog : Program} {w : World} {A : Around} {c : Cst} {hB h : Heap} {t : Nat} {L f D m0 rd : Addr} {cd : Value} {K : Frag} {y : GD} {ro : Addr → Nat × Int} {X : List Addr} {ds : List Value} {sz : Option Value} {o : Bool} {ks : List (Int × Int)} {ra : Int × Int → Int}
variable {u v : Int} {tu tv : Tok} {sc be to gd du pr we pa st sg : Option Value} {Q : Flow → Shared → Prop}
theorem edged_of {y' : GD} {z : Int} (es : EStep o y y' u v z) (h1 : -2 ≤ z) (h2 : z ≤ 7) {s : Int} (h5 : 5 < s) : Edged o u v y y' ks (if 5 < s ∧ o = false then addk (addk ks (u, v)) (v, u) else addk ks (u, v)) ra (if 5 < s ∧ o = false then upd (upd ra (u, v) z) (v, u) (upd ra (u, v) z (u, v)) else upd ra (u, v) z) := by
  refine .inr ⟨z, h1, h2, es, ?_, ?_⟩
  · cases o <;> simp [aks, h5]
  · have e : upd ra (u, v) z (u, v) = z := by simp [upd]
    rw [e]
    cases o <;> simp [ara, h5]
theorem lw_turn {n : Nat} (B : LB hB K) (hA : A.handled = none) (hroom : A.depth + 10 < recursionLimit) (hu : A.units + 1 < cLine) (a0 : LwA L D m0 X ro h) (hm : m0 ≤ rd) (hlen : ks.length ≤ 1000) (p : EPre o y u v)
    (hd : Drw ds) (hl6 : ds.length = 6) (hn : n ≤ 5) (u0 : 0 ≤ u) (un : u < n) (v0 : 0 ≤ v) (vn : v < n)
    (F : Fn (lwEnv cd L f) hB (lwP3 prog w hB L D ds sz o X y ro rd ks ra) h (lwl sc (some (.ref D)) (some (.bool o)) (some (.ref y.g)) (some (.int v tv)) (some (.int u tu)) sg be to gd du pr we pa st))
    (k : ∀ h' t' y' ro' ks' ra' sg', LwA L D m0 X ro' h' → XS X L h h' → Fn (lwEnv cd L f) hB (lwP3 prog w hB L D ds sz o X y' ro' rd ks' ra') h' (lwl sc (some (.ref D)) (some (.bool o)) (some (.ref y'.g)) (some (.int v tv)) (some (.int u tu)) sg' be to gd du pr we pa st) →
      Edged o u v y y' ks ks' ra ra' → Q .next (mk c h' t')) :
    wpAny (model prog w) A (execs (dFor lwInn) (lwEnv cd L f)) Q NE (mk c h t) := by
  have e : dFor lwInn = [at' (dFor lwInn) 0, at' (dFor lwInn) 1, at' (dFor lwInn) 2, at' (dFor lwInn) 3] := by rfl
  rw [e]
  refine wpAny_execs_cons (lw_sign hd hl6 hn u0 un v0 vn F fun h1 t1 s tk r1 r2 ko1 F1 => ?_)
  have a1 := a0.xs (XS.loc ko1) F1.locEx
  have x1 : XS X L h h1 := XS.loc ko1
  have add1 : (addk ks (u, v)).length ≤ 1000000 := Nat.le_trans (addk_len _ _) (by omega)
  have three : ∀ h2 t2 y2 ro2 ks2 ra2, LwA L D m0 X ro2 h2 → XS X L h h2 → ks2.length ≤ 1000000 → (5 < s → o = false → (u, v) ∈ ks2) → Fn (lwEnv cd L f) hB (lwP3 prog w hB L D ds sz o X y2 ro2 rd ks2 ra2) h2 (lwe D o y2.g u v s tu tv tk sc be to gd du pr we pa st) →
      Edged o u v y y2 ks (if 5 < s ∧ o = false then addk ks2 (v, u) else ks2) ra (if 5 < s ∧ o = false then upd ra2 (v, u) (ra2 (u, v)) else ra2) → wpAny (model prog w) A (execs [at' (dFor lwInn) 3] (lwEnv cd L f)) Q NE (mk c h2 t2) := fun h2 t2 y2 ro2 ks2 ra2 a2 x2 l2 m2 F2 ed =>
    wpAny_execs_cons (lw_s3 hu a2 hm l2 m2 F2 fun h3 t3 x3 F3 => wpAny_execs_nil (k h3 t3 y2 ro2 _ _ _ (a2.xs x3 F3.locEx) (x2.trans x3) F3 ed))
  refine wpAny_execs_cons (lw_s1 B hA hroom hu a1 hm (by omega) (fun _ => p) F1 (fun n6 t2 => ?_) fun e6 h2 t2 y' ro' es a2 x2 F2 => ?_)
  · refine wpAny_execs_cons (lw_s2 B hA hroom hu a1 hm (by omega) (fun _ => p) F1 (fun n6' t3 => ?_) fun g6 h2 t2 y' ro' es a2 x2 F2 => ?_)
    · have h5 : ¬ 5 < s := by omega
      refine three h1 t3 y ro ks ra a1 x1 (by omega) (fun z => absurd z h5) F1 (.inl ⟨rfl, ?_, ?_⟩)
      · rw [if_neg (fun z => h5 z.1)]
      · rw [if_neg (fun z => h5 z.1)]
    · exact three h2 t2 y' ro' _ _ a2 (x1.trans x2) add1 (fun _ _ => addk_mem.mpr (.inr rfl)) F2 (edged_of es (by split <;> omega) (by split <;> omega) (by omega))
  · refine wpAny_execs_cons (lw_s2 B hA hroom hu a2 hm add1 (fun z => absurd z (by omega)) F2 (fun _ t3 => ?_) fun g6 => absurd g6 (by omega))
    exact three h2 t3 y' ro' _ _ a2 (x1.trans x2) add1 (fun _ _ => addk_mem.mpr (.inr rfl)) F2 (edged_of es (by decide) (by decide) (by omega))
end
end Mine
end
section
open PySem PySem.W PyProof.Rows PySem.Calls
set_option maxRecDepth 100000
namespace Mine
def Bef (o : Bool) (p : Int × Int) (u v : Int) : Prop := if o then p.1 < u ∨ (p.1 = u ∧ p.2 < v) else min p.1 p.2 < u ∨ (min p.1 p.2 = u ∧ max p.1 p.2 < v)
structure EdInv (o : Bool) (n : Nat) (y : GD) (ks : List (Int × Int)) (ra : Int × Int → Int) (u v : Int) : Prop where
  Nn : y.Nn = rng n
  Na : y.Na = rng n
  Np : o = true → y.Np = rng n
  e1 : ∀ a b, (a, b) ∈ ks ↔ (a ∈ rng n ∧ b ∈ y.nbr a)
  e2 : ∀ a b, (a, b) ∈ ks → y.wt a b = ra (a, b)
  e3 : ∀ p ∈ ks, p.2 ∈ rng n
  e4 : ∀ p ∈ ks, -2 ≤ ra p ∧ ra p ≤ 7
  e5 : ∀ p ∈ ks, Bef o p u v
  l1 : ∀ a, ((y.nbr a).length : Int) ≤ 10 * u + 2 * v
  l2 : o = true → ∀ a, ((y.pnb a).length : Int) ≤ 10 * u + 2 * v
  l3 : (ks.length : Int) ≤ 10 * u + 2 * v
variable {o : Bool} {n : Nat} {y y' : GD} {ks ks' : List (Int × Int)} {ra ra' : Int × Int → Int} {u v : Int}
theorem EdInv.pre (x : EdInv o n y ks ra u v) (hn : n ≤ 5) (u0 : 0 ≤ u) (un : u < n) (v0 : 0 ≤ v) (vn : v < n) (huv : o = false → u ≤ v) : EPre o y u v where
  un := x.Nn ▸ mem_rng.mpr ⟨u0, un⟩
  vn := x.Nn ▸ mem_rng.mpr ⟨v0, vn⟩
  ua := x.Na ▸ mem_rng.mpr ⟨u0, un⟩
  va := x.Na ▸ mem_rng.mpr ⟨v0, vn⟩
  vp := fun d => x.Np d ▸ mem_rng.mpr ⟨v0, vn⟩
  nuv := fun q => by
    have b := x.e5 _ ((x.e1 u v).mpr ⟨mem_rng.mpr ⟨u0, un⟩, q⟩)
    unfold Bef at b
    cases o with
    | true => simp at b
    | false =>
      have := huv rfl
      simp only [Bool.false_eq_true, if_false] at b
      rw [Int.min_eq_left this, Int.max_eq_right this] at b
      omega
  l1 := fun a => by have := x.l1 a; omega
  l2 := fun d a => by have := x.l2 d a; omega
theorem Bef.mono {p : Int × Int} {u' v' : Int} (b : Bef o p u v) (h : u < u' ∨ (u = u' ∧ v ≤ v')) : Bef o p u' v' := by
  unfold Bef at b ⊢
  split
  · rw [if_pos ‹_›] at b; omega
  · rw [if_neg ‹_›] at b; omega
theorem EdInv.mono {u' v' : Int} (x : EdInv o n y ks ra u v) (h : u < u' ∨ (u = u' ∧ v ≤ v')) (l : 10 * u + 2 * v ≤ 10 * u' + 2 * v') : EdInv o n y ks ra u' v' :=
  { x with
    e5 := fun p hp => (x.e5 p hp).mono h
    l1 := fun a => Int.le_trans (x.l1 a) l
    l2 := fun d a => Int.le_trans (x.l2 d a) l
    l3 := Int.le_trans x.l3 l }
theorem aks_mem {a b : Int} : (a, b) ∈ aks o ks u v ↔ (a, b) ∈ ks ∨ (a = u ∧ b = v) ∨ (o = false ∧ a = v ∧ b = u) := by
  unfold aks
  cases o <;> simp [addk_mem, or_assoc]
theorem ara_at {z : Int} {a b : Int} : ara o ra u v z (a, b) = if (a = u ∧ b = v) ∨ (o = false ∧ a = v ∧ b = u) then z else ra (a, b) := by
  unfold ara
  cases o with
  | true => simp [upd]
  | false =>
    simp only [upd, Bool.false_eq_true, if_false, Prod.mk.injEq, true_and]
    by_cases h1 : a = v ∧ b = u
    · simp [h1]
    · by_cases h2 : a = u ∧ b = v
      · simp [h2]
      · simp [h1, h2]
theorem EdInv.step (x : EdInv o n y ks ra u v) (u0 : 0 ≤ u) (un : u < n) (v0 : 0 ≤ v) (vn : v < n) (huv : o = false → u ≤ v) (e : Edged o u v y y' ks ks' ra ra') : EdInv o n y' ks' ra' u (v + 1) := by
  rcases e with ⟨rfl, rfl, rfl⟩ | ⟨z, z1, z2, es, rfl, rfl⟩
  · exact x.mono (.inr ⟨rfl, by omega⟩) (by omega)
  have hur : u ∈ rng n := mem_rng.mpr ⟨u0, un⟩
  have hvr : v ∈ rng n := mem_rng.mpr ⟨v0, vn⟩
  have al : ((aks o ks u v).length : Int) ≤ ks.length + 2 := by
    unfold aks
    split
    · have := addk_len ks (u, v); omega
    · have h1 := addk_len ks (u, v)
      have h2 := addk_len (addk ks (u, v)) (v, u)
      omega
  exact {
    Nn := es.Nn.trans x.Nn
    Na := es.Na.trans x.Na
    Np := fun d => es.Np.trans (x.Np d)
    e1 := fun a b => by
      rw [aks_mem, es.nb, x.e1]
      constructor
      · rintro (⟨h1, h2⟩ | ⟨rfl, rfl⟩ | ⟨d, rfl, rfl⟩)
        · exact ⟨h1, .inl h2⟩
        · exact ⟨hur, .inr (.inl ⟨rfl, rfl⟩)⟩
        · exact ⟨hvr, .inr (.inr ⟨d, rfl, rfl⟩)⟩
      · rintro ⟨h1, h2 | h2 | h2⟩
        · exact .inl ⟨h1, h2⟩
        · exact .inr (.inl h2)
        · exact .inr (.inr h2)
    e2 := fun a b h => by
      rw [es.wt, ara_at]
      split
      · rfl
      · rename_i hne
        rw [aks_mem] at h
        rcases h with h | h
        · exact x.e2 a b h
        · exact absurd h hne
    e3 := fun p hp => by
      obtain ⟨a, b⟩ := p
      rw [aks_mem] at hp
      rcases hp with h | ⟨_, rfl⟩ | ⟨_, _, rfl⟩
      · exact x.e3 _ h
      · exact hvr
      · exact hur
    e4 := fun p hp => by
      obtain ⟨a, b⟩ := p
      rw [ara_at]
      split
      · exact ⟨z1, z2⟩
      · rename_i hne
        rw [aks_mem] at hp
        rcases hp with h | h
        · exact x.e4 _ h
        · exact absurd h hne
    e5 := fun p hp => by
      obtain ⟨a, b⟩ := p
      rw [aks_mem] at hp
      rcases hp with h | ⟨rfl, rfl⟩ | ⟨d, rfl, rfl⟩
      · exact (x.e5 _ h).mono (.inr ⟨rfl, by omega⟩)
      · unfold Bef
        cases o with
        | true => simp; omega
        | false =>
          have := huv rfl
          simp only [Bool.false_eq_true, if_false]
          rw [Int.min_eq_left this, Int.max_eq_right this]; omega
      · have := huv d
        unfold Bef
        simp only [d, Bool.false_eq_true, if_false]
        rw [Int.min_eq_right this, Int.max_eq_left this]; omega
    l1 := fun a => by have h1 := x.l1 a; have h2 := es.l1 a; omega
    l2 := fun d a => by have h1 := x.l2 d a; have h2 := es.l2 a; omega
    l3 := by have h1 := x.l3; omega }
end Mine
end
section
open PySem PySem.W PyProof.Rows PySem.Calls
set_option maxRecDepth 100000
namespace Mine
local macro_rules | `(tactic| walk_at "mem") => `(tactic| with_reducible (first | exact List.mem_cons_self | (refine List.mem_cons_of_mem _ ?_; walk_at "mem")))
section
variable {prog : Program} {w : World} {A : Around} {env : Env} {c : Cst} {h : Heap} {t : Nat}
/-- over range(n) -/
theorem loops_rangeU {target : Expr} {body : List Stmt} {Q : Flow → Shared → Prop} {r : Addr} {a b : Int} {t0 t1 t2 : Tok} (hA : A.handled = none) (x : IsRange h r a b 1 t0 t1 t2) (hab : a ≤ b) (ha : 0 ≤ a) (hb : b ≤ 1000)
    (Inv : Int → Heap → Nat → Prop) (i0 : Inv a h t)
    (hst : ∀ i h₁ t₁ h' t', (∀ b o, b ≠ h.objs.size → h₁.get? b = some o → h'.get? b = some o) → Inv i h₁ t₁ → Inv i h' t')
    (turn : ∀ i h₁ t₁ tk, a ≤ i → i < b → (∃ o, h₁.get? h.objs.size = some o) → Inv i h₁ t₁ → wpAny (model prog w) A (assign target env (.int i tk)) (fun _ s₂ => wpAny (model prog w) A (execs body env) (Turn c (fun b => b ≠ h.objs.size) h₁ Q (Inv (i + 1))) NE s₂) NE (mk c h₁ t₁))
    (fin : ∀ h t, Inv b h t → Q .next (mk c h t)) :
    wpAny (model prog w) A (pyIter (.ref r)) (LoopsS prog w A env c target body Q fun b => b ≠ h.objs.size) NE (mk c h t) := by
  have hsz : Builtin.Range.rangeSize a b 1 = ((b - a).toNat : Int) := by
    unfold Builtin.Range.rangeSize
    by_cases e : a < b
    · simp [e]; omega
    · simp [e]; omega
  have hsm : Builtin.Range.small a b 1 = true := by
    simp only [Builtin.Range.small, Builtin.Range.rangeFitsLong, hsz, Bool.and_eq_true, Bool.or_eq_true, decide_eq_true_eq, beq_iff_eq]
    refine ⟨⟨⟨⟨?_, ?_⟩, ?_⟩, ?_⟩, Or.inr ?_⟩
    all_goals (try simp only [gt_iff_lt, Int.zero_lt_one, if_true])
    all_goals (try simp)
    all_goals (first | omega | (constructor <;> omega) | skip)
  refine wpAny_pyIter_range (s := mk c h t) x hsm ?_
  rw [hsz]
  refine ⟨h.objs.size, [h.objs.size], (b - a).toNat, _, _, _, t, fun i h t => Inv (a + i) h t, rfl, rfl, Walks.range hA _ a 1 (b - a).toNat, ?_, ?_, ?_, ?_, ?_, ?_, ?_⟩
  · show IsRangeIter _ _ _ _ _
    simpa using Heap.get?_push_size _ rfl
  · intro b hb
    rw [List.mem_singleton.mp hb]
    exact fun e => e rfl
  · intro i s v Q' st hq
    unfold letOwnedTupleGo
    cases target <;> first
      | exact wpAny_pure hq
      | (cases v <;> first
          | exact wpAny_pure hq
          | (refine wpAny_bind (wpAny_load st ?_)
             exact wpAny_pure hq))
  · have := hst a h t (h.push { cls := .type "range_iterator", data := .fields #[rawInt a, rawInt ((b - a).toNat : Int), rawInt 1] }) t (fun b o _ e => Heap.get?_push_of_some _ e) i0
    simpa using this
  · intro i h t h' t' hk iv; exact hst _ h t h' t' hk iv
  · rintro i h₁ t₁ hi st iv v ⟨tk, rfl⟩
    have := turn (a + i) h₁ t₁ tk (by omega) (by omega) ⟨_, st⟩ iv
    have e : a + (i : Int) * 1 = a + i := by omega
    have e2 : a + ((i + 1 : Nat) : Int) = a + i + 1 := by omega
    rw [e]
    show wpAny _ _ _ (fun x s₂ => wpAny _ _ _ (Turn c (fun b => b ≠ h.objs.size) h₁ Q (Inv (a + ((i + 1 : Nat) : Int)))) NE s₂) NE _
    rw [e2]
    exact this
  · intro h t iv
    have e : a + ((b - a).toNat : Int) = b := by omega
    try dsimp only at iv
    rw [e] at iv
    exact fin h t iv
end
section
variable {prog : Program} {w : World} {A : Around} {c : Cst} {hB h : Heap} {t : Nat} {L f D m0 rd I : Addr} {cd : Value} {K : Frag} {y : GD} {ro : Addr → Nat × Int} {X : List Addr} {ds : List Value} {sz : Option Value} {o : Bool} {ks : List (Int × Int)} {ra : Int × Int → Int}
variable {u v : Int} {tu tv : Tok} {sc be to gd du pr we pa st sg vo uo : Option Value} {Q : Flow → Shared → Prop}
theorem lwP3.more (x : lwP3 prog w hB L D ds sz o X y ro rd ks ra h) (hI : h.objs.size ≤ I) : lwP3 prog w hB L D ds sz o (I :: X) y ro rd ks ra h :=
  ⟨x.1, x.2.1, x.2.2.weak fun b hb z => ⟨z.1, fun q => (List.mem_cons.mp q).elim (fun e => Nat.not_lt.mpr hI (e ▸ hb)) z.2⟩⟩
theorem lwP3.less (x : lwP3 prog w hB L D ds sz o (I :: X) y ro rd ks ra h) : lwP3 prog w hB L D ds sz o X y ro rd ks ra h :=
  ⟨x.1, x.2.1, x.2.2.weak fun b _ z => ⟨z.1, fun q => z.2 (.tail _ q)⟩⟩
theorem LwA.more (a : LwA L D m0 X ro h) (hD : D ≠ I) (n : ¬ lab ro I) (e : ∃ o, h.get? I = some o) : LwA L D m0 (I :: X) ro h :=
  ⟨a.d, a.l, a.dL, fun q => (List.mem_cons.mp q).elim hD a.dX, fun b hb => .tail _ (a.cl b hb), fun b hb => (List.mem_cons.mp hb).elim (fun z => z ▸ ⟨n, e⟩) (a.x b), a.lo⟩
theorem LwA.less (a : LwA L D m0 (I :: X) ro h) (cl : ∀ b, (b = L ∨ b = L + 1 ∨ b = L + 2 ∨ b = L + 3) → b ∈ X) : LwA L D m0 X ro h :=
  ⟨a.d, a.l, a.dL, fun q => a.dX (.tail _ q), cl, fun b hb => a.x b (.tail _ hb), a.lo⟩
theorem XS.less {h' : Heap} (x : XS (I :: X) L h h') : XS X L h h' := fun b hb => x b (.tail _ hb)
theorem lwP3.stb' (a : LwA L D m0 X ro h) : Stb L (lwP3 prog w hB L D ds sz o (I :: X) y ro rd ks ra) := lwP3.dep.stb fun x => by
  have hl := nlt a.l
  rcases x with x | x | x | x | x | x
  · exact (a.x L (a.cl L (.inl rfl))).1 x
  · exact a.dL x.symm
  · exact absurd x (Nat.ne_of_lt (show @LT.lt Nat _ L (L + 1) by omega))
  · exact absurd x (Nat.ne_of_lt (show @LT.lt Nat _ L (L + 2) by omega))
  · exact absurd x (Nat.ne_of_lt (show @LT.lt Nat _ L (L + 3) by omega))
  · exact x.2 (.tail _ (a.cl L (.inl rfl)))
/-- the inner loop -/
theorem lw_inner {n : Nat} {tn : Tok} (B : LB hB K) (hA : A.handled = none) (hroom : A.depth + 10 < recursionLimit) (hu : A.units + 1 < cLine) (a0 : LwA L D m0 X ro h) (hm : m0 ≤ rd) (hd : Drw ds) (hl6 : ds.length = 6) (hn : n ≤ 5) (u0 : 0 ≤ u) (un : u < n) (ei : EdInv o n y ks ra u 0)
    (F : Fn (lwEnv cd L f) hB (lwP3 prog w hB L D ds (some (.int n tn)) o X y ro rd ks ra) h (lwl sc (some (.ref D)) (some (.bool o)) (some (.ref y.g)) vo (some (.int u tu)) sg be to gd du pr we pa st))
    (k : ∀ h' t' y' ro' ks' ra' vo' sg', LwA L D m0 X ro' h' → XS X L h h' → EdInv o n y' ks' ra' (u + 1) 0 → Fn (lwEnv cd L f) hB (lwP3 prog w hB L D ds (some (.int n tn)) o X y' ro' rd ks' ra') h' (lwl sc (some (.ref D)) (some (.bool o)) (some (.ref y'.g)) vo' (some (.int u tu)) sg' be to gd du pr we pa st) → Q .next (mk c h' t')) :
    wpAny (model prog w) A (exec lwInn (lwEnv cd L f)) Q NE (mk c h t) := by
  have zL := nlt (show L < h.objs.size from F.loc.lt)
  have hBL : hB.objs.size ≤ L := F.above
  have hl := nlt a0.l
  have hdm := nlt a0.d
  have hmh := nle (a0.size F.inv.2.1)
  have go : ∀ (v0 : Int) t0 ta, 0 ≤ v0 → v0 ≤ u → (o = false → u ≤ v0) → wpAny (model prog w) A (call (.type "range") [.int v0 ta, .int n tn]) (fun xv s₁ => wpAny (model prog w) A (pyIter xv) (LoopsS prog w A (lwEnv cd L f) c (.Name "v" ⟨652, 12, 652, 13⟩) (dFor lwInn) Q (fun b => b ≠ h.objs.size + 1)) NE s₁) NE (mk c h t0) := fun v0 t0 ta hv0 hvu hov => by
    refine call_range_2 (s := mk c h t0) (mk_toks (n := 1) ?_)
    generalize hh1 : h.push { cls := .type "range", data := .fields #[.int v0 ta, .int n tn, .int 1 (t0 + 1)] } = h1
    have hk1 : Keep h h1 := hh1 ▸ Keep.push _ _
    have s1 : h1.objs.size = h.objs.size + 1 := hh1 ▸ Heap.size_push ..
    have R1 : IsRange h1 h.objs.size v0 n 1 ta tn (t0 + 1) := hh1 ▸ IsRange.new ..
    have F1 := F.ext hk1
    have a1 := a0.xs (XS.keep hk1) F1.locEx
    rw [← s1]
    refine loops_rangeU hA R1 (by omega) hv0 (by omega)
      (fun i h₁ t₁ => ∃ y ro ks ra vo sg, v0 ≤ i ∧ ¬ lab ro h1.objs.size ∧ LwA L D m0 X ro h₁ ∧ XS X L h h₁ ∧ EdInv o n y ks ra u i ∧
        Fn (lwEnv cd L f) hB (lwP3 prog w hB L D ds (some (.int n tn)) o (h1.objs.size :: X) y ro rd ks ra) h₁ (lwl sc (some (.ref D)) (some (.bool o)) (some (.ref y.g)) vo (some (.int u tu)) sg be to gd du pr we pa st))
      ⟨y, ro, ks, ra, vo, sg, Int.le_refl _, F1.inv.2.1.nlab (Nat.le_refl _), a1, XS.keep hk1, ei.mono (.inr ⟨rfl, hv0⟩) (by omega), ?_⟩ ?_ ?_ ?_
    · exact F1.say (F1.inv.more (Nat.le_refl _)) (lwP3.stb' a1)
    · rintro i h₁ t₁ h' t' e ⟨y, ro, ks, ra, vo, sg, i0, nl, a2, xs, ed, F2⟩
      have hX : ∀ b ∈ X, b ≠ h1.objs.size := fun b hb q => by
        obtain ⟨_, ob, eb⟩ := a1.x b hb
        exact Nat.lt_irrefl _ (q ▸ Heap.lt_size eb)
      refine ⟨y, ro, ks, ra, vo, sg, i0, nl, a2.keep fun b hb ob eb => ⟨ob, e b ob (hX b hb) eb⟩, xs.trans fun b hb _ ob eb => e b ob (hX b hb) eb, ed, F2.off (I := h1.objs.size) lwP3.dep ?_ (show @LE.le Nat _ hB.objs.size h1.objs.size by omega) (show @Ne Nat h1.objs.size L by omega) e⟩
      rintro (x | x | x | x | x | x)
      · exact nl x
      · exact absurd x (Nat.ne_of_gt (show @LT.lt Nat _ D h1.objs.size by omega))
      · exact absurd x (Nat.ne_of_gt (show @LT.lt Nat _ (L + 1) h1.objs.size by omega))
      · exact absurd x (Nat.ne_of_gt (show @LT.lt Nat _ (L + 2) h1.objs.size by omega))
      · exact absurd x (Nat.ne_of_gt (show @LT.lt Nat _ (L + 3) h1.objs.size by omega))
      · exact x.2 (.head _)
    · rintro i h₁ t₁ tk hi1 hi2 hex ⟨y, ro, ks, ra, vo, sg, i0, nl, a2, xs, ed, F2⟩
      refine wpAny_assign_Name (st4 F2 fun h2 t2 F3 sb2 => ?_)
      have ko2 : KO (fun b => b = L) h₁ h2 := (KO.refl _).but sb2 rfl
      have a2' := a2.more (I := h1.objs.size) (show @Ne Nat D h1.objs.size by omega) nl hex
      have a3 := a2'.xs (XS.loc ko2) F3.locEx
      have l3 := ed.l3
      refine wpAny_mono (lw_turn (Q := fun fl s => fl = .next ∧ _) B hA hroom hu a3 hm (by omega) (ed.pre hn u0 un (by omega) hi2 (fun d => by have := hov d; omega)) hd hl6 hn u0 un (by omega) hi2 F3 fun h4 t4 y' ro' ks' ra' sg' a4 xs4 F4 eg => ⟨rfl, ?_⟩) (fun fl s' q => by obtain ⟨rfl, q⟩ := q; exact q) fun _ _ e => e
      have xs5 : XS (h1.objs.size :: X) L h₁ h4 := (XS.loc ko2).trans xs4
      refine ⟨h4, t4, rfl, fun b ob nb eb => ?_, y', ro', ks', ra', _, _, by omega, (a4.x _ (.head _)).1, a4.less a0.cl, xs.trans xs5.less, ed.step u0 un (by omega) hi2 (fun d => by have := hov d; omega) eg, F4⟩
      have hb : b = h1.objs.size := Classical.not_not.mp nb
      exact xs5 b (hb ▸ .head _) (by rw [hb]; show @Ne Nat h1.objs.size L; omega) ob eb
    · rintro h' t' ⟨y, ro, ks, ra, vo, sg, i0, nl, a2, xs, ed, F2⟩
      exact k h' t' y ro ks ra vo sg a2 xs (ed.mono (.inl (by omega)) (by omega)) (F2.say F2.inv.less (lwP3.stb a2))
  cases o with
  | true =>
    refine for_walksS (c := c) (fun b => b ≠ h.objs.size + 1) (Call_ (bname (B.bs.G.keep F.keep) (by walk_at "mem") boot_range (Pv.callWith_type1 (args_cons (wpAny_IfExp ?_)))))
    refine isTrue_plain ?_ (by with_unfolding_all rfl)
    refine nm F (v := .bool true) (by walk_at "mem") (wpAny_truthy_bool ?_)
    rw [if_pos rfl]
    exact wpAny_Constant_int (args_cons (nmc (t := t + 1) F.inv.1.1.1 (args_nil (go 0 (t + 1) _ (Int.le_refl _) u0 (fun d => nomatch d)))))
  | false =>
    refine for_walksS (c := c) (fun b => b ≠ h.objs.size + 1) (Call_ (bname (B.bs.G.keep F.keep) (by walk_at "mem") boot_range (Pv.callWith_type1 (args_cons (wpAny_IfExp ?_)))))
    refine isTrue_plain ?_ (by with_unfolding_all rfl)
    refine nm F (v := .bool false) (by walk_at "mem") (wpAny_truthy_bool ?_)
    rw [if_neg (by decide)]
    exact nm F (by walk_at "mem") (args_cons (nmc F.inv.1.1.1 (args_nil (go u t _ u0 (Int.le_refl _) (fun _ => Int.le_refl _)))))
end
end Mine
end
section
open PySem PySem.W PyProof.Rows PySem.Calls
set_option maxRecDepth 100000
namespace Mine
local macro_rules | `(tactic| walk_at "mem") => `(tactic| with_reducible (first | exact List.mem_cons_self | (refine List.mem_cons_of_mem _ ?_; walk_at "mem")))
section
variable {prog : Program} {w : World} {A : Around} {c : Cst} {hB h : Heap} {t : Nat} {L f D m0 rd I : Addr} {cd : Value} {K : Frag} {y : GD} {ro : Addr → Nat × Int} {X : List Addr} {ds : List Value} {sz : Option Value} {o : Bool} {ks : List (Int × Int)} {ra : Int × Int → Int}
variable {tu tv : Tok} {sc be to gd du pr we pa st sg vo uo : Option Value} {Q : Flow → Shared → Prop}
abbrev X0 (L : Addr) : List Addr := [L, L + 1, L + 2, L + 3]
theorem Arcs.none {Z : Addr → Prop} {d : Addr} (e : h.get? d = some emptyDict) (hs : (d == sysModules) = false) (z : Z d) : Arcs prog w Z h d [] fun _ => 0 :=
  ⟨hs, z, [], ⟨_, #[], 0, e, ⟨rfl, rfl, rfl⟩, rfl, rfl, fun _ hx => by simp at hx, List.nodup_nil⟩, rfl, fun _ hx => by simp at hx⟩
theorem cell_ex {q : Addr} {v : Option Value} (x : h.IsCell q v) : ∃ o, h.get? q = some o := let ⟨o, e, _⟩ := x; ⟨o, e⟩
/-- rows = {} -/
theorem lw_S5 (B : LB hB K) (hD : D ≠ L) (hm : L + 3 < m0) (hmD : D < m0) (hmh : m0 ≤ h.objs.size) (hlo : ∀ b, lab ro b → m0 ≤ b) (ex : List Addr) (hex : ∀ b ∈ ex, b ≠ D ∧ ∃ o, hB.get? b = some o)
    (F : Fn (lwEnv cd L f) hB (lwP2 prog w hB L D ds sz none none o y ro) h (lwl sc (some (.ref D)) (some (.bool o)) (some (.ref y.g)) vo uo sg be to gd du pr we pa st))
    (k : ∀ h' t' rd, m0 ≤ rd → LwA L D m0 (X0 L ++ ex) ro h' → Fn (lwEnv cd L f) hB (lwP3 prog w hB L D ds sz o (X0 L ++ ex) y ro rd [] fun _ => 0) h' (lwl sc (some (.ref D)) (some (.bool o)) (some (.ref y.g)) vo uo sg be to gd du pr we pa st) → Q .next (mk c h' t')) :
    wpAny (model prog w) A (exec (at' (dBody (S 29)) 5) (lwEnv cd L f)) Q NE (mk c h t) := by
  have hm := nlt hm
  have hmD := nlt hmD
  have hmh := nle hmh
  have hBL : @LE.le Nat _ hB.objs.size L := F.above
  have F1 := F.push emptyDict
  refine wpAny_Assign_Name (wpAny_Dict_empty ?_)
  refine stc F1.inv.1.1.2.1 (fun h2 c2 sb2 => ?_) (by rfl)
  have e2 : h2.get? h.objs.size = some emptyDict := sb2.extBut _ _ (show @Ne Nat h.objs.size (L + 2) by omega) (Heap.get?_push_size _ rfl)
  have o2 : ∀ b : Nat, b ≠ L + 2 → ∀ ob, (h.push emptyDict).get? b = some ob → h2.get? b = some ob := fun b nb ob e => sb2.extBut b ob nb e
  have nL : ∀ b, lab ro b → b ≠ L + 2 := fun b q => Nat.ne_of_gt (by have := nle (hlo b q); show @LT.lt Nat _ (L + 2) b; omega)
  have hDc : D ≠ L + 2 := fun q => by
    obtain ⟨nn, eD⟩ := F1.inv.1.2
    obtain ⟨ob, e1, d1⟩ := F1.inv.1.1.2.1
    rw [← q, eD] at e1; cases e1; cases d1
  have hDc1 : D ≠ L + 1 := fun q => by
    obtain ⟨nn, eD⟩ := F1.inv.1.2
    obtain ⟨ob, e1, d1⟩ := F1.inv.1.1.1
    rw [← q, eD] at e1; cases e1; cases d1
  have hDc3 : D ≠ L + 3 := fun q => by
    obtain ⟨nn, eD⟩ := F1.inv.1.2
    obtain ⟨ob, e1, d1⟩ := F1.inv.1.1.2.2
    rw [← q, eD] at e1; cases e1; cases d1
  have x2 : GSt prog w hB (clsA o) o y ro h2 := GSt.dep _ h2 (fun b ob q e => o2 b (nL b q) ob e) F1.inv.2
  have hlt : ∀ b ∈ ex, b < hB.objs.size := fun b q => let ⟨_, _, e⟩ := hex b q; Heap.lt_size e
  have z2 : Zx ro (X0 L ++ ex) h.objs.size := ⟨F.inv.2.nlab (Nat.le_refl _), fun q => by
    simp only [List.mem_append, List.mem_cons, List.not_mem_nil, or_false] at q
    rcases q with (q | q | q | q) | q
    · exact absurd q (Nat.ne_of_gt (show @LT.lt Nat _ L h.objs.size by omega))
    · exact absurd q (Nat.ne_of_gt (show @LT.lt Nat _ (L + 1) h.objs.size by omega))
    · exact absurd q (Nat.ne_of_gt (show @LT.lt Nat _ (L + 2) h.objs.size by omega))
    · exact absurd q (Nat.ne_of_gt (show @LT.lt Nat _ (L + 3) h.objs.size by omega))
    · exact absurd (nlt (hlt _ q)) (by omega)⟩
  have cells : lwC L sz (some (.ref h.objs.size)) none h2 := ⟨let ⟨ob, e, d⟩ := F1.inv.1.1.1; ⟨ob, o2 _ (by omega) _ e, d⟩, c2, let ⟨ob, e, d⟩ := F1.inv.1.1.2.2; ⟨ob, o2 _ (by omega) _ e, d⟩⟩
  have hLex : ∃ ob, h2.get? L = some ob := let ⟨ob, e⟩ := F1.locEx; ⟨ob, o2 L (by omega) _ e⟩
  have a2 : LwA L D m0 (X0 L ++ ex) ro h2 := ⟨hmD, hm, hD, fun q => by
    simp only [List.mem_append, List.mem_cons, List.not_mem_nil, or_false] at q
    rcases q with (q | q | q | q) | q
    · exact hD q
    · exact hDc1 q
    · exact hDc q
    · exact hDc3 q
    · exact (hex _ q).1 rfl, fun b q => by rcases q with rfl | rfl | rfl | rfl <;> simp, fun b q => by
    simp only [List.mem_append, List.mem_cons, List.not_mem_nil, or_false] at q
    rcases q with (rfl | rfl | rfl | rfl) | q
    · exact ⟨fun z => absurd (nle (hlo _ z)) (by omega), hLex⟩
    · exact ⟨fun z => absurd (nle (hlo _ z)) (by omega), cell_ex cells.1⟩
    · exact ⟨fun z => absurd (nle (hlo _ z)) (by omega), cell_ex cells.2.1⟩
    · exact ⟨fun z => absurd (nle (hlo _ z)) (by omega), cell_ex cells.2.2⟩
    · have hq := nlt (hlt b q)
      obtain ⟨ob, e⟩ := (hex b q).2
      exact ⟨fun z => absurd (nle (hlo _ z)) (by omega), ob, o2 b (by omega) _ (F1.keep _ _ e)⟩, hlo⟩
  refine k h2 t h.objs.size hmh a2 (F1.upd (a := L + 2) (show @LE.le Nat _ hB.objs.size (L + 2) by omega) (show @Ne Nat (L + 2) L by omega) sb2.extBut ⟨⟨cells, F1.inv.1.2.at fun ob e => o2 D hDc ob e⟩, x2, Arcs.none e2 ((B.gb o).low _ (by omega)) z2⟩ (lwP3.stb a2))

theorem edinv0 {n : Nat} (e1 : y.Nn = rng n) (e2 : y.Na = rng n) (e3 : o = true → y.Np = rng n) (e4 : ∀ u, y.nbr u = []) (e5 : o = true → ∀ u, y.pnb u = []) : EdInv o n y [] (fun _ => 0) 0 0 where
  Nn := e1
  Na := e2
  Np := e3
  e1 := fun a b => by simp [e4]
  e2 := fun a b h => nomatch h
  e3 := fun p h => nomatch h
  e4 := fun p h => nomatch h
  e5 := fun p h => nomatch h
  l1 := fun a => by rw [e4]; decide
  l2 := fun d a => by rw [e5 d]; decide
  l3 := by decide
/-- the edge loops -/
theorem lw_S6 {n : Nat} {tn : Tok} (B : LB hB K) (hA : A.handled = none) (hroom : A.depth + 10 < recursionLimit) (hu : A.units + 1 < cLine) (a0 : LwA L D m0 X ro h) (hm : m0 ≤ rd) (hd : Drw ds) (hl6 : ds.length = 6) (hn : n ≤ 5) (ei : EdInv o n y ks ra 0 0)
    (F : Fn (lwEnv cd L f) hB (lwP3 prog w hB L D ds (some (.int n tn)) o X y ro rd ks ra) h (lwl sc (some (.ref D)) (some (.bool o)) (some (.ref y.g)) vo uo sg be to gd du pr we pa st))
    (k : ∀ h' t' y' ro' ks' ra' vo' uo' sg', LwA L D m0 X ro' h' → EdInv o n y' ks' ra' n 0 → Fn (lwEnv cd L f) hB (lwP3 prog w hB L D ds (some (.int n tn)) o X y' ro' rd ks' ra') h' (lwl sc (some (.ref D)) (some (.bool o)) (some (.ref y'.g)) vo' uo' sg' be to gd du pr we pa st) → Q .next (mk c h' t')) :
    wpAny (model prog w) A (exec lwOut (lwEnv cd L f)) Q NE (mk c h t) := by
  have zL := nlt (show L < h.objs.size from F.loc.lt)
  have hBL : @LE.le Nat _ hB.objs.size L := F.above
  have hl := nlt a0.l
  have hdm := nlt a0.d
  have hmh := nle (a0.size F.inv.2.1)
  refine for_walksS (c := c) (fun b => b ≠ h.objs.size + 1) (Call_ (bname (B.bs.G.keep F.keep) (by walk_at "mem") boot_range (Pv.callWith_type1 (args_cons (nmc F.inv.1.1.1 (args_nil (call_range_1 (s := mk c h t) (mk_toks (n := 2) ?_))))))))
  generalize hh1 : h.push { cls := .type "range", data := .fields #[.int 0 (t + 1), .int n tn, .int 1 (t + 1 + 1)] } = h1
  have hk1 : Keep h h1 := hh1 ▸ Keep.push _ _
  have s1 : h1.objs.size = h.objs.size + 1 := hh1 ▸ Heap.size_push ..
  have R1 : IsRange h1 h.objs.size 0 n 1 (t + 1) tn (t + 1 + 1) := hh1 ▸ IsRange.new ..
  have F1 := F.ext hk1
  have a1 := a0.xs (XS.keep hk1) F1.locEx
  rw [← s1]
  refine loops_rangeU hA R1 (by omega) (by omega) (by omega)
    (fun i h₁ t₁ => ∃ y ro ks ra vo uo sg, 0 ≤ i ∧ ¬ lab ro h1.objs.size ∧ LwA L D m0 X ro h₁ ∧ EdInv o n y ks ra i 0 ∧
      Fn (lwEnv cd L f) hB (lwP3 prog w hB L D ds (some (.int n tn)) o (h1.objs.size :: X) y ro rd ks ra) h₁ (lwl sc (some (.ref D)) (some (.bool o)) (some (.ref y.g)) vo uo sg be to gd du pr we pa st))
    ⟨y, ro, ks, ra, vo, uo, sg, Int.le_refl _, F1.inv.2.1.nlab (Nat.le_refl _), a1, ei, F1.say (F1.inv.more (Nat.le_refl _)) (lwP3.stb' a1)⟩ ?_ ?_ ?_
  · rintro i h₁ t₁ h' t' e ⟨y, ro, ks, ra, vo, uo, sg, i0, nl, a2, ed, F2⟩
    have hX : ∀ b ∈ X, b ≠ h1.objs.size := fun b hb q => by
      obtain ⟨_, ob, eb⟩ := a1.x b hb
      exact Nat.lt_irrefl _ (q ▸ Heap.lt_size eb)
    refine ⟨y, ro, ks, ra, vo, uo, sg, i0, nl, a2.keep fun b hb ob eb => ⟨ob, e b ob (hX b hb) eb⟩, ed, F2.off (I := h1.objs.size) lwP3.dep ?_ (show @LE.le Nat _ hB.objs.size h1.objs.size by omega) (show @Ne Nat h1.objs.size L by omega) e⟩
    rintro (x | x | x | x | x | x)
    · exact nl x
    · exact absurd x (Nat.ne_of_gt (show @LT.lt Nat _ D h1.objs.size by omega))
    · exact absurd x (Nat.ne_of_gt (show @LT.lt Nat _ (L + 1) h1.objs.size by omega))
    · exact absurd x (Nat.ne_of_gt (show @LT.lt Nat _ (L + 2) h1.objs.size by omega))
    · exact absurd x (Nat.ne_of_gt (show @LT.lt Nat _ (L + 3) h1.objs.size by omega))
    · exact x.2 (.head _)
  · rintro i h₁ t₁ tk hi1 hi2 hex ⟨y, ro, ks, ra, vo, uo, sg, i0, nl, a2, ed, F2⟩
    refine wpAny_assign_Name (st5 F2 fun h2 t2 F3 sb2 => ?_)
    have ko2 : KO (fun b => b = L) h₁ h2 := (KO.refl _).but sb2 rfl
    have a2' := a2.more (I := h1.objs.size) (show @Ne Nat D h1.objs.size by omega) nl hex
    have a3 := a2'.xs (XS.loc ko2) F3.locEx
    refine wpAny_execs_cons (lw_inner B hA hroom hu a3 hm hd hl6 hn i0 hi2 ed F3 fun h4 t4 y' ro' ks' ra' vo' sg' a4 xs4 ed' F4 => ?_)
    have xs5 : XS (h1.objs.size :: X) L h₁ h4 := (XS.loc ko2).trans xs4
    refine wpAny_execs_nil ⟨h4, t4, rfl, fun b ob nb eb => ?_, y', ro', ks', ra', _, _, _, by omega, (a4.x _ (.head _)).1, a4.less a0.cl, ed', F4⟩
    have hb : b = h1.objs.size := Classical.not_not.mp nb
    exact xs5 b (hb ▸ .head _) (by rw [hb]; show @Ne Nat h1.objs.size L; omega) ob eb
  · rintro h' t' ⟨y, ro, ks, ra, vo, uo, sg, i0, nl, a2, ed, F2⟩
    exact k h' t' y ro ks ra vo uo sg a2 ed (F2.say F2.inv.less (lwP3.stb a2))
end
end Mine
end
section
open PySem PySem.W PyProof.Rows PySem.Calls
set_option maxRecDepth 100000
namespace Mine
local macro_rules | `(tactic| walk_at "mem") => `(tactic| with_reducible (first | exact List.mem_cons_self | (refine List.mem_cons_of_mem _ ?_; walk_at "mem")))
/-- the j-th of least -/
def LeastV (prog : Program) (w : World) (n : Nat) (ks : List (Int × Int)) (ra : Int × Int → Int) (m : Nat) (j : Nat) (v : Value) (h : Heap) : Prop :=
  match leastB ra ks n ⟨[(j : Int)], fun _ => 0⟩ with
  | none => v = .none
  | some B => ∃ a, v = .ref a ∧ m < a ∧ Row prog w RI h a B.ks B.f
section
variable {prog : Program} {w : World} {A : Around} {env : Env} {c : Cst} {hB h : Heap} {t : Nat} {L f D m0 rd I : Addr} {cd : Value} {K : Frag} {y : GD} {ro : Addr → Nat × Int} {X : List Addr} {ds : List Value} {sz : Option Value} {o : Bool} {ks : List (Int × Int)} {ra : Int × Int → Int}
variable {tu tv : Tok} {sc be to gd du pr we pa st sg vo uo : Option Value} {Q : Flow → Shared → Prop}
theorem LeastV.dep {n m j : Nat} {v : Value} : Dep (fun b => m < b) (LeastV prog w n ks ra m j v) := by
  unfold LeastV
  intro h h' k x
  revert x
  cases leastB ra ks n ⟨[(j : Int)], fun _ => 0⟩ with
  | none => exact id
  | some B => rintro ⟨a, e, hm, r⟩; exact ⟨a, e, hm, r.at fun o e => k a o hm e⟩
/-- iteration over range(a, b), for a comprehension -/
theorem range_walk {r : Addr} {a b : Int} {t0 t1 t2 : Tok} {Q : Value → Shared → Prop} (hA : A.handled = none) (x : IsRange h r a b 1 t0 t1 t2) (hab : a ≤ b) (ha : 0 ≤ a) (hb : b ≤ 1000)
    (k : ∀ h' P St, Keep h h' → h'.objs.size = h.objs.size + 1 → Walks prog w A h.objs.size [h.objs.size] [h.objs.size] (b - a).toNat P St → St 0 h' → (∀ i v, P i v → ∃ tk, v = .int (a + (i : Int)) tk) → Q (.ref h.objs.size) (mk c h' t)) :
    wpAny (model prog w) A (pyIter (.ref r)) Q NE (mk c h t) := by
  have hsz : Builtin.Range.rangeSize a b 1 = ((b - a).toNat : Int) := by
    unfold Builtin.Range.rangeSize
    by_cases e : a < b
    · simp [e]; omega
    · simp [e]; omega
  have hsm : Builtin.Range.small a b 1 = true := by
    simp only [Builtin.Range.small, Builtin.Range.rangeFitsLong, hsz, Bool.and_eq_true, Bool.or_eq_true, decide_eq_true_eq, beq_iff_eq]
    refine ⟨⟨⟨⟨?_, ?_⟩, ?_⟩, ?_⟩, Or.inr ?_⟩
    all_goals (try simp only [gt_iff_lt, Int.zero_lt_one, if_true])
    all_goals (try simp)
    all_goals (first | omega | (constructor <;> omega) | skip)
  refine wpAny_pyIter_range (s := mk c h t) x hsm ?_
  rw [hsz]
  refine k _ _ _ (Keep.push _ _) (Heap.size_push ..) (Walks.range hA _ a 1 (b - a).toNat) ?_ fun i v hv => ?_
  · show IsRangeIter _ _ _ _ _
    simpa using Heap.get?_push_size _ rfl
  · obtain ⟨tk, rfl⟩ := hv
    exact ⟨tk, by rw [Int.mul_one]⟩
theorem lw_S7 {n : Nat} {tn : Tok} (B : LB hB K) (hA : A.handled = none) (hroom : A.depth + 10 < recursionLimit) (hu : A.units + 10 < cLine) (a0 : LwA L D m0 X ro h) (hn : n ≤ 5) (hlen : ks.length ≤ 900)
    (F : Fn (lwEnv cd L f) hB (lwP3 prog w hB L D ds (some (.int n tn)) o X y ro rd ks ra) h (lwl sc (some (.ref D)) (some (.bool o)) (some (.ref y.g)) vo uo sg be to gd du pr we pa st))
    (k : ∀ h' t' ll vs, Lst h' ll vs → vs.length = n → (∀ (j : Nat) v, vs[j]? = some v → LeastV prog w n ks ra h.objs.size j v h') → L + 3 < ll → lwC L (some (.int n tn)) (some (.ref rd)) (some (.ref ll)) h' → GSt prog w hB (clsA o) o y ro h' → Arcs prog w (fun b => b ∉ X) h' rd ks ra →
      Fn (lwEnv cd L f) hB (fun _ => True) h' (lwl sc (some (.ref D)) (some (.bool o)) (some (.ref y.g)) vo uo sg be to gd du pr we pa st) → Q .next (mk c h' t')) :
    wpAny (model prog w) A (exec (at' (dBody (S 29)) 7) (lwEnv cd L f)) Q NE (mk c h t) := by
  obtain ⟨cdl, hf⟩ := B.f912
  have ⟨ob, pm, ho, hdat, _⟩ := hf
  have zL := nlt (show L < h.objs.size from F.loc.lt)
  have hBL : @LE.le Nat _ hB.objs.size L := F.above
  have hl := nlt a0.l
  have hmh := nle (a0.size F.inv.2.1)
  refine wpAny_Assign_Name ?_
  rw [arm_eval_ListComp]
  refine list_comp (c := c) (cl := [("size", L + 1), ("rows", L + 2)]) (Call_ (bname (B.bs.G.keep F.keep) (by walk_at "mem") boot_range (Pv.callWith_type1 (args_cons (nmc F.inv.1.1.1 (args_nil (call_range_1 (s := mk c h t) (mk_toks (n := 2) ?_))))))))
  generalize hh1 : h.push { cls := .type "range", data := .fields #[.int 0 (t + 1), .int n tn, .int 1 (t + 1 + 1)] } = h1
  have hk1 : Keep h h1 := hh1 ▸ Keep.push _ _
  have s1 : h1.objs.size = h.objs.size + 1 := hh1 ▸ Heap.size_push ..
  have R1 : IsRange h1 h.objs.size 0 n 1 (t + 1) tn (t + 1 + 1) := hh1 ▸ IsRange.new ..
  have F1 := F.ext hk1
  refine range_walk (c := c) hA R1 (by omega) (by omega) (by omega) fun h2 P St k2 s2 W st0 hP => ?_
  have x1 := F1.inv
  have F2 := F1.ext k2
  have hn0 : ((n : Int) - 0).toNat = n := by omega
  rw [hn0] at W
  have am : ∀ b, Zx ro X b → b ∉ X := fun b z => z.2
  refine lcomp (c := c) (LeastV prog w n ks ra (h2.objs.size + 1)) W st0 (fun b hb => by rw [List.mem_singleton.mp hb]; show @LT.lt Nat _ h1.objs.size h2.objs.size; omega) (hB := h1) k2 (Nat.le_refl _) (by show @LT.lt Nat _ h1.objs.size h2.objs.size; omega) (by omega) (fun j v => LeastV.dep.mono fun b hb => ?_) (fun j v h3 t3 hj hPj hsz Fc => ?_) (fun h3 t3 vs k3 hsz3 l3 n3 r3 => ?_)
  · have hb := nlt hb
    exact ⟨Nat.ne_of_gt (by omega), Nat.ne_of_gt (by omega), Nat.ne_of_gt (by omega)⟩
  · obtain ⟨tk, rfl⟩ := hP j v hPj
    have x3 := F1.inv.2.2.keep Fc.keep
    have c3 := lwC.dep h1 h3 (fun b ob _ e => Fc.keep b ob e) F1.inv.1.1
    have G3 := B.bs.G.keep (F1.keep.trans Fc.keep)
    refine Call_ (gname G3 (by walk_at "mem") (callWith_def hdat (args_cons (nmc c3.2.1 (args_cons (nmc c3.1 (args_cons (nm Fc (by walk_at "mem") (args_nil ⟨F1.keep.trans Fc.keep _ _ ho, ?_⟩))))))))) 
    have ej : (0 : Int) + (j : Int) = (j : Int) := by omega
    rw [ej]
    refine least_spec (Z := Zx ro X) G3 (hf.keep (F1.keep.trans Fc.keep)) hA (by omega) hu (by omega) hlen x3 (fun h4 t4 a B' e k4 r4 s4 => ?_) (fun h4 t4 e k4 => ?_)
    · exact ⟨h4, t4, rfl, k4, by unfold LeastV; rw [e]; exact ⟨a, rfl, Nat.lt_of_lt_of_le hsz s4, r4⟩⟩
    · exact ⟨h4, t4, rfl, k4, by unfold LeastV; rw [e]⟩
  · have F3 := F1.ext k3
    have c3 := F3.inv.1.1
    refine stc c3.2.2 (fun h4 c4 sb4 => ?_) (by rfl)
    have o4 : ∀ b : Nat, b ≠ L + 3 → ∀ ob, h3.get? b = some ob → h4.get? b = some ob := fun b nb ob e => sb4.extBut b ob nb e
    have F4 := F3.upd (a := L + 3) (P' := fun _ => True) (show @LE.le Nat _ hB.objs.size (L + 3) by omega) (show @Ne Nat (L + 3) L by omega) sb4.extBut trivial Stb.true
    have nl : ∀ b, lab ro b → b ≠ L + 3 := fun b q => Nat.ne_of_gt (by have := nle (a0.lo b q); show @LT.lt Nat _ (L + 3) b; omega)
    refine k h4 t3 h2.objs.size vs (l3.at fun ob e => o4 _ (by omega) ob e) n3 (fun j v e => ?_) (by show @LT.lt Nat _ (L + 3) h2.objs.size; omega) ⟨let ⟨ob, e, d⟩ := c3.1; ⟨ob, o4 _ (by omega) _ e, d⟩, let ⟨ob, e, d⟩ := c3.2.1; ⟨ob, o4 _ (by omega) _ e, d⟩, c4⟩ (GSt.dep h3 h4 (fun b ob q e => o4 b (nl b q) ob e) F3.inv.2.1) (Arcs.dep h3 h4 (fun b ob q e => o4 b (fun z => q (z ▸ a0.cl _ (by simp))) ob e) (F3.inv.2.2.weak fun b _ z => am b z)) F4
    have r := LeastV.dep h3 h4 (fun b ob q e => o4 b (Nat.ne_of_gt (by have := nlt q; show @LT.lt Nat _ (L + 3) b; omega)) ob e) (r3 j v e)
    unfold LeastV at r ⊢
    revert r
    cases leastB ra ks n ⟨[(j : Int)], fun _ => 0⟩ with
    | none => exact id
    | some B' => rintro ⟨a, e1, e2, e3⟩; exact ⟨a, e1, by have := nlt e2; show @LT.lt Nat _ h.objs.size a; omega, e3⟩
end
end Mine
end
section
open PySem PySem.W PyProof.Rows PySem.Calls
set_option maxRecDepth 100000
namespace Mine
section
variable {prog : Program} {w : World} {A : Around} {s : Shared}
theorem pairs_any (prog' : Program) (w' : World) {es : List DictEntry} {kvs : List (Int × Value)} (x : Pairs (PySem.intKind prog w) es kvs) : Pairs (PySem.intKind prog' w') es kvs := by
  induction x with
  | nil => exact .nil
  | cons h1 h2 _ ih => exact .cons h1 h2 ih
theorem Row.any {α : Type} {R : Value → α → Prop} {h : Heap} {a : Addr} {ks : List Int} {f : Int → α} (prog' : Program) (w' : World) (x : Row prog w R h a ks f) : Row prog' w' R h a ks f := by
  obtain ⟨s, kvs, ⟨o, es, ep, ho, hc, hd, he, hi, hn⟩, hk, r⟩ := x
  exact ⟨s, kvs, ⟨o, es, ep, ho, hc, hd, fun e m => he e m, pairs_any prog' w' hi, hn⟩, hk, r⟩
/-- a row of weights is as another -/
theorem rcAt_rows {a b : Addr} {ks ls : List Int} {f g : Int → Option Int} (hu : A.units < cLine) (nb : NoneBooked s.heap) (x : Row prog w RE s.heap a ks f) (y : Row prog w RE s.heap b ls g) :
    SeqAt.RcAt A s (.ref a) (.ref b) (ks.length == ls.length && ks.all fun i => decide (i ∈ ls) && (f i == g i)) := fun prog' w' E Q h =>
  row_eq (fun i => f i == g i) hu (Row.any prog' w' x) (Row.any prog' w' y) (fun i _ _ v u hv hu => eqAt_ext nb hv hu) h
/-- a dict of rows is as another -/
theorem tabs_eq {E Q : Value → Shared → Prop} {a b : Addr} {ks ls : List Int} {da db : Int → Addr} {kf : Int → List Int} {f g : Int → Int → Option Int} (hu : A.units + 2 < cLine) (nb : NoneBooked s.heap) (x : Row prog w RR s.heap a ks da) (y : Row prog w RR s.heap b ls db)
    (rx : ∀ i ∈ ks, Row prog w RE s.heap (da i) (kf i) (f i)) (ry : ∀ i ∈ ls, Row prog w RE s.heap (db i) (kf i) (g i)) (hne : ∀ i ∈ ks, i ∈ ls → da i ≠ db i) (h1 : ks = ls) (h2 : ∀ i ∈ ks, ∀ j ∈ kf i, f i j = g i j)
    (k : Q (.bool true) s) : wpAny (model prog w) A (compareOp .Eq (.ref a) (.ref b)) Q E s := by
  subst h1
  refine row_eq (fun _ => true) (by omega) x y (fun i hi _ v u hv hu' => ?_) ?_
  · cases hv; cases hu'
    have r := rcAt_rows (A := A.in1) (by show A.units + 1 < cLine; omega) nb (rx i hi) (ry i hi)
    have e : ((kf i).length == (kf i).length && (kf i).all fun j => decide (j ∈ kf i) && (f i j == g i j)) = true := by
      simp only [beq_self_eq_true, Bool.true_and, List.all_eq_true, Bool.and_eq_true, decide_eq_true_eq, beq_iff_eq]
      exact fun j hj => ⟨hj, h2 i hi j hj⟩
    rw [e] at r
    exact SeqAt.EqAt.of_refs (hne i hi hi) r
  · have e : (ks.length == ks.length && ks.all fun i => decide (i ∈ ks) && true) = true := by simp
    rw [e]; exact k
theorem eqAt_dict_none {K : Type} [DecidableEq K] {knd : KeyKind prog w K} {d : Addr} {kvs : List (K × Value)} (hd : s.heap.DictOf knd d kvs) (hu : A.units < cLine) : SeqAt.EqAt A s (.ref d) .none false := fun prog' w' E Q h => by
  unfold eqBool
  refine wpAny_holding ?_
  refine wpAny_ite_split (fun hab => absurd (eq_of_beq hab) nofun) (fun _ => ?_)
  refine wpAny_bind (SeqAt.rc_eq_decline_or (k := false) hd.typeIs rfl (by decide) PySem.F.sub_NoneType_dict PySem.F.slot_dict_eq PySem.F.slot_NoneType_eq_refl (fun Q' hq => ?_) (fun Q' hq => ?_) (fun _ hq => wpAny_of_eq (rfl : isSame (.ref d) .none = pure false) hq) (.inr hu) (wpAny_truthy_bool h))
  · refine wpAny_call_entry PySem.F.slot_dict_eq hd.typeIs PySem.F.entry_dict_eq ?_ (PySem.F.args_dict_eq_2 _ _)
    show wpAny _ _ (Builtin.Dict.dictSlotArgs "__eq__" ⟨[.ref d, .none], []⟩ >>= _) _ _ s
    refine wpAny_bind ?_
    unfold Builtin.Dict.dictSlotArgs
    refine wpAny_bind (wpAny_notOrdered_dict hd.typeIs ?_)
    show wpAny _ _ (pure (Value.ref d, Value.none)) _ _ s
    refine wpAny_pure ?_
    refine wpAny_bind (wpAny_isInstance (T := "NoneType") rfl PySem.F.sub_NoneType_dict ?_)
    simp only [Bool.not_false, if_true]
    exact wpAny_bind (wpAny_rule (wpAny_pure ⟨_, rfl, hq⟩))
  · exact call_gives PySem.F.slot_NoneType_eq_refl rfl PySem.F.entry_NoneType_eq (PySem.F.args_NoneType_eq_2 _ _) (SeqAt.NoneType___eq___none_ref_0 d) hq
theorem eqAt_none_none : SeqAt.EqAt A s .none .none true := SeqAt.EqAt.same .none
end
end Mine
end
section
open PySem PySem.W PyProof.Rows PySem.Calls
set_option maxRecDepth 100000
namespace Mine
local macro_rules | `(tactic| walk_at "mem") => `(tactic| with_reducible (first | exact List.mem_cons_self | (refine List.mem_cons_of_mem _ ?_; walk_at "mem")))
/-- what stands from the least on -/
structure LwF (prog : Program) (w : World) (hG : Heap) (o : Bool) (n : Nat) (tn : Tok) (y : GD) (ro : Addr → Nat × Int) (rd : Addr) (ks : List (Int × Int)) (ra : Int × Int → Int) (ll : Addr) (vs : List Value) (L m0 : Nat) (tl : List Addr) (h : Heap) : Prop where
  cells : lwC L (some (.int n tn)) (some (.ref rd)) (some (.ref ll)) h
  lst : Lst h ll vs
  len : vs.length = n
  lv : ∀ (j : Nat) v, vs[j]? = some v → LeastV prog w n ks ra (L + 3) j v h
  lll : L + 3 < ll
  g : GSt prog w hG (clsA o) o y ro h
  ar : Arcs prog w (fun b => b ∉ L :: tl) h rd ks ra
  lo : ∀ b, lab ro b → m0 ≤ b
  lm : L + 3 < m0
  tlt : ∀ b ∈ tl, b < L
section
variable {prog : Program} {w : World} {A : Around} {c : Cst} {hB hG h : Heap} {t : Nat} {L f D rd ll : Addr} {m0 : Nat} {cd : Value} {K : Frag} {y : GD} {ro : Addr → Nat × Int} {o : Bool} {n : Nat} {tn : Tok} {ks : List (Int × Int)} {ra : Int × Int → Int} {vs : List Value} {tl : List Addr}
variable {sc be to gd du pr we pa st sg vo uo dr : Option Value} {Q : Flow → Shared → Prop}
theorem LwF.dep : Dep (fun b => b ∉ L :: tl) (LwF prog w hG o n tn y ro rd ks ra ll vs L m0 tl) := fun h h' k x => by
  have up : ∀ b, @LT.lt Nat _ L b → b ∉ L :: tl := fun b hb m => by
    rcases List.mem_cons.mp m with z | z
    · exact Nat.lt_irrefl _ (z ▸ hb)
    · exact Nat.lt_asymm hb (x.tlt b z)
  have lm := nlt x.lm
  exact { x with
    cells := lwC.dep h h' (fun b ob q e => k b ob (up b (by rcases q with rfl | rfl | rfl <;> omega)) e) x.cells
    lst := x.lst.at fun ob e => k _ ob (up _ (by have := nlt x.lll; omega)) e
    lv := fun j v e => LeastV.dep h h' (fun b ob q e => k b ob (up b (by have := nlt q; omega)) e) (x.lv j v e)
    g := GSt.dep h h' (fun b ob q e => k b ob (up b (by have := nle (x.lo b q); omega)) e) x.g
    ar := Arcs.dep h h' k x.ar }
theorem Keep.hide {as : List Addr} {h : Heap} : Keep (hideAll h as) h := fun _ _ e => of_hideAll _ e
def isN : Value → Bool
  | .none => true
  | _ => false
theorem LwF.any (x : LwF prog w hG o n tn y ro rd ks ra ll vs L m0 tl h) : vs.toArray.any isN = (List.range n).any fun j => (leastB ra ks n ⟨[(j : Int)], fun _ => 0⟩).isNone := by
  have at_ : ∀ j (hj : j < vs.length), isN vs[j] = (leastB ra ks n ⟨[(j : Int)], fun _ => 0⟩).isNone := fun j hj => by
    have r := x.lv j vs[j] (List.getElem?_eq_getElem hj)
    unfold LeastV at r
    revert r
    cases leastB ra ks n ⟨[(j : Int)], fun _ => 0⟩ with
    | none => intro r; rw [r]; rfl
    | some B => rintro ⟨a, e, _⟩; rw [e]; rfl
  rw [← Array.any_toList, Bool.eq_iff_iff, List.any_eq_true, List.any_eq_true]
  constructor
  · rintro ⟨v, hv, e⟩
    obtain ⟨j, hj, rfl⟩ := List.getElem_of_mem hv
    exact ⟨j, List.mem_range.mpr (x.len ▸ hj), by rw [← at_ j hj]; exact e⟩
  · rintro ⟨j, hj, e⟩
    have hj' : j < vs.length := by rw [x.len]; exact List.mem_range.mp hj
    exact ⟨vs[j], List.getElem_mem hj', by rw [at_ j hj']; exact e⟩
theorem LwF.eqs {A : Around} (hu : A.units < cLine) (x : LwF prog w hG o n tn y ro rd ks ra ll vs L m0 tl h) : ∀ v ∈ vs.toArray, SeqAt.EqAt A (Mine.mk c h t) v .none (isN v) := fun v hv => by
  obtain ⟨j, hj, rfl⟩ := List.getElem_of_mem (List.mem_toArray.mp hv)
  have r := x.lv j vs[j] (List.getElem?_eq_getElem hj)
  unfold LeastV at r
  revert r
  cases leastB ra ks n ⟨[(j : Int)], fun _ => 0⟩ with
  | none => intro r; rw [r]; exact SeqAt.EqAt.same .none
  | some B =>
    rintro ⟨a, e, _, _, kvs, hd, _⟩
    rw [e]
    exact eqAt_dict_none (s := Mine.mk c h t) hd hu
/-- None in least -/
theorem none_in {A : Around} {E Q : Value → Shared → Prop} (hu : A.units + 1 < cLine) (x : LwF prog w hG o n tn y ro rd ks ra ll vs L m0 tl h) (k : Q (.bool ((List.range n).any fun j => (leastB ra ks n ⟨[(j : Int)], fun _ => 0⟩).isNone)) (mk c h t)) :
    wpAny (model prog w) A (compareOp .In .none (.ref ll)) Q E (mk c h t) :=
  SeqAt.in_listAt (s := mk c h t) isN x.lst.isList (x.eqs (A := A.in1) (by show A.units + 1 < cLine; exact hu)) (by rw [x.any]; exact k)
theorem none_notin {A : Around} {E Q : Value → Shared → Prop} (hu : A.units + 1 < cLine) (x : LwF prog w hG o n tn y ro rd ks ra ll vs L m0 tl h) (k : Q (.bool (!(List.range n).any fun j => (leastB ra ks n ⟨[(j : Int)], fun _ => 0⟩).isNone)) (mk c h t)) :
    wpAny (model prog w) A (compareOp .NotIn .none (.ref ll)) Q E (mk c h t) :=
  SeqAt.notIn_listAt (s := mk c h t) isN x.lst.isList (x.eqs (A := A.in1) (by show A.units + 1 < cLine; exact hu)) (by rw [x.any]; exact k)

/-- how the heap ends: all but the tables and the frame stands, the tables grew -/
structure EndK (L Pf Pt : Addr) (p0 ps pt : Array Value) (h h' : Heap) : Prop where
  old : ∀ b o, b ∉ [L, 72, Pf, Pt] → h.get? b = some o → h'.get? b = some o
  t72 : ∃ more, h'.get? 72 = some (tabObj (p0 ++ more))
  tPf : ∃ more, h'.get? Pf = some (tabObj (ps ++ more))
  tPt : ∃ more, h'.get? Pt = some (tabObj (pt ++ more))
  fr : ∃ o, h'.get? L = some o
end
end Mine
end
section
open PySem PySem.W PyProof.Rows PySem.Calls
set_option maxRecDepth 100000
namespace Mine
local macro_rules | `(tactic| walk_at "mem") => `(tactic| with_reducible (first | exact List.mem_cons_self | (refine List.mem_cons_of_mem _ ?_; walk_at "mem")))
section
variable {prog : Program} {w : World} {A : Around} {c : Cst} {hB hG h : Heap} {t : Nat} {L f D rd ll Pf Pt : Addr} {m0 : Nat} {cd : Value} {K : Frag} {y : GD} {ro : Addr → Nat × Int} {o : Bool} {n : Nat} {tn : Tok} {ks : List (Int × Int)} {ra : Int × Int → Int} {vs : List Value} {p0 ps pt : Array Value}
variable {sc be to gd du pr we pa st sg vo uo dr : Option Value} {Q : Flow → Shared → Prop}
theorem Keep.hides {as : List Addr} {a b : Heap} (k : Keep a b) : Keep (hideAll a as) (hideAll b as) := fun p ob e => by
  have n : p ∉ as := fun m => by rw [hideAll_none as m] at e; cases e
  exact hideAll_get as (k p ob (of_hideAll as e)) n
theorem hide_more {as : List Addr} {a : Addr} {h : Heap} : Keep (hideAll h (a :: as)) (hideAll h as) := fun p ob e => by
  have n : p ∉ a :: as := fun m => by rw [hideAll_none _ m] at e; cases e
  exact hideAll_get as (of_hideAll _ e) fun m => n (.tail _ m)
/-- the graph, with the tables hidden -/
theorem lw_gr {tl : List Addr} (B2 : LB (hideAll hB tl) K) (k : Keep (hideAll hB tl) (hideAll h tl)) (x : LwF prog w hG o n tn y ro rd ks ra ll vs L m0 tl h) (ed : EdInv o n y ks ra n 0) (hn5 : n ≤ 5) : Gr prog w (hideAll h tl) y.g y.nd y.adj (rng n) y.nbr y.wt y.inn := by
  have lm := nlt x.lm
  have xg : GSt prog w hG (clsA o) o y ro (hideAll h tl) := GSt.dep h _ (fun b ob q e => hideAll_get tl e fun m => by
    have h1 := nle (x.lo b q)
    have h2 := nlt (x.tlt b m)
    omega) x.g
  obtain ⟨cdi, fi⟩ := B2.it
  have := gr_of (C := clsA o) (fs := fsOf o) (B2.bs.G.keep k) (B2.X.keeps k) (B2.O o) xg (f := 455) (by simp [fsOf]) (fi.keep k) (ed.Na.trans ed.Nn.symm) (ed.Nn ▸ rng_nodup n) (by rw [ed.Nn, rng_len]; omega) (fun u hu => ⟨fun v hv => ?_, ?_⟩)
  · rw [ed.Nn] at this; exact this
  · have hu' : u ∈ rng n := ed.Nn ▸ hu
    have hm := (ed.e1 u v).mpr ⟨hu', hv⟩
    rw [ed.Nn]; exact ed.e3 _ hm
  · have := ed.l1 u; omega
end
end Mine
end
section
open PySem PySem.W PyProof.Rows PySem.Calls
set_option maxRecDepth 100000
namespace Mine
local macro_rules | `(tactic| walk_at "mem") => `(tactic| with_reducible (first | exact List.mem_cons_self | (refine List.mem_cons_of_mem _ ?_; walk_at "mem")))
section
variable {prog : Program} {w : World} {A : Around} {c : Cst} {hB hG h : Heap} {t : Nat} {L f D rd ll Pf Pt : Addr} {m0 : Nat} {cd : Value} {K : Frag} {y : GD} {ro : Addr → Nat × Int} {o : Bool} {n : Nat} {tn : Tok} {ks : List (Int × Int)} {ra : Int × Int → Int} {vs : List Value} {p0 ps pt : Array Value}
variable {sc be to gd du pr we pa st sg vo uo dr : Option Value} {Q : Flow → Shared → Prop}
abbrev FwSafe (N : List Int) (nbr : Int → List Int) (W : Int → Int → Int) : Prop := ∀ pw w rw, N = pw ++ w :: rw → ∀ pu u ru, N = pu ++ u :: ru → ∀ p v r, N = p ++ v :: r → ((Tbl.runU N (Tbl.runW N (foldT nbr W N) pw) w pu).runV w u p).Safe (prkOf N nbr) w u v
abbrev FwBad (N : List Int) (nbr : Int → List Int) (W : Int → Int → Int) : Prop := (∃ u, NegLoop N nbr W u) ∨ ((∀ u, ¬ NegLoop N nbr W u) ∧ (N.any fun u => ltE ((fwRun N nbr W).D u u) (some 0)) = true)
theorem lw_fw (stk : A.frames = some [lwEnv cd L f]) (hA : A.handled = none) (hroom : A.depth + 10 < recursionLimit) (hu : A.units + 10 < cLine)
    (B2 : LB (hideAll hB [72, Pf, Pt]) K) (T : Tab72 p0 h) (ct : CodeT h 95 Pf ps) (hnf : codeAmong (genPos (SM 11 2)) ps.toList = none) (hPf2 : Pf ≠ 72) (hPf3 : Pf ≠ 76) (ePt : h.get? Pt = some (tabObj pt)) (hPt2 : Pt ≠ 72) (hPtf : Pt ≠ Pf)
    (x : LwF prog w hG o n tn y ro rd ks ra ll vs L m0 [72, Pf, Pt] h) (ed : EdInv o n y ks ra n 0) (hn5 : n ≤ 5)
    (F : Fn (lwEnv cd L f) hB (fun _ => True) h (lwl sc dr (some (.bool o)) (some (.ref y.g)) vo uo sg be to gd du pr we pa st)) (hgb : AllBare c.g)
    (safe : (∀ u, ¬ NegLoop (rng n) y.nbr y.wt u) → FwSafe (rng n) y.nbr y.wt)
    (M2 : FwBad (rng n) y.nbr y.wt → ((List.range n).any fun j => (leastB ra ks n ⟨[(j : Int)], fun _ => 0⟩).isNone) = true)
    (hR : ∀ h' t' g', AllBare g' → EndK L Pf Pt p0 ps pt h h' → Q (.ret (.bool true)) (mk { c with g := g' } h' t'))
    (hQ : (∀ u, ¬ NegLoop (rng n) y.nbr y.wt u) → ((rng n).any fun u => ltE ((fwRun (rng n) y.nbr y.wt).D u u) (some 0)) = false → ∀ h' t' g' yy, AllBare g' → Res prog w (rng n) (prkOf (rng n) y.nbr) (fwRun (rng n) y.nbr y.wt) h.objs.size yy h' →
      KO (fun b => b = L ∨ b = 72 ∨ b = Pf) h h' → Tab72 p0 h' → (∃ more, h'.get? Pf = some (tabObj (ps ++ more))) →
      Fn (lwEnv cd L f) (hideAll hB [72, Pf, Pt]) (fun _ => True) h' (lwl sc dr (some (.bool o)) (some (.ref y.g)) vo uo sg (some (.ref yy.pd)) (some (.ref yy.dd)) gd du pr we pa st) → Q .next (mk { c with g := g' } h' t')) :
    wpAny (model prog w) A (exec (at' (dBody (S 29)) 8) (lwEnv cd L f)) Q NE (mk c h t) := by
  have kk : Keep (hideAll hB [72, Pf, Pt]) (hideAll h [72, Pf, Pt]) := F.keep.hides
  have G := lw_gr B2 kk x ed hn5
  have kB : Keep (hideAll h [72, Pf, Pt]) h := Keep.hide
  have szB : (hideAll h [72, Pf, Pt]).objs.size = h.objs.size := hideAll_size _ _
  have bs : Bs (hideAll h [72, Pf, Pt]) := ⟨B2.bs.G.keep kk, B2.bs.U.keep kk, B2.bs.f77.keep kk, B2.bs.f82.keep kk⟩
  obtain ⟨m, hns, _⟩ := F.loc.ns
  have hLb : (hideAll h (L :: [72, Pf, Pt])).get? L = none := hideAll_none _ (.head _)
  have kbb : Keep (hideAll h (L :: [72, Pf, Pt])) (hideAll h [72, Pf, Pt]) := hide_more
  have KB : Below A (hideAll h (L :: [72, Pf, Pt])) [lwEnv cd L f] h := ⟨stk, fun b ob e => of_hideAll _ e, Heap.FunFrames.cons (L := L) (fun z => nomatch (show ScopeKind.function = ScopeKind.module from z)) rfl hns hLb trivial⟩
  have ⟨o96, pm96, h96, hd96, _⟩ := B2.f96.keep (kk.trans kB)
  have Gh := B2.bs.G.keep (kk.trans kB)
  have n72 : (hideAll h [72, Pf, Pt]).get? 72 = none := hideAll_none _ (.head _)
  have nPf : (hideAll h [72, Pf, Pt]).get? Pf = none := hideAll_none _ (by simp)
  obtain ⟨e89o, e89t, e89n, e89, d89⟩ := B2.d89
  have M2' := M2
  refine wpAny_Try_except (wpAny_execs_cons (Assign_Tuple (Call_ (gname Gh (by walk_at "mem") (callWith_def hd96 (args_cons (nm F (by walk_at "mem") (args_nil ⟨h96, ?_⟩))))))))
  refine fw_spec (p0 := p0) (ps := ps) hA (by omega) bs G kB (Nat.le_of_eq szB) T (B2.f96.keep kk) ⟨e89o, e89t, e89n, kk _ _ e89, d89⟩ n72 nPf hPf2 hPf3 ct hnf KB kbb hgb safe (fun hbad h1 t1 g1 e a0 B' hg1 fl kb' TB PB old' up => ?_) (fun hneg hany h1 t1 g1 yy tu hg1 res ko1 T1 P1 htup => ?_)
  · have hPtL : @LT.lt Nat _ Pt L := x.tlt Pt (by simp)
    have kBase : Keep (hideAll hB [72, Pf, Pt]) (hideAll h (L :: [72, Pf, Pt])) := fun b ob e => by
      have nb : b ∉ [72, Pf, Pt] := fun m => by rw [hideAll_none _ m] at e; cases e
      have eB := of_hideAll _ e
      exact hideAll_get _ (F.keep b ob eB) fun m => (List.mem_cons.mp m).elim (fun z => Nat.lt_irrefl _ (Nat.lt_of_lt_of_le (z ▸ Heap.lt_size eB) F.above)) nb
    refine wpAny_looks_onW (s := mk { c with g := g1 } h1 t1) stk rfl fl fun h4 hheld4 up4 => ?_
    refine wpAny_landsW (s := mk { c with g := g1 } h4 t1) hheld4 fun h5 hheld up5 => ?_
    have k5 : Keep B' h5 := hheld.1
    have G5 : Gl h5 := B2.bs.G.keep ((kBase.trans kb').trans k5)
    have U5 : Unb h5 := B2.bs.U.keep ((kBase.trans kb').trans k5)
    obtain ⟨ob, hob, hobc⟩ := hheld.there
    obtain ⟨mg, hnsG, O⟩ := U5
    obtain ⟨tlx, N, nm', q, bs', hdct, sn, sub, ab, col, dd, k0, k1, k2, k3, k5', mN, hC, hN, hni, TL⟩ := O.obj
    refine wpAny_handleBy_cons (codeAny_handlers_test (gname (c := { c with g := g1 }) G5 (by walk_at "mem") ?_)) (by intro q; cases q)
    refine wpAny_excMatches_sub_self hC hob hobc (TL.hasType PySem.F.excBase_Exception.hasBase) (codeAny_handlers_suite ?_)
    refine lands_againW (s := mk { c with g := g1 } h5 t1) hheld fun h6 fl6 up6 => ?_
    have k6 : Keep B' h6 := fl6.1
    have o6 : ∀ b o, b ∉ L :: [72, Pf, Pt] → h.get? b = some o → h6.get? b = some o := fun b ob nb e => k6 _ _ (kb' _ _ (hideAll_get _ e nb))
    have x6 := LwF.dep h h6 o6 x
    refine wpAny_noRaise (wpAny_execs_cons (wpAny_Return_some (wpAny_Compare1 (wpAny_Constant_none (nmc (c := { c with g := g1 }) (t := t1) x6.cells.2.2 (none_in (by show A.units + 1 < cLine; omega) x6 ?_))))))
    rw [M2 hbad]
    refine hR h6 t1 g1 hg1 ⟨o6, ?_, ?_, ⟨#[], ?_⟩, ?_⟩
    · obtain ⟨more, e⟩ := TB.is2; exact ⟨more, k6 _ _ e⟩
    · obtain ⟨more, e⟩ := PB; exact ⟨more, k6 _ _ e⟩
    · rw [Array.append_empty]
      exact k6 _ _ (old' Pt _ hPt2 hPtf (fun m => by
        have : Pt ∈ [L] := m
        exact absurd (List.mem_singleton.mp this) (Nat.ne_of_lt hPtL)) ePt)
    · exact (frs_at fl6.2.2.1 L (.head _)).2.imp fun _ z => z.1
  · obtain ⟨ntu, htup⟩ := htup
    have h72L : @LT.lt Nat _ 72 L := x.tlt 72 (by simp)
    have hPfL : @LT.lt Nat _ Pf L := x.tlt Pf (by simp)
    have F1 : Fn (lwEnv cd L f) (hideAll hB [72, Pf, Pt]) (fun _ => True) h1 (lwl sc dr (some (.bool o)) (some (.ref y.g)) vo uo sg be to gd du pr we pa st) :=
      ⟨F.loc.keep fun ob e => ko1 L ob (fun z => by rcases z with z | z; exact absurd z (Nat.ne_of_gt h72L); exact absurd z (Nat.ne_of_gt hPfL)) e,
        fun b ob e => ko1 b ob (fun z => by
          have nb : b ∉ [72, Pf, Pt] := fun m => by rw [hideAll_none _ m] at e; cases e
          rcases z with z | z
          · exact nb (z ▸ by simp)
          · exact nb (z ▸ by simp)) (F.keep _ _ (of_hideAll _ e)), by rw [hideAll_size]; exact F.above, trivial, Stb.true⟩
    refine wpAny_noRaise (assign2' (c := { c with g := g1 }) (t := t1) hA ⟨_, htup, rfl, ntu, rfl⟩ fun h2 k2 => ?_)
    refine st7 (F1.ext k2) fun h3 t3 F3 sb3 => st8 F3 fun h4 t4 F4 sb4 => wpAny_execs_nil (wpAny_execs_nil ?_)
    have ne34 : ∀ b, b ≠ L → ∀ ob, h2.get? b = some ob → h4.get? b = some ob := fun b nb ob e => sb4.extBut b ob nb (sb3.extBut b ob nb e)
    have rlow : ∀ b, (b = yy.dd ∨ b = yy.pd ∨ yy.row b) → b ≠ L := fun b q => Nat.ne_of_gt (Nat.lt_of_lt_of_le F.loc.lt (res.low b q))
    refine hQ hneg hany h4 t4 g1 yy hg1 ⟨res.hN, res.prk, res.low, Mats.dep h1 h4 (fun b ob q e => ne34 b (rlow b q) ob (k2 b ob e)) res.mats⟩ (fun b ob nb e => ne34 b (fun z => nb (.inl z)) ob (k2 b ob (ko1 b ob (fun z => nb (.inr z)) e))) ?_ ?_ F4
    · have Tb := T1.at (h' := h2) fun b ob _ e => k2 b ob e
      obtain ⟨_, hn3, _⟩ := (F1.ext k2).loc.ns
      exact Tb.but hn3 (fun b ob nb e => ne34 b nb ob e)
    · obtain ⟨more, e⟩ := P1
      exact ⟨more, ne34 Pf (Nat.ne_of_lt hPfL) _ (k2 _ _ e)⟩
end
end Mine
end
section
open PySem PySem.W PyProof.Rows PySem.Calls
set_option maxRecDepth 100000
namespace Mine
local macro_rules | `(tactic| walk_at "mem") => `(tactic| with_reducible (first | exact List.mem_cons_self | (refine List.mem_cons_of_mem _ ?_; walk_at "mem")))
section
variable {prog : Program} {w : World} {A : Around} {env : Env} {c : Cst} {h : Heap} {t : Nat} {s : Shared}
theorem Ns.to {h h' : Heap} {a : Addr} (x : ∃ m, h.Ns a m) (k : ∀ o, h.get? a = some o → h'.get? a = some o) : ∃ m, h'.Ns a m := let ⟨m, n⟩ := x; ⟨m, n.at' k⟩
theorem Cell.to {h h' : Heap} {a : Addr} {v : Option Value} (x : h.IsCell a v) (k : ∀ o, h.get? a = some o → h'.get? a = some o) : h'.IsCell a v := let ⟨o, e, d⟩ := x; ⟨o, k o e, d⟩
/-- a dict comprehension whose name is a cell -/
theorem dict_compC {kx vx iter : Expr} {x : Str} {px pos : Pos} {scope : Scope} {cl : List (Str × Addr)} {Q : Value → Shared → Prop}
    (h : wpAny (model prog w) A (eval iter env) (fun xv s₁ => wpAny (model prog w) A (pyIter xv) (fun it s₂ => ∃ I fp n P St h2 t2, ∃ Pi : Nat → Heap → Prop, it = .ref I ∧ s₂ = mk c h2 t2 ∧ Walks prog w A I fp [I] n P St ∧ St 0 h2 ∧ (∀ b ∈ fp, b < h2.objs.size) ∧ I < h2.objs.size ∧
      (∀ h', Keep (h2.push emptyDict) h' → Pi 0 h') ∧ (∀ i, Dep (fun b => b ≠ I ∧ b ≠ h2.objs.size + 1 ∧ b ≠ h2.objs.size + 2) (Pi i)) ∧
      (∀ i v h t, i < n → P i v → h2.objs.size + 2 < h.objs.size → h.IsCell (h2.objs.size + 2) (some v) → Pi i h →
        EltD prog w A kx vx (compEnvC scope ((x, h2.objs.size + 2) :: cl) (h2.objs.size + 1) env) h2.objs.size (mk c h t) (fun s' => ∃ h' t', s' = mk c h' t' ∧ KO (fun b => b = h2.objs.size) h h' ∧ Pi (i + 1) h')) ∧
      (∀ h t, Pi n h → Q (.ref h2.objs.size) (mk c h t))) NE s₁) NE s)
    (hce : newFunctionEnv scope env.globals cl [] env.qual none .none (some env) = (alloc { cls := .type "dict", data := .dict #[] } >>= fun C => alloc { cls := .type "cell", data := .cell none } >>= fun q => pure { scope := scope, locals := C, globals := env.globals, cells := (x, q) :: cl, qual := env.qual, func := none, code := env.code, frame := env.frame, builtins := env.builtins }) := by rfl)
    (hclos : closureFor scope env = pure cl := by rfl) (hkind : scope.kind = .function := by rfl) (hnames : (scope.names.all fun y => !(y.2 == .local) || scope.names.lookup y.1 == some .local) = true := by rfl)
    (hx : (compEnvC scope [] 0 env).kindOf x = some .cell := by rfl) (hs : ∀ x, foldedSetIterable iter env x = pure x := by intro _; rfl) :
    wpAny (model prog w) A (comprehension (.DictComp kx vx [⟨.Name x px, iter, [], 0⟩] scope pos) scope env (firstIterPos [⟨.Name x px, iter, [], 0⟩] pos) newDict (firstAsync [⟨.Name x px, iter, [], 0⟩]) (firstIter [⟨.Name x px, iter, [], 0⟩] env) none) Q NE s := by
  refine wpAny_comprehension_free rfl hs hclos hkind (fun y hy hl => ?_) (wpAny_mono h (fun xv s₁ h₁ => wpAny_mono h₁ (fun it s₂ h₂ => ?_) fun _ _ e => e) fun _ _ e => e)
  · have := List.all_eq_true.mp hnames y hy
    rw [hl] at this; simpa using this
  obtain ⟨I, fp, n, P, St, h2, t2, Pi, rfl, rfl, W, st0, hfp, hI2, p0, dep, turn, fin⟩ := h₂
  simp only [newDict, newObj]
  refine wpAny_bind (wpAny_alloc (wpAny_pure ?_))
  rw [hce]
  have s3 : (h2.push emptyDict).objs.size = h2.objs.size + 1 := Heap.size_push ..
  refine wpAny_bind (wpAny_alloc (wpAny_bind (wpAny_alloc (wpAny_pure ?_))))
  generalize hh3 : h2.push emptyDict = h3 at p0 s3
  have k3 : Keep h2 h3 := hh3 ▸ Keep.push _ _
  generalize hh4 : (h3.push { cls := .type "dict", data := .dict #[] }) = h4
  have k4 : Keep h3 h4 := hh4 ▸ Keep.push _ _
  have s4 : h4.objs.size = h2.objs.size + 2 := by rw [← hh4, Heap.size_push, s3]
  generalize hh5 : (h4.push { cls := .type "cell", data := .cell none }) = h5
  have k5 : Keep h4 h5 := hh5 ▸ Keep.push _ _
  have nsC : ∃ m, h5.Ns (h2.objs.size + 1) m := by
    have : (h3.push { cls := .type "dict", data := .dict #[] }).Ns h3.objs.size _ := Heap.Ns.new h3 (.type "dict")
    rw [s3, hh4] at this
    exact ⟨_, this.keeps k5⟩
  have cq : h5.IsCell (h2.objs.size + 2) none := by
    refine ⟨{ cls := .type "cell", data := .cell none }, ?_, rfl⟩
    rw [← s4, ← hh5]; exact Heap.get?_push_size _ rfl
  have st5 : St 0 h5 := W.frame 0 h2 h5 st0 fun b hb o q => k5 _ _ (k4 _ _ (k3 _ _ q))
  have pi5 : Pi 0 h5 := p0 h5 (k4.trans k5)
  have hIC : I ≠ h2.objs.size + 1 := Nat.ne_of_lt (Nat.lt_succ_of_lt hI2)
  have hIq : I ≠ h2.objs.size + 2 := Nat.ne_of_lt (Nat.lt_succ_of_lt (Nat.lt_succ_of_lt hI2))
  have fpn : ∀ b ∈ fp, b ≠ h2.objs.size ∧ b ≠ h2.objs.size + 2 := fun b hb => ⟨Nat.ne_of_lt (hfp b hb), Nat.ne_of_lt (Nat.lt_succ_of_lt (Nat.lt_succ_of_lt (hfp b hb)))⟩
  show codeAny (model prog w) A (.compStart _ 0 (.ref I) (.ref h2.objs.size) { scope := relabel scope env, locals := h3.objs.size, globals := env.globals, cells := (x, h4.objs.size) :: cl, qual := env.qual, func := none, code := env.code, frame := env.frame, builtins := env.builtins }) (compPost (model prog w) A NE none Q (.ref h2.objs.size) h3.objs.size) (mk c h5 t2)
  rw [s3, s4]
  have LP : codeAny (model prog w) A (.compLoop (.DictComp kx vx [⟨.Name x px, iter, [], 0⟩] scope pos) 0 (.ref I) (.ref h2.objs.size) (compEnvC scope ((x, h2.objs.size + 2) :: cl) (h2.objs.size + 1) env)) (compPost (model prog w) A NE none Q (.ref h2.objs.size) (h2.objs.size + 1)) (mk c h5 t2) := by
    refine codeAny_compLoop_testsD (fun k s => ∃ i h t ov, s = mk c h t ∧ k = n - i ∧ i ≤ n ∧ St i h ∧ (∃ m, h.Ns (h2.objs.size + 1) m) ∧ h.IsCell (h2.objs.size + 2) ov ∧ Pi i h) ?_ n ⟨0, h5, t2, none, rfl, rfl, Nat.zero_le _, st5, nsC, cq, pi5⟩
    rintro k s ⟨i, h, t, ov, rfl, rfl, hle, st, ns, cell, pi⟩
    rcases Nat.lt_or_ge i n with hin | hge
    · refine wpAny_noRaise (walks_item (c := c) (h := h) (t := t) W hin st fun v h' tk hp st' hk => ?_)
      have e1 : ∀ b o, b ≠ I → h.get? b = some o → h'.get? b = some o := fun b o hb q => hk b o (by simpa using hb) q
      have cell1 := Cell.to cell (fun o e => e1 _ o hIq.symm e)
      refine wpAny_noRaise (wpAny_assign_Name (wpAny_storeName_cell (s := mk c h' tk) hkind hx (by show List.lookup x ((x, h2.objs.size + 2) :: cl) = _; simp [List.lookup]) cell1 fun h'' c'' sb => ?_))
      refine wpAny_pure ?_
      simp only [if_true]
      have e2 : ∀ b o, b ≠ h2.objs.size + 2 → h'.get? b = some o → h''.get? b = some o := sb.extBut
      have pi2 : Pi i h'' := dep i h h'' (fun b o z e => e2 b o z.2.2 (e1 b o z.1 e)) pi
      refine wpAny_noRaise (wpAny_mono (turn i v h'' tk hin hp c''.lt c'' pi2) (fun kv s₄ h₄ => wpAny_noRaise (wpAny_mono h₄ (fun vv s₅ h₅ => wpAny_noRaise (wpAny_mono h₅ (fun _ s₆ h₆ => ?_) fun _ _ e => e)) fun _ _ e => e)) fun _ _ e => e)
      obtain ⟨h3', t3, rfl, ko, pi3⟩ := h₆
      refine ⟨n - (i + 1), by omega, i + 1, h3', t3, some v, rfl, rfl, hin, W.frame _ _ _ st' fun b hb o q => ko b o (fpn b hb).1 (e2 b o (fpn b hb).2 q), ?_, Cell.to c'' (fun o e => ko _ o (Nat.ne_of_gt (by omega)) e), pi3⟩
      exact Ns.to ns fun o e => ko _ o (Nat.ne_of_gt (by omega)) (e2 _ o (Nat.ne_of_lt (by omega)) (e1 _ o hIC.symm e))
    · obtain rfl : i = n := Nat.le_antisymm hle hge
      refine wpAny_noRaise (walks_done (c := c) (h := h) (t := t) W st fun h' tk hk => ?_)
      have e1 : ∀ b o, b ≠ I → h.get? b = some o → h'.get? b = some o := fun b o hb q => hk b o (by simpa using hb) q
      obtain ⟨m, hns'⟩ := Ns.to ns fun o e => e1 _ o hIC.symm e
      refine ⟨m, hns', fun g hg => fin g tk (dep i h g (fun b o z e => hg.extBut b o z.2.1 (e1 b o z.1 e)) pi)⟩
  exact codeAny_compStart_dict LP (W.self 0 _ _ _ st5 LP)
end
end Mine
end
section
open PySem PySem.W PyProof.Rows PySem.Calls
set_option maxRecDepth 100000
namespace Mine
local macro_rules | `(tactic| walk_at "mem") => `(tactic| with_reducible (first | exact List.mem_cons_self | (refine List.mem_cons_of_mem _ ?_; walk_at "mem")))
def dueF (ks : List (Int × Int)) (ra : Int × Int → Int) (n : Nat) (u v : Int) : Option Int := match leastB ra ks n ⟨[u], fun _ => 0⟩ with
  | some B => if v ∈ B.ks then some (B.f v) else none
  | none => none
section
variable {prog : Program} {w : World} {A : Around} {c : Cst} {hB hG h : Heap} {t : Nat} {L f D rd ll Pf Pt : Addr} {m0 : Nat} {cd : Value} {K : Frag} {y : GD} {ro : Addr → Nat × Int} {o : Bool} {n : Nat} {tn : Tok} {ks : List (Int × Int)} {ra : Int × Int → Int} {vs : List Value} {tl : List Addr}
variable {sc be to gd du pr we pa st sg vo uo dr gr : Option Value} {Q : Flow → Shared → Prop}
theorem LwF.at (x : LwF prog w hG o n tn y ro rd ks ra ll vs L m0 tl h) {u : Nat} (hu : u < n) {Bf : BF} (e : leastB ra ks n ⟨[(u : Int)], fun _ => 0⟩ = some Bf) : ∃ a, vs[u]? = some (.ref a) ∧ L + 3 < a ∧ Row prog w RI h a Bf.ks Bf.f := by
  have hu' : u < vs.length := by rw [x.len]; exact hu
  have r := x.lv u vs[u] (List.getElem?_eq_getElem hu')
  unfold LeastV at r
  rw [e] at r
  obtain ⟨a, q1, q2, q3⟩ := r
  exact ⟨a, by rw [List.getElem?_eq_getElem hu', q1], q2, q3⟩
theorem LwF.keep {h' : Heap} (x : LwF prog w hG o n tn y ro rd ks ra ll vs L m0 tl h) (k : Keep h h') : LwF prog w hG o n tn y ro rd ks ra ll vs L m0 tl h' := LwF.dep h h' (fun b ob _ e => k b ob e) x
/-- good = None not in least -/
theorem lw_S9 (hu : A.units + 1 < cLine) (x : LwF prog w hG o n tn y ro rd ks ra ll vs L m0 tl h) (hs : ((List.range n).any fun j => (leastB ra ks n ⟨[(j : Int)], fun _ => 0⟩).isNone) = false)
    (F : Fn (lwEnv cd L f) hB (fun _ => True) h (lwl sc dr (some (.bool o)) gr vo uo sg be to gd du pr we pa st))
    (k : ∀ h' t', KO (fun b => b = L) h h' → Fn (lwEnv cd L f) hB (fun _ => True) h' (lwl sc dr (some (.bool o)) gr vo uo sg be to (some (.bool true)) du pr we pa st) → Q .next (mk c h' t')) :
    wpAny (model prog w) A (exec (at' (dBody (S 29)) 9) (lwEnv cd L f)) Q NE (mk c h t) := by
  refine wpAny_Assign_Name (wpAny_Compare1 (wpAny_Constant_none (nmc x.cells.2.2 (none_notin hu x ?_))))
  rw [hs]
  exact st9 F fun h2 t2 F2 sb2 => k h2 t2 ((KO.refl h).but sb2 rfl) F2
abbrev oC (L q : Addr) : List (Str × Addr) := [("u", q), ("size", L + 1), ("least", L + 3)]
/-- the comprehension due -/
theorem lw_S10 (B : LB hB K) (hA : A.handled = none) (x : LwF prog w hG o n tn y ro rd ks ra ll vs L m0 tl h) (hn5 : n ≤ 5) (hs : ∀ j, j < n → ∃ Bf, leastB ra ks n ⟨[(j : Int)], fun _ => 0⟩ = some Bf)
    (F : Fn (lwEnv cd L f) hB (fun _ => True) h (lwl sc dr (some (.bool o)) gr vo uo sg be to (some (.bool true)) du pr we pa st))
    (k : ∀ h' t' ud da, h.objs.size ≤ ud → Row prog w RR h' ud (rng n) da → (∀ u ∈ rng n, h.objs.size ≤ da u ∧ Row prog w RE h' (da u) (rng n) (dueF ks ra n u)) → KO (fun b => b = L) h h' → Fn (lwEnv cd L f) hB (fun _ => True) h' (lwl sc dr (some (.bool o)) gr vo uo sg be to (some (.bool true)) (some (.ref ud)) pr we pa st) → Q .next (mk c h' t')) :
    wpAny (model prog w) A (exec (at' (dBody (S 29)) 10) (lwEnv cd L f)) Q NE (mk c h t) := by
  have zL := nlt (show L < h.objs.size from F.loc.lt)
  have hBL : @LE.le Nat _ hB.objs.size L := F.above
  have G0 := B.bs.G.keep F.keep
  have lowh : ∀ a : Addr, @LE.le Nat _ hB.objs.size a → (a == sysModules) = false := fun a ha => (B.gb o).low a ha
  refine wpAny_Assign_Name (wpAny_IfExp ?_)
  refine isTrue_plain ?_ (by with_unfolding_all rfl)
  refine nm F (v := .bool true) (by walk_at "mem") (wpAny_truthy_bool ?_)
  rw [if_pos rfl, arm_eval_DictComp]
  refine dict_compC (c := c) (cl := [("size", L + 1), ("least", L + 3)]) (Call_ (bname G0 (by walk_at "mem") boot_range (Pv.callWith_type1 (args_cons (nmc x.cells.1 (args_nil (call_range_1 (s := mk c h t) (mk_toks (n := 2) ?_))))))))
  generalize hh1 : h.push { cls := .type "range", data := .fields #[.int 0 (t + 1), .int n tn, .int 1 (t + 1 + 1)] } = h1
  have hk1 : Keep h h1 := hh1 ▸ Keep.push _ _
  have s1 : h1.objs.size = h.objs.size + 1 := hh1 ▸ Heap.size_push ..
  have R1 : IsRange h1 h.objs.size 0 n 1 (t + 1) tn (t + 1 + 1) := hh1 ▸ IsRange.new ..
  refine range_walk (c := c) hA R1 (by omega) (by omega) (by omega) fun h2 P St k2 s2 W st0 hP => ?_
  have kh2 : Keep h h2 := hk1.trans k2
  have hn0 : ((n : Int) - 0).toNat = n := by omega
  rw [hn0] at W
  have G2 := G0.keep kh2
  refine ⟨h1.objs.size, [h1.objs.size], n, P, St, h2, _, fun i h' => Keep h h' ∧ ∃ lo : Int → Addr, Row prog w RR h' h2.objs.size (rng i) lo ∧ ∀ j ∈ rng i, h2.objs.size + 2 < lo j ∧ Row prog w RE h' (lo j) (rng n) (dueF ks ra n j), rfl, rfl, W, st0, fun b hb => ?_, ?_, fun h' k' => ?_, fun i => ?_, fun i v h3 t3 hi hPi hsz cu pi => ?_, fun h3 t3 pi => ?_⟩
  · rw [List.mem_singleton.mp hb]; show @LT.lt Nat _ h1.objs.size h2.objs.size; omega
  · show @LT.lt Nat _ h1.objs.size h2.objs.size; omega
  · refine ⟨(kh2.trans (Keep.push _ _)).trans k', fun _ => 0, RowK.none (k' _ _ (Heap.get?_push_size _ rfl)) (lowh _ (by omega)), fun j hj => by simp [rng] at hj⟩
  · refine .and (fun a b k' kk p ob q => k' p ob ⟨Nat.ne_of_lt (by have := nlt (Heap.lt_size q); show @LT.lt Nat _ p h1.objs.size; omega), Nat.ne_of_lt (by have := nlt (Heap.lt_size q); show @LT.lt Nat _ p _; omega), Nat.ne_of_lt (by have := nlt (Heap.lt_size q); show @LT.lt Nat _ p _; omega)⟩ (kk p ob q)) ?_
    refine Dep.ex fun lo => .and (RowK.dep ⟨Nat.ne_of_gt (by omega), Nat.ne_of_lt (by omega), Nat.ne_of_lt (by omega)⟩) (Dep.all fun j => Dep.imp fun hj => Dep.guard fun hl => RowK.dep ?_)
    have hl := nlt hl
    exact ⟨Nat.ne_of_gt (by omega), Nat.ne_of_gt (by omega), Nat.ne_of_gt (by omega)⟩
  · obtain ⟨tk, rfl⟩ := hP i v hPi
    obtain ⟨kh3, lo, r3, l3⟩ := pi
    obtain ⟨Bf, eB⟩ := hs i hi
    have x3 := x.keep kh3
    obtain ⟨a, ea, al, ra3⟩ := x3.at hi eB
    have G3 := G0.keep kh3
    refine nmc cu ?_
    rw [arm_eval_DictComp]
    refine dict_comp (c := c) (cl := [("u", h2.objs.size + 2), ("least", L + 3)]) (Call_ (bname G3 (by walk_at "mem") boot_range (Pv.callWith_type1 (args_cons (nmc x3.cells.1 (args_nil (call_range_1 (s := mk c h3 t3) (mk_toks (n := 2) ?_))))))))
    generalize hh4 : h3.push { cls := .type "range", data := .fields #[.int 0 (t3 + 1), .int n tn, .int 1 (t3 + 1 + 1)] } = h4
    have k4 : Keep h3 h4 := hh4 ▸ Keep.push _ _
    have s4 : h4.objs.size = h3.objs.size + 1 := hh4 ▸ Heap.size_push ..
    have R4 : IsRange h4 h3.objs.size 0 n 1 (t3 + 1) tn (t3 + 1 + 1) := hh4 ▸ IsRange.new ..
    refine range_walk (c := c) hA R4 (by omega) (by omega) (by omega) fun h5 P5 St5 k5 s5 W5 st5 hP5 => ?_
    rw [hn0] at W5
    have k35 : Keep h3 h5 := k4.trans k5
    refine ⟨h4.objs.size, [h4.objs.size], n, P5, St5, h5, _, fun j h' => Row prog w RE h' h5.objs.size (rng j) (dueF ks ra n i), h4, rfl, rfl, W5, st5, fun b hb => ?_, ⟨k5, Nat.le_refl _, by show @LT.lt Nat _ h4.objs.size h5.objs.size; omega⟩, ⟨fun h' k' => ?_, fun j => ?_, fun j v h6 t6 hj hPj F6 => ?_⟩, fun h6 t6 k6 sz6 r6 => ?_⟩
    · rw [List.mem_singleton.mp hb]; show @LT.lt Nat _ h4.objs.size h5.objs.size; omega
    · exact RowK.none (k' _ _ (Heap.get?_push_size _ rfl)) (lowh _ (by omega))
    · exact RowK.dep ⟨Nat.ne_of_gt (by omega), Nat.ne_of_lt (Nat.lt_succ_self _)⟩
    · obtain ⟨tv, rfl⟩ := hP5 j v hPj
      have k36 : Keep h3 h6 := k4.trans F6.keep
      have x6 := x3.keep k36
      have ra6 := ra3.keep k36
      have cu6 := cu.keeps k36
      have G6 := G3.keep k36
      have hjj : (0 : Int) + (j : Int) = j := by omega
      have hii : (0 : Int) + (i : Int) = i := by omega
      have fin : ∀ vv tt, RE vv (dueF ks ra n i j) → wpAny (model prog w) A (dictSet h5.objs.size (.int (0 + (j : Int)) tv) vv) (fun _ s₆ => ∃ h' t', s₆ = mk c h' t' ∧ KO (fun b => b = h5.objs.size ∨ b = h5.objs.size + 1) h6 h' ∧ Fn (compEnvC _ [("u", h2.objs.size + 2), ("least", L + 3)] (h5.objs.size + 1) _) h4 (fun h' => Row prog w RE h' h5.objs.size (rng (j + 1)) (dueF ks ra n i)) h' [("v", some (.int (0 + (j : Int)) tv))]) NE (mk c h6 tt) := fun vv tt rv => by
        refine dset (intKind_is prog w (0 + (j : Int)) tv) F6.inv rv (by rw [rng_len]; omega) fun h7 t7 r7 sb => ?_
        have r8 : Row prog w RE h7 h5.objs.size (rng (j + 1)) (dueF ks ra n i) := by
          rw [hjj, addk_rng] at r7
          exact r7.congr fun q _ => by unfold upd; split <;> simp_all
        exact ⟨h7, t7, rfl, fun b ob nb e => sb.extBut b ob (fun z => nb (.inl z)) e, F6.upd (a := h5.objs.size) (show @LE.le Nat _ h4.objs.size h5.objs.size by omega) (Nat.ne_of_lt (Nat.lt_succ_self _)) sb.extBut r8 ((RowK.dep (X := fun b => b ≠ h5.objs.size + 1) (Nat.ne_of_lt (Nat.lt_succ_self _))).stb fun z => z rfl)⟩
      refine nm F6 (by walk_at "mem") ?_
      refine MethodCall_ (Subscript_ (nmc x6.cells.2.2 (nmc cu6 (lst_itm x6.lst (by omega) (by omega) (by rw [hii]; exact ea) ?_))))
      refine getmk PySem.F.slot_dict_get PySem.F.type_dict_get ra6 (callWith_builtin rfl (evalArgs_plain (args_cons (nm F6 (by walk_at "mem") (args_cons (Call_ (bname G6 (by walk_at "mem") PyProof.Rows.boot_float (Pv.callWith_type1 (args_cons (wpAny_Constant_str (args_nil (call_inf rfl hA fun vi t7 rvi => args_nil ?_))))))))))))
      refine get2_m (intKind_is prog w (0 + (j : Int)) tv) ra6 (fun hm vv t8 rv => fin vv t8 ?_) (fun hm t8 => fin vi t8 ?_)
      · have e : dueF ks ra n i j = some (Bf.f (0 + (j : Int))) := by unfold dueF; rw [eB]; rw [hjj] at hm ⊢; exact if_pos hm
        rw [e]; exact rv
      · have e : dueF ks ra n i j = none := by unfold dueF; rw [eB]; rw [hjj] at hm; exact if_neg hm
        rw [e]; exact rvi
    · have k36 : Keep h3 h6 := k4.trans k6
      have hii : (0 : Int) + (i : Int) = i := by omega
      refine dset (intKind_is prog w (0 + (i : Int)) tk) (r3.keep k36) (show RR (.ref h5.objs.size) h5.objs.size from rfl) (by rw [rng_len]; omega) fun h7 t7 r7 sb => ?_
      refine ⟨h7, t7, rfl, fun b ob nb e => sb.extBut b ob nb (k36 b ob e), fun b ob e => sb.extBut b ob (Nat.ne_of_lt (by have := nlt (Heap.lt_size e); show @LT.lt Nat _ b _; omega)) (k36 _ _ (kh3 b ob e)), upd lo (0 + (i : Int)) h5.objs.size, ?_, fun j hj => ?_⟩
      · rw [hii, addk_rng] at r7; rw [hii]; exact r7
      · by_cases e : j = 0 + (i : Int)
        · have e' : j = (i : Int) := by omega
          simp only [upd, if_pos e]
          refine ⟨by show @LT.lt Nat _ _ h5.objs.size; omega, ?_⟩
          rw [e']
          exact r6.at fun ob q => sb.extBut _ _ (Nat.ne_of_gt (by omega)) q
        · simp only [upd, if_neg e]
          have hj' : j ∈ rng i := by
            have := mem_rng.mp hj
            exact mem_rng.mpr ⟨this.1, by omega⟩
          obtain ⟨q1, q2⟩ := l3 j hj'
          exact ⟨q1, (q2.keep k36).at fun ob q => sb.extBut _ _ (Nat.ne_of_gt (by have := nlt q1; show @LT.lt Nat _ h2.objs.size (lo j); omega)) q⟩
  · obtain ⟨kh3, lo, r3, l3⟩ := pi
    refine st10 (F.ext kh3) fun h4 t4 F4 sb4 => ?_
    have zD : (h2.objs.size : Nat) ≠ L := by omega
    refine k h4 t4 h2.objs.size lo (by omega) (r3.at fun ob e => sb4.extBut _ _ zD e) (fun u hu => ⟨by have := nlt (l3 u hu).1; omega, (l3 u hu).2.at fun ob e => sb4.extBut _ _ (Nat.ne_of_gt (by have := nlt (l3 u hu).1; show @LT.lt Nat _ L (lo u); omega)) e⟩) (kh3.ko.but sb4 rfl) F4
end
end Mine
end
section
open PySem PySem.W PyProof.Rows PySem.Calls
set_option maxRecDepth 100000
namespace Mine
local macro_rules | `(tactic| walk_at "mem") => `(tactic| with_reducible (first | exact List.mem_cons_self | (refine List.mem_cons_of_mem _ ?_; walk_at "mem")))
/-- a zip whose handed-out tuple T is still held -/
abbrev IsZipO (h : Heap) (z TI TO T : Addr) (b : Bool) : Prop :=
  h.get? z = some { cls := .type "zip", dict := none, data := .fields #[rawInt T, .bool b, .bool false, .ref TI, .ref TO], slots := #[] }
section
variable {prog : Program} {w : World} {A : Around} {E : Value → Shared → Prop} {s : Shared}
/-- the owned tuple is not free: what is left of the step -/
theorem own_held {z TI TO T : Addr} {b : Bool} {o : Obj} {Q : Bool → Shared → Prop} (hz : IsZipO s.heap z TI TO T b) (hT : s.heap.get? T = some o)
    (k : ∀ h', IsZipO h' z TI TO T true → Heap.SameBut z s.heap h' → Q false { s with heap := h' }) :
    wpAny (model prog w) A (Builtin.SmallTypes.ownedTupleIsFree (.ref z)) Q E s := by
  unfold Builtin.SmallTypes.ownedTupleIsFree
  refine wpAny_bind (wpAny_field hz rfl (x := rawInt T) rfl ?_)
  show wpAny _ _ (loadIfAlive ((T : Int).toNat) >>= _) _ _ _
  rw [Int.toNat_natCast]
  refine wpAny_bind (kdx_alive hT ?_)
  simp only [Option.isNone_some, Bool.false_eq_true, if_false]
  refine wpAny_bind (wpAny_field hz rfl (x := .bool b) rfl ?_)
  cases b with
  | true =>
    rw [if_neg (show ¬ ((Value.bool true != Value.bool true) = true) from Bool.false_ne_true)]
    exact wpAny_pure (k s.heap hz (Heap.SameBut.refl _ _))
  | false =>
    rw [if_pos (show (Value.bool false != Value.bool true) = true from rfl)]
    exact wpAny_bind (wpAny_setField_rec hz (by simp) fun h₃ he₃ hs₃ => wpAny_pure (k h₃ he₃ hs₃))
/-- a turn of a zip whose tuple is held: a new tuple, no handing out -/
theorem zipO_item {z TI TO T i1 i2 l1 l2 : Addr} {bb : Bool} {oT : Obj} {k1 k2 : Nat} {xs ys : Array Value} {x y : Value} {Q : Value → Shared → Prop} (D : ZipApart z TI TO i1 i2 l1 l2)
    (hz : IsZipO s.heap z TI TO T bb) (hT : s.heap.get? T = some oT) (hTI : IsPair s.heap TI (.ref i1) (.ref i2))
    (h1 : s.heap.IsListIter i1 l1 k1) (h2 : s.heap.IsListIter i2 l2 k2) (hl1 : s.heap.IsList l1 xs) (hl2 : s.heap.IsList l2 ys) (hx : xs[k1]? = some x) (hy : ys[k2]? = some y)
    (hQ : ∀ h', IsZipO h' z TI TO T true → h'.IsListIter i1 l1 (k1 + 1) → h'.IsListIter i2 l2 (k2 + 1) → IsPair h' s.heap.objs.size x y →
      (∀ c o, c ≠ z → c ≠ i1 → c ≠ i2 → s.heap.get? c = some o → h'.get? c = some o) → Q (.ref s.heap.objs.size) { s with heap := h' }) :
    wpAny (model prog w) A (Builtin.«zip.__next__» ⟨[.ref z], []⟩) (fun fin s' => ∃ v, fin = .done (.ret v) ∧ Q v s') E s := by
  show wpAny _ _ (field (.ref z) 2 >>= _) _ _ _
  refine wpAny_bind (wpAny_field hz rfl (x := .bool false) rfl ?_)
  show wpAny _ _ (field (.ref z) 3 >>= _) _ _ _
  refine wpAny_bind (wpAny_field hz rfl (x := .ref TI) rfl ?_)
  refine wpAny_bind (wpAny_seqItems hTI rfl ?_)
  show wpAny _ _ (Builtin.SmallTypes.ownedTupleIsFree (.ref z) >>= _) _ _ _
  refine wpAny_bind (own_held hz hT fun g1 hz1 sb1 => ?_)
  simp only [Bool.false_eq_true, if_false]
  refine wpAny_bind ?_
  rw [← Array.forIn_toList]
  simp only [List.forIn_cons, List.forIn_nil]
  refine wpAny_bind (wpAny_bind (wpAny_holding ?_))
  show wpAny _ _ (Builtin.SmallTypes.nextOf (.ref i1) >>= _) _ _ _
  refine wpAny_bind (wpAny_nextOf_list_item (h1.extBut sb1.extBut D.i1z) (hl1.extBut sb1.extBut D.l1z) hx fun g2 h12 sb2 => wpAny_pure ?_)
  refine wpAny_pure ?_
  refine wpAny_bind (wpAny_bind (wpAny_holding ?_))
  show wpAny _ _ (Builtin.SmallTypes.nextOf (.ref i2) >>= _) _ _ _
  refine wpAny_bind (wpAny_nextOf_list_item ((h2.extBut sb1.extBut D.i2z).extBut sb2.extBut D.i12.symm) ((hl2.extBut sb1.extBut D.l2z).extBut sb2.extBut D.l2i1) hy fun g3 h23 sb3 => wpAny_pure ?_)
  refine wpAny_pure (wpAny_pure ?_)
  show wpAny _ _ (newTuple [x, y] >>= _) _ _ _
  refine wpAny_bind (wpAny_newTuple ?_)
  have hsz : g3.objs.size = s.heap.objs.size := by rw [sb3.1, sb2.1, sb1.1]
  refine wpAny_pure ⟨_, rfl, ?_⟩
  show Q (.ref g3.objs.size) _
  rw [hsz]
  refine hQ _ (Heap.get?_push_of_some _ (sb3.extBut _ _ D.i2z.symm (sb2.extBut _ _ D.i1z.symm hz1))) ((h12.extBut sb3.extBut D.i12).at fun o e => Heap.get?_push_of_some _ e) (h23.at fun o e => Heap.get?_push_of_some _ e) ?_ fun c o c1 c2 c3 e => Heap.get?_push_of_some _ (sb3.extBut _ _ c3 (sb2.extBut _ _ c2 (sb1.extBut _ _ c1 e)))
  rw [← hsz]
  exact Heap.get?_push_size _ rfl
theorem zipO_end {z TI TO T i1 i2 l1 l2 : Addr} {bb : Bool} {oT : Obj} {k1 k2 : Nat} {xs ys : Array Value} {Q : Fin → Shared → Prop} (hh : A.handled = none) (D : ZipApart z TI TO i1 i2 l1 l2)
    (hz : IsZipO s.heap z TI TO T bb) (hT : s.heap.get? T = some oT) (hTI : IsPair s.heap TI (.ref i1) (.ref i2))
    (h1 : s.heap.IsListIter i1 l1 k1) (h2 : s.heap.IsListIter i2 l2 k2) (hl1 : s.heap.IsList l1 xs) (hl2 : s.heap.IsList l2 ys) (hend : xs[k1]? = none ∨ ys[k2]? = none)
    (hE : ∀ h' e, (∀ c o, c ≠ z → c ≠ i1 → c ≠ i2 → s.heap.get? c = some o → h'.get? c = some o) → (∃ o, h'.get? e = some o ∧ o.cls = .type "StopIteration") → E (.ref e) { s with heap := h' }) :
    wpAny (model prog w) A (Builtin.«zip.__next__» ⟨[.ref z], []⟩) Q E s := by
  show wpAny _ _ (field (.ref z) 2 >>= _) _ _ _
  refine wpAny_bind (wpAny_field hz rfl (x := .bool false) rfl ?_)
  show wpAny _ _ (field (.ref z) 3 >>= _) _ _ _
  refine wpAny_bind (wpAny_field hz rfl (x := .ref TI) rfl ?_)
  refine wpAny_bind (wpAny_seqItems hTI rfl ?_)
  show wpAny _ _ (Builtin.SmallTypes.ownedTupleIsFree (.ref z) >>= _) _ _ _
  refine wpAny_bind (own_held hz hT fun g1 hz1 sb1 => ?_)
  simp only [Bool.false_eq_true, if_false]
  refine wpAny_bind ?_
  rw [← Array.forIn_toList]
  simp only [List.forIn_cons, List.forIn_nil]
  refine wpAny_bind (wpAny_bind (wpAny_holding ?_))
  show wpAny _ _ (Builtin.SmallTypes.nextOf (.ref i1) >>= _) _ _ _
  cases hx : xs[k1]? with
  | none =>
    exact wpAny_bind (wpAny_nextOf_list_end hh (h1.extBut sb1.extBut D.i1z) (hl1.extBut sb1.extBut D.l1z) hx fun g2 e sb2 he => hE g2 e (fun c o c1 c2 _ q => sb2 _ _ c2 (sb1.extBut _ _ c1 q)) he)
  | some x =>
    have hy : ys[k2]? = none := by rcases hend with h | h; rw [hx] at h; cases h; exact h
    refine wpAny_bind (wpAny_nextOf_list_item (h1.extBut sb1.extBut D.i1z) (hl1.extBut sb1.extBut D.l1z) hx fun g2 h12 sb2 => wpAny_pure ?_)
    refine wpAny_pure ?_
    refine wpAny_bind (wpAny_bind (wpAny_holding ?_))
    show wpAny _ _ (Builtin.SmallTypes.nextOf (.ref i2) >>= _) _ _ _
    exact wpAny_bind (wpAny_nextOf_list_end hh ((h2.extBut sb1.extBut D.i2z).extBut sb2.extBut D.i12.symm) ((hl2.extBut sb1.extBut D.l2z).extBut sb2.extBut D.l2i1) hy fun g3 e sb3 he => hE g3 e (fun c o c1 c2 c3 q => sb3 _ _ c3 (sb2.extBut _ _ c2 (sb1.extBut _ _ c1 q))) he)
theorem pyNext_zipO {z TI TO T i1 i2 l1 l2 : Addr} {bb : Bool} {oT : Obj} {k1 k2 : Nat} {xs ys : Array Value} {x y : Value} {Q : Option Value → Shared → Prop} (D : ZipApart z TI TO i1 i2 l1 l2)
    (hz : IsZipO s.heap z TI TO T bb) (hT : s.heap.get? T = some oT) (hTI : IsPair s.heap TI (.ref i1) (.ref i2))
    (h1 : s.heap.IsListIter i1 l1 k1) (h2 : s.heap.IsListIter i2 l2 k2) (hl1 : s.heap.IsList l1 xs) (hl2 : s.heap.IsList l2 ys) (hx : xs[k1]? = some x) (hy : ys[k2]? = some y)
    (hQ : ∀ h', IsZipO h' z TI TO T true → h'.IsListIter i1 l1 (k1 + 1) → h'.IsListIter i2 l2 (k2 + 1) → IsPair h' s.heap.objs.size x y →
      (∀ c o, c ≠ z → c ≠ i1 → c ≠ i2 → s.heap.get? c = some o → h'.get? c = some o) → Q (some (.ref s.heap.objs.size)) { s with heap := h' }) :
    wpAny (model prog w) A (pyNext (.ref z)) Q E s := by
  have hTy : s.TypeIs (.ref z) "zip" := ⟨_, hz, rfl⟩
  unfold pyNext
  exact wpAny_bind (wpAny_attempt (wpAny_callSpecial?_slot (name := Str.ofString "__next__") hTy PySem.F.slot_zip_next
    (wpAny_call_entry PySem.F.slot_zip_next hTy PySem.F.entry_zip_next
      (zipO_item D hz hT hTI h1 h2 hl1 hl2 hx hy fun h' a1 a2 a3 a4 a5 => wpAny_pure (hQ h' a1 a2 a3 a4 a5)) (PySem.F.args_zip_next_1 _))))
theorem pyNext_zipO_end {z TI TO T i1 i2 l1 l2 : Addr} {bb : Bool} {oT : Obj} {k1 k2 : Nat} {xs ys : Array Value} {Q : Option Value → Shared → Prop} (hh : A.handled = none) (D : ZipApart z TI TO i1 i2 l1 l2)
    (hz : IsZipO s.heap z TI TO T bb) (hT : s.heap.get? T = some oT) (hTI : IsPair s.heap TI (.ref i1) (.ref i2))
    (h1 : s.heap.IsListIter i1 l1 k1) (h2 : s.heap.IsListIter i2 l2 k2) (hl1 : s.heap.IsList l1 xs) (hl2 : s.heap.IsList l2 ys) (hend : xs[k1]? = none ∨ ys[k2]? = none)
    (hQ : ∀ h', (∀ c o, c ≠ z → c ≠ i1 → c ≠ i2 → s.heap.get? c = some o → h'.get? c = some o) → Q none { s with heap := h' }) :
    wpAny (model prog w) A (pyNext (.ref z)) Q E s := by
  have hTy : s.TypeIs (.ref z) "zip" := ⟨_, hz, rfl⟩
  unfold pyNext
  refine wpAny_bind (wpAny_attempt (wpAny_callSpecial?_slot (name := Str.ofString "__next__") hTy PySem.F.slot_zip_next
    (wpAny_call_entry PySem.F.slot_zip_next hTy PySem.F.entry_zip_next (zipO_end hh D hz hT hTI h1 h2 hl1 hl2 hend fun h' e hk he => ?_) (PySem.F.args_zip_next_1 _))))
  obtain ⟨o, ho, hc⟩ := he
  refine wpAny_bind (wpAny_isInstance (T := "StopIteration") (b := true) ⟨o, ho, hc⟩ isSubtype_stop ?_)
  exact wpAny_pure (hQ _ hk)
end
end Mine
end
section
open PySem PySem.W PyProof.Rows PySem.Calls
set_option maxRecDepth 100000
namespace Mine
local macro_rules | `(tactic| walk_at "mem") => `(tactic| with_reducible (first | exact List.mem_cons_self | (refine List.mem_cons_of_mem _ ?_; walk_at "mem")))
structure ZSt (z TI TO i1 i2 l1 l2 : Addr) (xs ys : Array Value) (m : Nat) (i : Nat) (h : Heap) : Prop where
  ti : IsPair h TI (.ref i1) (.ref i2)
  to : ∃ a b, IsPair h TO a b
  j1 : h.IsListIter i1 l1 i
  j2 : h.IsListIter i2 l2 i
  k1 : h.IsList l1 xs
  k2 : h.IsList l2 ys
  zz : IsZip h z TI TO .none ∨ ∃ T b o, IsZipO h z TI TO T b ∧ h.get? T = some o ∧ m < T
section
variable {prog : Program} {w : World} {A : Around} {env : Env} {c : Cst} {hB h : Heap} {t : Nat} {z TI TO i1 i2 l1 l2 : Addr} {xs ys : Array Value} {m i : Nat}
theorem ZSt.frame {h' : Heap} (x : ZSt z TI TO i1 i2 l1 l2 xs ys m i h) (k : ∀ b o, b ∈ [z, TI, TO, i1, i2, l1, l2] ∨ @LT.lt Nat _ m b → h.get? b = some o → h'.get? b = some o) : ZSt z TI TO i1 i2 l1 l2 xs ys m i h' where
  ti := k _ _ (.inl (by simp)) x.ti
  to := let ⟨a, b, e⟩ := x.to; ⟨a, b, k _ _ (.inl (by simp)) e⟩
  j1 := x.j1.at fun o e => k _ o (.inl (by simp)) e
  j2 := x.j2.at fun o e => k _ o (.inl (by simp)) e
  k1 := x.k1.at fun o e => k _ o (.inl (by simp)) e
  k2 := x.k2.at fun o e => k _ o (.inl (by simp)) e
  zz := x.zz.imp (fun e => k _ _ (.inl (by simp)) e) fun ⟨T, b, o, e1, e2, e3⟩ => ⟨T, b, o, k _ _ (.inl (by simp)) e1, k _ _ (.inr e3) e2, e3⟩
theorem zip_next {Q : Option Value → Shared → Prop} {x y : Value} (D : ZipApart z TI TO i1 i2 l1 l2) (lt : ∀ b ∈ [z, TI, TO, i1, i2, l1, l2], @LT.lt Nat _ b m) (hm : m < h.objs.size) (st : ZSt z TI TO i1 i2 l1 l2 xs ys m i h) (hx : xs[i]? = some x) (hy : ys[i]? = some y)
    (k : ∀ h', ZSt z TI TO i1 i2 l1 l2 xs ys m (i + 1) h' → IsPair h' h.objs.size x y → KO (fun b => b ∈ [z, TO, i1, i2]) h h' → Q (some (.ref h.objs.size)) (mk c h' t)) :
    wpAny (model prog w) A (pyNext (.ref z)) Q NE (mk c h t) := by
  obtain ⟨ti, ⟨a, b, to⟩, j1, j2, k1, k2, zz⟩ := st
  rcases zz with z0 | ⟨T, bb, oT, z0, z1, z2⟩
  · refine wpAny_pyNext_zip_item (s := mk c h t) D z0 ti to j1 j2 k1 k2 hx hy fun h' a1 a2 a3 a4 a5 a6 hk => ?_
    refine k h' ⟨hk _ _ D.TIz D.TITO D.TIi1 D.TIi2 ti, ⟨_, _, a2⟩, a3, a4, k1.at fun o e => hk _ o D.l1z D.l1TO D.l1i1 D.l1i2 e, k2.at fun o e => hk _ o D.l2z D.l2TO D.l2i1 D.l2i2 e, .inr ⟨h.objs.size, false, _, a1, a5, hm⟩⟩ a5 fun c o nb e => ?_
    simp only [List.mem_cons, List.not_mem_nil, not_or, or_false] at nb
    exact hk c o nb.1 nb.2.1 nb.2.2.1 nb.2.2.2 e
  · refine pyNext_zipO (s := mk c h t) D z0 z1 ti j1 j2 k1 k2 hx hy fun h' a1 a3 a4 a5 hk => ?_
    have nT : ∀ b ∈ [z, TI, TO, i1, i2, l1, l2], T ≠ b := fun b hb => Nat.ne_of_gt (Nat.lt_trans (lt b hb) z2)
    refine k h' ⟨hk _ _ D.TIz D.TIi1 D.TIi2 ti, ⟨a, b, hk _ _ D.TOz D.TOi1 D.TOi2 to⟩, a3, a4, k1.at fun o e => hk _ o D.l1z D.l1i1 D.l1i2 e, k2.at fun o e => hk _ o D.l2z D.l2i1 D.l2i2 e, .inr ⟨T, true, oT, a1, hk _ _ (nT _ (by simp)) (nT _ (by simp)) (nT _ (by simp)) z1, z2⟩⟩ a5 fun c o nb e => ?_
    simp only [List.mem_cons, List.not_mem_nil, not_or, or_false] at nb
    exact hk c o nb.1 nb.2.2.1 nb.2.2.2 e
theorem zip_end {Q : Option Value → Shared → Prop} (hA : A.handled = none) (D : ZipApart z TI TO i1 i2 l1 l2) (st : ZSt z TI TO i1 i2 l1 l2 xs ys m i h) (hend : xs[i]? = none ∨ ys[i]? = none)
    (k : ∀ h', KO (fun b => b ∈ [z, TO, i1, i2]) h h' → Q none (mk c h' t)) :
    wpAny (model prog w) A (pyNext (.ref z)) Q NE (mk c h t) := by
  obtain ⟨ti, ⟨a, b, to⟩, j1, j2, k1, k2, zz⟩ := st
  rcases zz with z0 | ⟨T, bb, oT, z0, z1, z2⟩
  · refine wpAny_pyNext_zip_end (s := mk c h t) hA D z0 ti to j1 j2 k1 k2 hend fun h' hk => k h' fun c o nb e => ?_
    simp only [List.mem_cons, List.not_mem_nil, not_or, or_false] at nb
    exact hk c o nb.1 nb.2.1 nb.2.2.1 nb.2.2.2 e
  · refine pyNext_zipO_end (s := mk c h t) hA D z0 z1 ti j1 j2 k1 k2 hend fun h' hk => k h' fun c o nb e => ?_
    simp only [List.mem_cons, List.not_mem_nil, not_or, or_false] at nb
    exact hk c o nb.1 nb.2.2.1 nb.2.2.2 e
/-- a list comprehension over zip(xs, ys) -/
structure ZC (prog : Program) (w : World) (A : Around) (env : Env) (c : Cst) (hB : Heap) (ex : Expr) (scope : Scope) (cl : List (Str × Addr)) (x : Str) (use : Option (Value → Sem Unit)) (Q : Value → Shared → Prop) (z TI TO i1 i2 l1 l2 : Addr) (xs ys : Array Value) (h2 : Heap) (Rv : Nat → Value → Prop) : Prop where
  ap : ZipApart z TI TO i1 i2 l1 l2
  z0 : IsZip h2 z TI TO .none
  st : ZSt z TI TO i1 i2 l1 l2 xs ys (h2.objs.size + 1) 0 h2
  lt : ∀ b ∈ [z, TI, TO, i1, i2, l1, l2], @LT.lt Nat _ b h2.objs.size
  kB : Keep hB h2
  ab : ∀ b ∈ [z, TO, i1, i2], @LE.le Nat _ hB.objs.size b
  le : min xs.size ys.size ≤ 1000
  elt : ∀ j a b T h t, xs[j]? = some a → ys[j]? = some b → IsTup h T #[a, b] → h2.objs.size + 1 < h.objs.size → Fn (compEnvC scope cl (h2.objs.size + 1) env) hB (fun _ => True) h [(x, some (.ref T))] →
    wpAny (model prog w) A (eval ex (compEnvC scope cl (h2.objs.size + 1) env)) (fun r s' => ∃ h' t', s' = mk c h' t' ∧ Keep h h' ∧ Rv j r) NE (mk c h t)
  fin : ∀ h t vs, Keep hB h → h2.objs.size + 1 < h.objs.size → Lst h h2.objs.size vs → vs.length = min xs.size ys.size → (∀ j v, vs[j]? = some v → Rv j v) → match use with
      | none => Q (.ref h2.objs.size) (mk c h t)
      | some u => wpAny (model prog w) A (u (.ref h2.objs.size)) (fun _ s'' => ∃ h'' t'', s'' = mk c h'' t'' ∧ (∀ o, h.get? (h2.objs.size + 1) = some o → h''.get? (h2.objs.size + 1) = some o) ∧
          ∀ h', (∀ b o, b ≠ h2.objs.size + 1 → h''.get? b = some o → h'.get? b = some o) → Q .none (mk c h' t'')) NE (mk c h t)
theorem zip_comp {s : Shared} {ex iter : Expr} {x : Str} {px pos : Pos} {scope : Scope} {cl : List (Str × Addr)} {use : Option (Value → Sem Unit)} {Q : Value → Shared → Prop} (hA : A.handled = none)
    (h : wpAny (model prog w) A (eval iter env) (fun xv s₁ => ∃ z TI TO i1 i2 l1 l2 xs ys h2 t2 Rv, xv = .ref z ∧ s₁ = mk c h2 t2 ∧ ZC prog w A env c hB ex scope cl x use Q z TI TO i1 i2 l1 l2 xs ys h2 Rv) NE s)
    (hclos : closureFor scope env = pure cl := by rfl) (hkind : scope.kind = .function := by rfl)
    (hcell : (scope.names.all fun y => !(y.2 == .cell)) = true := by rfl) (hnames : (scope.names.all fun y => !(y.2 == .local) || scope.names.lookup y.1 == some .local) = true := by rfl)
    (hx : (compEnvC scope cl 0 env).kindOf x = some .local := by rfl) (hxd : (x == ("__debug__" : Str)) = false := by kernel_rfl) (hs : ∀ x, foldedSetIterable iter env x = pure x := by intro _; rfl) :
    wpAny (model prog w) A (comprehension (.ListComp ex [⟨.Name x px, iter, [], 0⟩] scope pos) scope env (firstIterPos [⟨.Name x px, iter, [], 0⟩] pos) (newList []) (firstAsync [⟨.Name x px, iter, [], 0⟩]) (firstIter [⟨.Name x px, iter, [], 0⟩] env) use) Q NE s := by
  refine wpAny_comprehension_free rfl hs hclos hkind (fun y hy hl => ?_) (wpAny_mono h (fun xv s₁ h₁ => ?_) fun _ _ e => e)
  · have := List.all_eq_true.mp hnames y hy
    rw [hl] at this; simpa using this
  obtain ⟨z, TI, TO, i1, i2, l1, l2, xs, ys, h2, t2, Rv, rfl, rfl, Z⟩ := h₁
  refine wpAny_pyIter_zip (s := mk c h2 t2) Z.z0 ?_
  refine wpAny_newObj_type ?_ (by size_fits)
  refine wpAny_newFunctionEnv (s := mk c (h2.push { cls := .type "list", data := .seq #[] }) t2) (fun y hy e => ?_) (by intro y hy; simp at hy) (fun h4 hns hsb => ?_) hkind
  · have := List.all_eq_true.mp hcell y hy; rw [e] at this; cases this
  have hC : (h2.push { cls := .type "list", data := .seq #[] }).objs.size = h2.objs.size + 1 := Heap.size_push ..
  have hns : h4.Ns (h2.objs.size + 1) (fun x => ([] : List (Str × Value)).reverse.lookup x) := by rw [← hC]; exact hns
  have hsb : Heap.SameBut (h2.objs.size + 1) ((h2.push { cls := .type "list", data := .seq #[] }).push { cls := .type "dict", data := .dict #[] }) h4 := by
    have := hsb; simp only [Option.isSome_some, if_true] at this; rw [← hC]; exact this
  have hCn : ∀ b o, (h2.push { cls := .type "list", data := .seq #[] }).get? b = some o → h4.get? b = some o := fun b o q => hsb.extBut b o (Nat.ne_of_lt (by rw [← hC]; exact Heap.lt_size q)) (Heap.get?_push_of_some _ q)
  have k24 : Keep h2 h4 := fun b o q => hCn b o (Heap.get?_push_of_some _ q)
  have hz1 := nlt (Z.lt z (by simp))
  have hz2 := nle (Z.ab z (by simp))
  have hlt : hB.objs.size ≤ h2.objs.size + 1 := by show @LE.le Nat _ _ _; omega
  have hBD : @LE.le Nat _ hB.objs.size h2.objs.size := by omega
  have hDC : h2.objs.size ≠ h2.objs.size + 1 := Nat.ne_of_lt (Nat.lt_succ_self _)
  have wrC : ∀ b ∈ [z, TO, i1, i2], b ≠ h2.objs.size + 1 ∧ b ≠ h2.objs.size := fun b hb => by
    have := nlt (Z.lt b (by simp only [List.mem_cons, List.not_mem_nil, or_false] at hb ⊢; rcases hb with q | q | q | q <;> simp [q]))
    exact ⟨Nat.ne_of_lt (by omega), Nat.ne_of_lt (by omega)⟩
  have l0 : Lst h4 h2.objs.size [] := (Lst.new h2 []).keep hCn
  have F0 : Fn (compEnvC scope cl (h2.objs.size + 1) env) hB (fun _ => True) h4 [(x, none)] :=
    ⟨⟨hkind, fun p hp => by rw [List.mem_singleton.mp hp]; exact ⟨hx, hxd⟩, by simp, _, hns, fun p hp => by rw [List.mem_singleton.mp hp]; rfl⟩,
      Z.kB.trans k24, hlt, trivial, Stb.true⟩
  have st4 := Z.st.frame (h' := h4) fun b o _ q => k24 b o q
  have hm : ∀ {h : Heap} {ov : Option Value}, Fn (compEnvC scope cl (h2.objs.size + 1) env) hB (fun _ => True) h [(x, ov)] → h2.objs.size + 1 < h.objs.size := fun F => F.loc.lt
  have zlt : ∀ b ∈ [z, TI, TO, i1, i2, l1, l2], @LT.lt Nat _ b (h2.objs.size + 1) := fun b hb => Nat.lt_succ_of_lt (Z.lt b hb)
  have frm : ∀ {i : Nat} {h h' : Heap}, ZSt z TI TO i1 i2 l1 l2 xs ys (h2.objs.size + 1) i h → (∀ b o, b ≠ h2.objs.size → b ≠ h2.objs.size + 1 → h.get? b = some o → h'.get? b = some o) → ZSt z TI TO i1 i2 l1 l2 xs ys (h2.objs.size + 1) i h' := fun st k => st.frame fun b o q e => by
    have : (b : Nat) ≠ h2.objs.size ∧ (b : Nat) ≠ h2.objs.size + 1 := by
      rcases q with q | q
      · have := nlt (Z.lt b q); exact ⟨Nat.ne_of_lt (by omega), Nat.ne_of_lt (by omega)⟩
      · have := nlt q; exact ⟨Nat.ne_of_gt (by omega), Nat.ne_of_gt (by omega)⟩
    exact k b o this.1 this.2 e
  have stepF : ∀ {h h' : Heap} {ov : Option Value}, Fn (compEnvC scope cl (h2.objs.size + 1) env) hB (fun _ => True) h [(x, ov)] → KO (fun b => b ∈ [z, TO, i1, i2]) h h' → Fn (compEnvC scope cl (h2.objs.size + 1) env) hB (fun _ => True) h' [(x, ov)] := fun F ko =>
    F.to (fun b o e1 e2 => ko b o (fun m => by have := nle (Z.ab b m); have := nlt (Heap.lt_size e1); omega) e2) (fun o e => ko _ o (fun m => (wrC _ m).1 rfl) e) trivial Stb.true
  have LP : ∀ s, s = mk c h4 t2 → codeAny (model prog w) A (.compLoop (.ListComp ex [⟨.Name x px, iter, [], 0⟩] scope pos) 0 (.ref z) (.ref h2.objs.size) (compEnvC scope cl (h2.objs.size + 1) env)) (compPost (model prog w) A NE use Q (.ref h2.objs.size) (h2.objs.size + 1)) s := by
    rintro s rfl
    refine codeAny_compLoop_tests (fun k s => ∃ i h t ov vs, s = mk c h t ∧ k = min xs.size ys.size - i ∧ i ≤ min xs.size ys.size ∧ ZSt z TI TO i1 i2 l1 l2 xs ys (h2.objs.size + 1) i h ∧ Fn (compEnvC scope cl (h2.objs.size + 1) env) hB (fun _ => True) h [(x, ov)] ∧ Lst h h2.objs.size vs ∧ vs.length = i ∧ (∀ j v, vs[j]? = some v → Rv j v)) ?_ (min xs.size ys.size) ⟨0, h4, t2, none, [], rfl, rfl, Nat.zero_le _, st4, F0, l0, rfl, fun j v e => by simp at e⟩
    rintro k s ⟨i, h, t, ov, vs, rfl, rfl, hle, st, F, lv, ln, hv⟩
    rcases Nat.lt_or_ge i (min xs.size ys.size) with hin | hge
    · have hix : i < xs.size := Nat.lt_of_lt_of_le hin (Nat.min_le_left ..)
      have hiy : i < ys.size := Nat.lt_of_lt_of_le hin (Nat.min_le_right ..)
      refine wpAny_noRaise (zip_next Z.ap zlt (hm F) st (Array.getElem?_eq_getElem hix) (Array.getElem?_eq_getElem hiy) fun h' st' hp ko => ?_)
      have F1 := stepF F ko
      refine wpAny_noRaise (wpAny_assign_Name (Mine.st0 F1 fun h'' t'' F2 sb => ?_))
      refine wpAny_pure ?_
      simp only [if_true]
      have hp2 : IsTup h'' h.objs.size #[xs[i], ys[i]] := ⟨_, sb.extBut _ _ (Nat.ne_of_gt (hm F)) hp, rfl, _, rfl⟩
      refine wpAny_noRaise (wpAny_mono (Z.elt i _ _ _ h'' t'' (Array.getElem?_eq_getElem hix) (Array.getElem?_eq_getElem hiy) hp2 (hm F2) F2) (fun r s' q => wpAny_noRaise ?_) fun _ _ e => e)
      obtain ⟨h3, t3, rfl, k3, rv⟩ := q
      have lv3 : Lst h3 h2.objs.size vs := lv.at fun o e => k3 _ _ (sb.extBut _ _ hDC (ko _ _ (fun m => (wrC _ m).2 rfl) e))
      have hle' := Z.le
      refine append_m lv3 (by omega) fun h5 l5 sb5 => ?_
      refine ⟨min xs.size ys.size - (i + 1), by omega, i + 1, h5, t3, some _, vs ++ [r], rfl, rfl, hin, frm st' fun b o n1 n2 e => sb5.extBut b o n1 (k3 _ _ (sb.extBut b o n2 e)), (F2.ext k3).upd hBD hDC sb5.extBut trivial Stb.true, l5, by simp [ln], fun j v e => ?_⟩
      rcases Nat.lt_or_ge j vs.length with q | q
      · rw [List.getElem?_append_left q] at e; exact hv j v e
      · rw [List.getElem?_append_right q] at e
        have hj : j = vs.length := by
          rcases Nat.lt_or_ge vs.length j with z | z
          · have : 1 ≤ j - vs.length := by omega
            rw [List.getElem?_eq_none (by simpa using this)] at e; cases e
          · exact Nat.le_antisymm z q
        subst hj
        simp at e
        subst e
        rw [ln]; exact rv
    · obtain rfl : i = min xs.size ys.size := Nat.le_antisymm hle hge
      refine wpAny_noRaise (zip_end hA Z.ap st ?_ fun h' ko => ?_)
      · rcases Nat.le_total xs.size ys.size with q | q
        · exact .inl (by rw [Nat.min_eq_left q]; exact Array.getElem?_eq_none (Nat.le_refl _))
        · exact .inr (by rw [Nat.min_eq_right q]; exact Array.getElem?_eq_none (Nat.le_refl _))
      have F1 := stepF F ko
      obtain ⟨m, hns', _⟩ := F1.loc.ns
      have lv1 : Lst h' h2.objs.size vs := lv.at fun o e => ko _ _ (fun m => (wrC _ m).2 rfl) e
      have fin := Z.fin
      cases use with
      | none =>
        refine ⟨m, hns', fun g hg => ?_⟩
        exact fin g t vs (fun b o q => hg.extBut b o (Nat.ne_of_lt (Nat.lt_of_lt_of_le (Heap.lt_size q) hlt)) (F1.keep b o q)) (by rw [hg.1]; exact hm F1) (lv1.at fun o e => hg.extBut _ _ hDC e) ln hv
      | some u =>
        refine wpAny_mono (fin h' t vs F1.keep (hm F1) lv1 ln hv) (fun _ s'' x => ?_) fun _ _ q => q
        obtain ⟨h'', t'', rfl, k1, k2⟩ := x
        exact ⟨m, hns'.at' k1, fun g hg => k2 g hg.extBut⟩
  show codeAny (model prog w) A (.compStart _ 0 (.ref z) (.ref h2.objs.size) (compEnvC scope cl (h2.push { cls := .type "list", data := .seq #[] }).objs.size env)) (compPost (model prog w) A NE use Q (.ref h2.objs.size) (h2.push { cls := .type "list", data := .seq #[] }).objs.size) (mk c h4 t2)
  rw [hC]
  have z4 : IsZip h4 z TI TO .none := k24 _ _ Z.z0
  exact codeAny_compStart_list (LP _ rfl) (wpAny_pyIter_zip (s := mk c h4 t2) z4 (LP _ rfl))
end
end Mine
end
section
open PySem PySem.W PyProof.Rows PySem.Calls
set_option maxRecDepth 100000
namespace Mine
local macro_rules | `(tactic| walk_at "mem") => `(tactic| with_reducible (first | exact List.mem_cons_self | (refine List.mem_cons_of_mem _ ?_; walk_at "mem")))
section
variable {prog : Program} {w : World} {A : Around} {c : Cst} {h : Heap} {t : Nat} {E : Value → Shared → Prop} {Z : Addr → Prop} {d : Addr} {ks : List (Int × Int)} {f : Int × Int → Int} {Q : Value → Shared → Prop}
/-- rows.get, the method -/
theorem arcs_gm {pl : Sem Bool} {Q : Value × List Value → Shared → Prop} (x : Arcs prog w Z h d ks f) (k : Q (.builtin "dict.get", [.ref d]) (mk c h t)) :
    wpAny (model prog w) A (getMethod (.ref d) "get" pl) Q E (mk c h t) := by
  obtain ⟨s, zd, xs, D, hk, r⟩ := x
  exact getMethod_builtin (s := mk c h t) D.typeIs PySem.F.plainAttrs_dict PySem.F.slot_dict_get PySem.F.type_dict_get (dictOfH_noDict (d := d) D) k
theorem arcs_get1 {a : Addr} {u v : Int} {tu tv : Tok} (hu : A.units + 1 < cLine) (x : Arcs prog w Z h d ks f) (hp : (u, v) ∈ ks) (ha : IsTup h a #[.int u tu, .int v tv])
    (k : ∀ vv t', RI vv (f (u, v)) → Q vv (mk c h t')) :
    wpAny (model prog w) A (call (.builtin "dict.get") [.ref d, .ref a]) Q E (mk c h t) := by
  obtain ⟨xs, b, vv, D, e, r⟩ := x.get hp
  obtain ⟨s, _⟩ := x
  refine call_meetsIn (s := mk c h t) PySem.F.slot_dict_get D.typeIs PySem.F.entry_dict_get (PySem.F.args_dict_get_2 _ _) (meetsH_dict_get (tupleKind (intKind prog w)) d a s) ⟨tupleKind_room_in1 hu, _, xs, Arcs.key ha, D, ?_⟩
  rw [e]
  exact k _ _ r
theorem ints_items : ∀ {vs : List Value} {ns : List Int}, IntsAre vs ns → ∃ xs : List (Int × Tok), vs = xs.map (fun p => Value.int p.1 p.2) ∧ xs.map (·.1) = ns
  | _, _, .nil => ⟨[], rfl, rfl⟩
  | _, _, .cons n u i => let ⟨xs, e1, e2⟩ := ints_items i; ⟨(n, u) :: xs, by rw [e1]; rfl, by rw [← e2]; rfl⟩
theorem sum_m {l : Addr} {vs : List Value} {ns : List Int} (hA : A.handled = none) (hl : Lst h l vs) (hi : IntsAre vs ns)
    (k : ∀ h' t' tk, Keep h h' → Q (.int ns.sum tk) (mk c h' t')) : wpAny (model prog w) A (call (.builtin "sum") [.ref l]) Q E (mk c h t) := by
  obtain ⟨xs, e1, e2⟩ := ints_items hi
  have hl' : h.IsList l (intItems xs.toArray) := by
    have := hl.isList
    rw [e1] at this
    simpa [intItems] using this
  refine wpAny_with_toks (n := t + 1) (s := mk c h t) (Nat.le_refl _) (sum_intListG (s := mk c h t) hA hl' fun h' tk t' hk htk => ?_)
  obtain ⟨tk', rfl⟩ : ∃ m, tk = m + 1 := ⟨tk - 1, by have : t + 1 ≤ tk := htk; omega⟩
  have e : preSum (numAt xs.toArray) xs.toArray.size = ns.sum := by
    rw [preSum_eq, List.take_of_length_le (by simp)]
    rw [← e2]
  rw [e]
  exact k h' tk' t' hk
theorem lst0 {value slice : Expr} {a : Addr} {vs : List Value} {n : Int} {ns : List Int} {tk : Tok} (l : Lst h a vs) (i : IntsAre vs (n :: ns)) (k : ∀ t', Q (.int n t') (mk c h t))
    (hs : subscripted slice false (.ref a) (.int 0 tk) = operate [.ref a, .int 0 tk] (getItem (.ref a) (.int 0 tk)) := by with_unfolding_all rfl) :
    wpAny (model prog w) A (subscriptTail value slice (.ref a) (.int 0 tk)) Q E (mk c h t) := by
  cases i with
  | cons n u i => exact lst_itm l (by decide) (by decide) (by rfl) (k u) hs
/-- and, when what stands ahead is true -/
theorem and_t {env : Env} {e₁ e₂ : Expr} {rest : List Expr} {pos : Pos} {s : Shared} {Q : Value → Shared → Prop}
    (h : wpAny (model prog w) A (eval e₁ env) (fun v s₁ => v = .bool true ∧ wpAny (model prog w) A (eval (.BoolOp .And (e₂ :: rest) pos) env) Q E s₁) E s) :
    wpAny (model prog w) A (eval (.BoolOp .And (e₁ :: e₂ :: rest) pos) env) Q E s := by
  refine BoolOp_and (wpAny_mono h (fun v s₁ x => ?_) fun _ _ x => x)
  obtain ⟨rfl, x⟩ := x
  exact wpAny_truthy_bool (by simp only [if_true]; exact x)
end
end Mine
end
section
open PySem PySem.W PyProof.Rows PySem.Calls
set_option maxRecDepth 100000
namespace Mine
local macro_rules | `(tactic| walk_at "mem") => `(tactic| with_reducible (first | exact List.mem_cons_self | (refine List.mem_cons_of_mem _ ?_; walk_at "mem")))
structure PathOk (ks : List (Int × Int)) (ra : Int × Int → Int) (ns : List Int) (u v d : Int) : Prop where
  hd : ∃ r, ns = u :: r
  la : ∃ r, ns = r ++ [v]
  arcs : ∀ p ∈ ns.zip ns.tail, p ∈ ks
  sum : ((ns.zip ns.tail).map ra).sum = d
  len : ns.length ≤ 1000
/-- the predecessors tell true ways -/
def PrOk (n : Nat) (ks : List (Int × Int)) (ra : Int × Int → Int) (prk : List Int) (K : Int → List Int) (P : Int → Int → Int) : Prop :=
  ∀ j, j < n → ∀ B, leastB ra ks n ⟨[(j : Int)], fun _ => 0⟩ = some B → ∀ v ∈ B.ks, (j : Int) ≠ v → (j : Int) ∈ prk ∧ ∃ ns, Back (fun v => if v ∈ K j then some (P j v) else none) j v ns ∧ PathOk ks ra ns.reverse j v (B.f v)
abbrev chFor : Stmt := at' (dBody (S 29)) 11
abbrev chOut : Stmt := at' (dFor chFor) 1
abbrev chInn : Stmt := at' (dFor chOut) 0
section
variable {prog : Program} {w : World} {A : Around} {c : Cst} {hB hG h h9 : Heap} {t : Nat} {L f D rd ll Pf Pt : Addr} {m0 : Nat} {cd : Value} {K : Frag} {y : GD} {ro : Addr → Nat × Int} {o : Bool} {n : Nat} {tn : Tok} {ks : List (Int × Int)} {ra : Int × Int → Int} {vs : List Value} {tl : List Addr}
variable {sc be to gd du pr we pa st sg vo uo dr gr : Option Value} {Q : Flow → Shared → Prop}
theorem Row.intRow {a : Addr} {ks : List Int} {f : Int → Int} (x : Row prog w RI h a ks f) : IntRow prog w h a (fun v => if v ∈ ks then some (f v) else none) := by
  obtain ⟨s, kvs, q, hk, r⟩ := x
  refine ⟨kvs, q, fun i p e => ?_⟩
  by_cases hi : i ∈ ks
  · obtain ⟨v, h1, h2⟩ := valueAt_of (hk ▸ hi)
    obtain ⟨tk, e2⟩ := r _ h2
    simp only [if_pos hi] at e
    cases e
    exact ⟨tk, by rw [h1]; exact congrArg some e2⟩
  · simp only [if_neg hi] at e; cases e
theorem Lst.neNs {a : Addr} {vs : List Value} {m : Str → Option Value} (x : Lst h a vs) (y : h.Ns L m) : a ≠ L := fun e => by
  obtain ⟨nn, e1⟩ := x
  obtain ⟨ob, es, ep, e2, e3⟩ := y
  rw [e, e2] at e1
  cases e1
  obtain ⟨e4, _⟩ := e3
  cases e4
theorem Row.refAt {a : Addr} {ks : List Int} {f : Int → Addr} {i : Int} (x : Row prog w RR h a ks f) : ∃ kvs, h.DictOf (intKind prog w) a kvs ∧ (i ∈ ks → valueAt kvs i = some (.ref (f i))) := by
  obtain ⟨s, kvs, q, hk, r⟩ := x
  refine ⟨kvs, q, fun hi => ?_⟩
  obtain ⟨v, h1, h2⟩ := valueAt_of (hk ▸ hi)
  have e2 : v = .ref (f i) := r _ h2
  rw [h1, e2]
/-- what the body of the check needs of the heap where the check begins -/
structure ChkB (prog : Program) (w : World) (hG : Heap) (o : Bool) (n : Nat) (tn : Tok) (y : GD) (ro : Addr → Nat × Int) (rd : Addr) (ks : List (Int × Int)) (ra : Int × Int → Int) (ll : Addr) (vs : List Value) (L m0 : Nat) (tl : List Addr) (pd : Addr) (prk : List Int) (pw : Int → Addr) (Kf : Int → List Int) (Pf : Int → Int → Int) (h9 : Heap) : Prop where
  x : LwF prog w hG o n tn y ro rd ks ra ll vs L m0 tl h9
  p : Row prog w RR h9 pd prk pw
  pr : ∀ i ∈ prk, Row prog w RI h9 (pw i) (Kf i) (Pf i)
  pL : pd ≠ L
  rL : ∀ i ∈ prk, pw i ≠ L
theorem chk_same {R : List Int → Prop} (B : LB hB K) (hA : A.handled = none) (hroom : A.depth < recursionLimit) (hu : A.units + 1 < cLine) {j : Nat} (hj : j < n) {tu tv : Tok} {pd : Addr} {prk : List Int} {pw : Int → Addr} {Kf : Int → List Int} {Pf : Int → Int → Int}
    (C : ChkB prog w hG o n tn y ro rd ks ra ll vs L m0 tl pd prk pw Kf Pf h9) {v : Int} (hp : (j : Int) ≠ v → (j : Int) ∈ prk ∧ ∃ ns, Back (fun v => if v ∈ Kf j then some (Pf j v) else none) j v ns ∧ ns.length ≤ 1000 ∧ R ns.reverse)
    (F : Fn (lwEnv cd L f) hB (KO (fun b => b = L) h9) h (lwl sc dr (some (.bool o)) gr (some (.int v tv)) (some (.int j tu)) sg be to (some (.bool true)) du (some (.ref pd)) we pa st))
    (k : ∀ h' t' a ns, KO (fun b => b = L) h h' → IsInts h' a ns → ((j : Int) = v → ns = []) → ((j : Int) ≠ v → R ns) →
      Fn (lwEnv cd L f) hB (KO (fun b => b = L) h9) h' (lwl sc dr (some (.bool o)) gr (some (.int v tv)) (some (.int j tu)) sg be to (some (.bool true)) du (some (.ref pd)) we (some (.ref a)) st) → Q .next (mk c h' t')) :
    wpAny (model prog w) A (exec (at' (dFor chInn) 0) (lwEnv cd L f)) Q NE (mk c h t) := by
  obtain ⟨cdr, hf⟩ := B.f103
  have hf' := hf.keep F.keep
  have ⟨ob, pm, ho, hdat, _⟩ := hf'
  have G := B.bs.G.keep F.keep
  have at9 : ∀ b : Addr, b ≠ L → ∀ ob, h9.get? b = some ob → h.get? b = some ob := fun b nb ob e => F.inv b ob nb e
  obtain ⟨kvs, q1, q2⟩ := Row.refAt (i := (j : Int)) (C.p.at fun ob e => at9 _ C.pL ob e)
  by_cases e : (j : Int) = v
  · refine wpAny_Assign_Name (Call_ (gname G (by walk_at "mem") (callWith_def hdat (args_cons (nm F (by walk_at "mem") (args_cons (nm F (by walk_at "mem") (args_cons (nm F (by walk_at "mem") (args_nil ⟨ho, ?_⟩)))))))))) 
    refine recon_spec (row := 0) (g := fun _ => none) (ns := []) hA hroom G hf' q1 (fun z => absurd e z) (fun z => absurd e z) (fun z => absurd e z) (by decide) fun h1 t1 a k1 i1 => ?_
    rw [if_pos e] at i1
    obtain ⟨m, hns, _⟩ := (F.ext k1).loc.ns
    have ne : a ≠ L := let ⟨_, l, _⟩ := i1; l.neNs hns
    exact st13 (F.ext k1) fun h2 t2 F2 sb2 => k h2 t2 a [] (k1.ko.but sb2 rfl) (i1.at fun ob z => sb2.extBut _ _ ne z) (fun _ => rfl) (fun z => absurd e z) F2
  · obtain ⟨hm, bs, hb, hl, hR⟩ := hp e
    refine wpAny_Assign_Name (Call_ (gname G (by walk_at "mem") (callWith_def hdat (args_cons (nm F (by walk_at "mem") (args_cons (nm F (by walk_at "mem") (args_cons (nm F (by walk_at "mem") (args_nil ⟨ho, ?_⟩))))))))))
    refine recon_spec (ns := bs) hA hroom G hf' q1 (fun _ => q2 hm) (fun _ => Row.intRow ((C.pr _ hm).at fun ob z => at9 _ (C.rL _ hm) ob z)) (fun _ => hb) hl fun h1 t1 a k1 i1 => ?_
    rw [if_neg e] at i1
    obtain ⟨m, hns, _⟩ := (F.ext k1).loc.ns
    have ne : a ≠ L := let ⟨_, l, _⟩ := i1; l.neNs hns
    exact st13 (F.ext k1) fun h2 t2 F2 sb2 => k h2 t2 a _ (k1.ko.but sb2 rfl) (i1.at fun ob z => sb2.extBut _ _ ne z) (fun z => absurd z e) (fun _ => hR) F2
end
end Mine
end
section
open PySem PySem.W PyProof.Rows PySem.Calls
set_option maxRecDepth 100000
namespace Mine
local macro_rules | `(tactic| walk_at "mem") => `(tactic| with_reducible (first | exact List.mem_cons_self | (refine List.mem_cons_of_mem _ ?_; walk_at "mem")))
theorem ints_of_at {α : Type} {f : α → Int} : ∀ {vs : List Value} {l : List α}, vs.length = l.length → (∀ (j : Nat) v, vs[j]? = some v → ∃ p, l[j]? = some p ∧ RI v (f p)) → IntsAre vs (l.map f)
  | [], [], _, _ => .nil
  | v :: vs, p :: l, e, h => by
    obtain ⟨q, e1, t, e2⟩ := h 0 v rfl
    cases e1
    rw [e2]
    exact .cons _ _ (ints_of_at (Nat.succ.inj e) fun j v e3 => h (j + 1) v e3)
theorem KO.dep2 {W : Addr → Prop} {h0 : Heap} : Dep (fun b => ¬ W b ∧ ∃ o, h0.get? b = some o) (KO W h0) := fun h h' k x b o n e => k b o ⟨n, o, e⟩ (x b o n e)
section
variable {prog : Program} {w : World} {A : Around} {c : Cst} {hB hG h h9 : Heap} {t : Nat} {L f D rd ll Pf Pt : Addr} {m0 : Nat} {cd : Value} {K : Frag} {y : GD} {ro : Addr → Nat × Int} {o : Bool} {n : Nat} {tn : Tok} {ks : List (Int × Int)} {ra : Int × Int → Int} {vs : List Value} {tl : List Addr}
variable {sc be to gd du pr we pa st sg vo uo dr gr : Option Value} {Q : Flow → Shared → Prop}
abbrev chIf : Stmt := at' (dFor chInn) 1
def dElse : Stmt → List Stmt
  | .If _ _ b _ => b
  | _ => []
theorem zip_apart {s a b : Nat} (ha : a < s) (hb : b < s) : ZipApart (s + 4) (s + 2) (s + 3) s (s + 1) a b := by
  constructor <;> (first | exact Nat.ne_of_lt (by omega) | exact Nat.ne_of_gt (by omega))
/-- steps = [rows.get(pair) for pair in zip(path, path[1:])] -/
theorem chk_steps (B : LB hB K) (hA : A.handled = none) (hu : A.units + 1 < cLine) {a : Addr} {ns : List Int} (x : LwF prog w hG o n tn y ro rd ks ra ll vs L m0 tl h9) (i : IsInts h a ns) (hns : ∀ p ∈ ns.zip ns.tail, p ∈ ks) (hlen : ns.length ≤ 1000)
    (F : Fn (lwEnv cd L f) hB (KO (fun b => b = L) h9) h (lwl sc dr (some (.bool o)) gr vo uo sg be to gd du pr we (some (.ref a)) st))
    (k : ∀ h' t' sa vs, KO (fun b => b = L) h h' → Lst h' sa vs → IntsAre vs ((ns.zip ns.tail).map ra) → 
      Fn (lwEnv cd L f) hB (KO (fun b => b = L) h9) h' (lwl sc dr (some (.bool o)) gr vo uo sg be to gd du pr we (some (.ref a)) (some (.ref sa))) → Q .next (mk c h' t')) :
    wpAny (model prog w) A (exec (at' (dElse chIf) 0) (lwEnv cd L f)) Q NE (mk c h t) := by
  obtain ⟨us, l, iu⟩ := i
  have G := B.bs.G.keep F.keep
  have al := nlt l.lt
  refine asg_lcomp (zip_comp (c := c) (cl := [("rows", L + 2)]) (hB := h) hA (Call_ (bname G (by walk_at "mem") boot_zip (Pv.callWith_type1 (args_cons (nm F (by walk_at "mem") (args_cons (Subscript_ (nm F (by walk_at "mem") (wpAny_Slice (evp_some (wpAny_Constant_int (evp_none (evp_none ?_))))))))))))))
  generalize hh1 : h.push { cls := .type "slice", data := .fields #[.int 1 (t + 1), .none, .none] } = h1
  have k1 : Keep h h1 := hh1 ▸ Keep.push _ _
  have s1 : h1.objs.size = h.objs.size + 1 := hh1 ▸ Heap.size_push ..
  have sl1 : h1.IsSliceOf h.objs.size (.int 1 (t + 1)) .none .none := hh1 ▸ Heap.IsSliceOf.new ..
  have ul : us.length = ns.length := iu.length
  refine slice_tail (t := t + 1) (l.keep k1).isList sl1 (.int _ _) .none (by rw [List.size_toArray, sizeLine_eq]; omega) ?_ (by with_unfolding_all rfl)
  have ip := slice_ints_fromW iu (x := 1) (by decide)
  generalize hxs : slicePick us.toArray (some 1) none none = xs at ip
  generalize hh2 : h1.push { cls := .type "list", data := .seq xs } = h2
  have k2 : Keep h1 h2 := hh2 ▸ Keep.push _ _
  have s2 : h2.objs.size = h1.objs.size + 1 := hh2 ▸ Heap.size_push ..
  have l2 : h2.IsList h1.objs.size xs := hh2 ▸ ⟨_, Heap.get?_push_size _ rfl, rfl, _, rfl⟩
  have l02 := (l.keep (k1.trans k2))
  refine args_nil (call_zip_2 (s := mk c h2 (t + 1)) l02.isList l2 fun h3 z0 ti to j1 j2 s3 k3 => ?_)
  have k3' : Keep h2 h3 := k3
  have s3' : h3.objs.size = h2.objs.size + 5 := s3
  have kh3 : Keep h h3 := (k1.trans k2).trans k3'
  refine ⟨h2.objs.size + 4, h2.objs.size + 2, h2.objs.size + 3, h2.objs.size, h2.objs.size + 1, a, h1.objs.size, us.toArray, xs, h3, t + 1, fun j v => ∃ p, (ns.zip ns.tail)[j]? = some p ∧ RI v (ra p), rfl, rfl, ?_⟩
  have hxl : xs.size = ns.length - 1 := by rw [← Array.length_toList, ip.length]; simp
  have hmin : min us.toArray.size xs.size = (ns.zip ns.tail).length := by rw [List.length_zip, List.length_tail, List.size_toArray, ul, hxl]
  refine ⟨zip_apart (by omega) (by omega), z0, ⟨ti, ⟨_, _, to⟩, j1, j2, l02.isList.at fun ob e => k3' _ _ e, l2.at fun ob e => k3' _ _ e, .inl z0⟩, fun b hb => ?_, kh3, fun b hb => ?_, by rw [List.size_toArray]; omega, fun j va vb T h4 t4 ea eb ht hs4 Fc => ?_, fun h4 t4 ws k4 sz4 l4 n4 r4 => ?_⟩
  · simp only [List.mem_cons, List.not_mem_nil, or_false] at hb
    rcases hb with rfl | rfl | rfl | rfl | rfl | rfl | rfl <;> (show @LT.lt Nat _ _ _; omega)
  · simp only [List.mem_cons, List.not_mem_nil, or_false] at hb
    rcases hb with rfl | rfl | rfl | rfl <;> (show @LE.le Nat _ _ _; omega)
  · obtain ⟨na, ta, rfl, e1⟩ := iu.at j va (by simpa using ea)
    obtain ⟨nb, tb, rfl, e2⟩ := ip.at j vb (by rw [Array.getElem?_toList]; exact eb)
    have e3 : (ns.zip ns.tail)[j]? = some (na, nb) := by
      rw [List.getElem?_zip_eq_some]
      exact ⟨e1, by rw [← List.drop_one]; exact e2⟩
    have x4 : LwF prog w hG o n tn y ro rd ks ra ll vs L m0 tl h4 := LwF.dep h9 h4 (fun b ob q e => Fc.keep b ob (F.inv b ob (fun z => q (z ▸ .head _)) e)) x
    refine MethodCall_ (nmc x4.cells.2.1 (arcs_gm x4.ar (callWith_builtin rfl (evalArgs_plain (args_cons (nm Fc (by walk_at "mem") (args_nil ?_)))))))
    exact arcs_get1 hu x4.ar (hns _ (List.mem_of_getElem? e3)) ht fun vv t5 rv => ⟨h4, t5, rfl, Keep.refl _, _, e3, rv⟩
  · refine wpAny_assign_Name (st14 (F.ext k4) fun h5 t5 F5 sb5 => ?_)
    have zL := nlt (show L < h.objs.size from F.loc.lt)
    have iw : IntsAre ws ((ns.zip ns.tail).map ra) := ints_of_at (by rw [n4, hmin]) r4
    refine ⟨h5, t5, rfl, fun ob e => sb5.extBut _ _ (show @Ne Nat (h3.objs.size + 1) L by omega) e, fun h6 k6 => ?_⟩
    have k56 : ∀ b : Nat, b ≠ h3.objs.size + 1 → ∀ ob, h5.get? b = some ob → h6.get? b = some ob := fun b nb ob e => k6 b ob nb e
    have F6 := F5.off (I := h3.objs.size + 1) (h' := h6) KO.dep2 (fun z => by
      obtain ⟨nL, ob, e⟩ := z
      have := nlt (Heap.lt_size (F.inv _ ob nL e)); omega) (show @LE.le Nat _ hB.objs.size (h3.objs.size + 1) by have := nle (show @LE.le Nat _ hB.objs.size L from F.above); omega) (show @Ne Nat (h3.objs.size + 1) L by omega) k6
    refine k h6 t5 h3.objs.size ws (fun b ob nb e => ?_) (l4.at fun ob e => k56 _ (by omega) _ (sb5.extBut _ _ (show @Ne Nat h3.objs.size L by omega) e)) iw F6
    have := nlt (Heap.lt_size e)
    exact k56 b (by omega) _ (sb5.extBut _ _ nb (k4 _ _ e))
end
end Mine
end
section
open PySem PySem.W PyProof.Rows PySem.Calls
set_option maxRecDepth 100000
namespace Mine
local macro_rules | `(tactic| walk_at "mem") => `(tactic| with_reducible (first | exact List.mem_cons_self | (refine List.mem_cons_of_mem _ ?_; walk_at "mem")))
section
variable {prog : Program} {w : World} {A : Around} {c : Cst} {hB hG h h9 : Heap} {t : Nat} {L f D rd ll Pf Pt : Addr} {m0 : Nat} {cd : Value} {K : Frag} {y : GD} {ro : Addr → Nat × Int} {o : Bool} {n : Nat} {tn : Tok} {ks : List (Int × Int)} {ra : Int × Int → Int} {vs : List Value} {tl : List Addr}
variable {sc be to gd du pr we pa st sg vo uo dr gr : Option Value} {Q : Flow → Shared → Prop}
theorem chk_if (B : LB hB K) (hA : A.handled = none) (hu : A.units + 2 < cLine) {j : Nat} (hj : j < n) (hn5 : n ≤ 5) {tu tv : Tok} {a : Addr} {ns : List Int} {v : Int} {Bf : BF} (x : LwF prog w hG o n tn y ro rd ks ra ll vs L m0 tl h9) (hB' : leastB ra ks n ⟨[(j : Int)], fun _ => 0⟩ = some Bf) (hv : v ∈ Bf.ks)
    (i : IsInts h a ns) (h0 : (j : Int) = v → ns = []) (h1 : (j : Int) ≠ v → PathOk ks ra ns j v (Bf.f v))
    (F : Fn (lwEnv cd L f) hB (KO (fun b => b = L) h9) h (lwl sc dr (some (.bool o)) gr (some (.int v tv)) (some (.int j tu)) sg be to (some (.bool true)) du pr we (some (.ref a)) st))
    (k : ∀ h' t' st, KO (fun b => b = L) h h' → Fn (lwEnv cd L f) hB (KO (fun b => b = L) h9) h' (lwl sc dr (some (.bool o)) gr (some (.int v tv)) (some (.int j tu)) sg be to (some (.bool true)) du pr we (some (.ref a)) st) → Q .next (mk c h' t')) :
    wpAny (model prog w) A (exec chIf (lwEnv cd L f)) Q NE (mk c h t) := by
  obtain ⟨us, l, iu⟩ := i
  have al := nlt l.lt
  obtain ⟨m, hns, _⟩ := F.loc.ns
  have aL := l.neNs hns
  by_cases e : (j : Int) = v
  · have en := h0 e
    rw [en] at iu
    have eu : us = [] := by cases iu; rfl
    refine wpAny_If (wpAny_isTrue_Compare1 (nm F (by walk_at "mem") (nm F (by walk_at "mem") (PySem.P.eq_int (wpAny_truthy_bool ?_)))))
    rw [if_pos (by simpa using e)]
    refine wpAny_execs_cons (wpAny_Assign_Name (and_t (nm F (by walk_at "mem") ⟨rfl, BoolOp_one (wpAny_Compare1 (nm F (by walk_at "mem") (List_ (wpAny_items_nil (newList_m ?_ (sz_of (by simp)))))))⟩)))
    have F1 := F.push { cls := .type "list", data := .seq ([] : List Value).toArray }
    have l1 : Lst (h.push { cls := .type "list", data := .seq ([] : List Value).toArray }) a [] := eu ▸ l.keep (Keep.push _ _)
    refine SeqAt.eq_listAt (s := mk c (h.push { cls := .type "list", data := .seq ([] : List Value).toArray }) t) (e := fun _ => true) l1.isList (Lst.new h []).isList rfl (by omega) (fun q q1 => absurd q1 (by simp)) ?_
    exact st9 F1 fun h2 t2 F2 sb2 => wpAny_execs_nil (k h2 t2 _ (((Keep.push _ _).ko).but sb2 rfl) F2)
  · obtain ⟨⟨r1, hd⟩, ⟨r2, la⟩, arcs, sum, len⟩ := h1 e
    refine wpAny_If (wpAny_isTrue_Compare1 (nm F (by walk_at "mem") (nm F (by walk_at "mem") (PySem.P.eq_int (wpAny_truthy_bool ?_)))))
    rw [if_neg (by simpa using e)]
    refine wpAny_execs_cons (chk_steps B hA (by omega) x ⟨us, l, iu⟩ arcs len F fun h2 t2 sa ws ko2 l2 i2 F2 => ?_)
    have l' : Lst h2 a us := l.at fun ob z => ko2 _ _ aL z
    obtain ⟨ar, ear, arL, rar⟩ := x.at hj hB'
    have x2 : LwF prog w hG o n tn y ro rd ks ra ll vs L m0 tl h2 := LwF.dep h9 h2 (fun b ob q z => F2.inv b ob (fun s => q (s ▸ .head _)) z) x
    have rar2 := rar.at (h' := h2) fun ob z => F2.inv _ _ (show @Ne Nat ar L by have := nlt arL; omega) z
    refine wpAny_execs_cons (wpAny_Assign_Name (and_t (nm F2 (by walk_at "mem") ⟨rfl, and_t (wpAny_Compare1 (Subscript_ (nm F2 (by walk_at "mem") (wpAny_Constant_int (lst0 (ns := r1) (n := j) l' (hd ▸ iu) fun t3 => nm F2 (by walk_at "mem") (PySem.P.eq_int ⟨by simp, ?_⟩))))))⟩)))
    refine and_t (wpAny_Compare1 (Subscript_ (nm F2 (by walk_at "mem") (wpAny_UnaryOp (wpAny_Constant_int (PySem.P.neg_int (ints_last (ns := r2) (n := v) ⟨us, l', la ▸ iu⟩ fun t3 => nm F2 (by walk_at "mem") (PySem.P.eq_int ⟨by simp, ?_⟩))))))))
    refine and_t (wpAny_Compare1 (wpAny_Constant_none (nm F2 (by walk_at "mem") (SeqAt.notIn_listAt (s := mk c h2 _) (fun _ => false) l2.isList (fun y hy => ?_) ⟨by simp, ?_⟩))))
    · obtain ⟨q, hq, rfl⟩ := List.getElem_of_mem (List.mem_toArray.mp hy)
      obtain ⟨z, tz, e1, _⟩ := i2.at q ws[q] (List.getElem?_eq_getElem hq)
      rw [e1]; exact SeqAt.EqAt.int_none _ _
    refine BoolOp_one (wpAny_Compare1 (Call_ (bname (B.bs.G.keep F2.keep) (by walk_at "mem") boot_sum (callWith_builtin rfl (evalArgs_plain (args_cons (nm F2 (by walk_at "mem") (args_nil (sum_m hA l2 i2 fun h3 t3 tk k3 => ?_)))))))))
    have F3 := F2.ext k3
    have x3 := x2.keep k3
    refine Subscript_ (Subscript_ (nmc x3.cells.2.2 (nm F3 (by walk_at "mem") (lst_itm x3.lst (by omega) (by omega) (by rw [Int.toNat_natCast]; exact ear) ?_))))
    refine nm F3 (by walk_at "mem") (row_itm (rar2.keep k3) hv fun vv t4 rv => ?_)
    obtain ⟨tz, rfl⟩ := rv
    refine PySem.P.eq_int ?_
    rw [sum, beq_self_eq_true]
    exact st9 F3 fun h5 t5 F5 sb5 => wpAny_execs_nil (k h5 t5 _ ((ko2.keep k3).but sb5 rfl) F5)
end
end Mine
end
section
open PySem PySem.W PyProof.Rows PySem.Calls
set_option maxRecDepth 100000
namespace Mine
local macro_rules | `(tactic| walk_at "mem") => `(tactic| with_reducible (first | exact List.mem_cons_self | (refine List.mem_cons_of_mem _ ?_; walk_at "mem")))
section
variable {prog : Program} {w : World} {A : Around} {c : Cst} {hB hG h h9 : Heap} {t : Nat} {L f D rd ll Pf Pt : Addr} {m0 : Nat} {cd : Value} {K : Frag} {y : GD} {ro : Addr → Nat × Int} {o : Bool} {n : Nat} {tn : Tok} {ks : List (Int × Int)} {ra : Int × Int → Int} {vs : List Value} {tl : List Addr}
variable {sc be to gd du pr we pa st sg vo uo dr gr : Option Value} {Q : Flow → Shared → Prop}
theorem KO.newOff {h0 h1 h2 : Heap} {I : Addr} (x : KO (fun b => b = L) h0 h1) (hI : ∀ ob, h0.get? I ≠ some ob) (e : ∀ b o, b ≠ I → h1.get? b = some o → h2.get? b = some o) : KO (fun b => b = L) h0 h2 :=
  fun b ob nb q => e b ob (fun z => hI ob (z ▸ q)) (x b ob nb q)
theorem KO.noNew {h0 h1 : Heap} (x : KO (fun b => b = L) h0 h1) (hL : @LT.lt Nat _ L h1.objs.size) : ∀ ob, h0.get? h1.objs.size ≠ some ob := fun ob e => by
  have := nlt (Heap.lt_size (x _ ob (Nat.ne_of_gt hL) e)); omega
theorem chk_inn (B : LB hB K) (hA : A.handled = none) (hroom : A.depth < recursionLimit) (hu : A.units + 2 < cLine) {j : Nat} (hj : j < n) (hn5 : n ≤ 5) {tu : Tok} {pd : Addr} {prk : List Int} {pw : Int → Addr} {Kf : Int → List Int} {Pf : Int → Int → Int} {Bf : BF}
    (C : ChkB prog w hG o n tn y ro rd ks ra ll vs L m0 tl pd prk pw Kf Pf h9) (hB' : leastB ra ks n ⟨[(j : Int)], fun _ => 0⟩ = some Bf) (ok : PrOk n ks ra prk Kf Pf)
    (F : Fn (lwEnv cd L f) hB (KO (fun b => b = L) h9) h (lwl sc dr (some (.bool o)) gr vo (some (.int j tu)) sg be to (some (.bool true)) du (some (.ref pd)) we pa st))
    (k : ∀ h' t' vo pa st, KO (fun b => b = L) h h' → Fn (lwEnv cd L f) hB (KO (fun b => b = L) h9) h' (lwl sc dr (some (.bool o)) gr vo (some (.int j tu)) sg be to (some (.bool true)) du (some (.ref pd)) we pa st) → Q .next (mk c h' t')) :
    wpAny (model prog w) A (exec chInn (lwEnv cd L f)) Q NE (mk c h t) := by
  have zL := nlt (show L < h.objs.size from F.loc.lt)
  have hBL : @LE.le Nat _ hB.objs.size L := F.above
  have x1 : LwF prog w hG o n tn y ro rd ks ra ll vs L m0 tl h := LwF.dep h9 h (fun b ob q z => F.inv b ob (fun s => q (s ▸ .head _)) z) C.x
  obtain ⟨ar, ear, arL, rar⟩ := x1.at hj hB'
  have no9 := F.inv.noNew zL
  have noh : ∀ ob, h.get? h.objs.size ≠ some ob := (KO.refl h).noNew zL
  refine for_walks (c := c) (fun b => b = L) (Subscript_ (nmc x1.cells.2.2 (nm F (by walk_at "mem") (lst_itm x1.lst (by omega) (by omega) (by rw [Int.toNat_natCast]; exact ear) ?_))))
  refine loops_keys hA rar (show @Ne Nat ar L by have := nlt arL; omega) (fun b e => e ▸ zL)
    (fun _ _ h₁ _ => KO (fun b => b = L) h h₁ ∧ ∃ vo pa st, Fn (lwEnv cd L f) hB (KO (fun b => b = L) h9) h₁ (lwl sc dr (some (.bool o)) gr vo (some (.int j tu)) sg be to (some (.bool true)) du (some (.ref pd)) we pa st))
    ⟨KO.refl _, vo, pa, st, F⟩ ?_ ?_ fun h₁ t₁ ⟨ko, vo, pa, st, F1⟩ => k h₁ t₁ vo pa st ko F1
  · rintro p r h₁ t₁ h' t' e ⟨ko, vo, pa, st, F1⟩
    exact ⟨ko.newOff noh e, vo, pa, st, F1.off KO.dep2 (fun z => let ⟨_, ob, q⟩ := z; no9 ob q) (show @LE.le Nat _ hB.objs.size h.objs.size by omega) (show @Ne Nat h.objs.size L by omega) e⟩
  · rintro p v r h₁ t₁ tk hks ⟨ko, vo, pa, st, F1⟩
    have hv : v ∈ Bf.ks := hks ▸ List.mem_append_right _ (.head _)
    refine wpAny_assign_Name (st4 F1 fun h2 t2 F2 sb2 => ?_)
    have ko2 : KO (fun b => b = L) h₁ h2 := (KO.refl _).but sb2 rfl
    refine wpAny_execs_cons (chk_same (R := fun ns => PathOk ks ra ns j v (Bf.f v)) B hA hroom (by omega) hj C (v := v) (fun e => ?_) F2 fun h3 t3 a ns ko3 i3 q1 q2 F3 => ?_)
    · obtain ⟨m, ns, b, po⟩ := ok j hj Bf hB' v hv e
      exact ⟨m, ns, b, by have := po.len; rw [List.length_reverse] at this; exact this, po⟩
    refine wpAny_execs_cons (chk_if B hA hu hj hn5 C.x hB' hv i3 q1 q2 F3 fun h4 t4 st' ko4 F4 => wpAny_execs_nil ⟨h4, t4, rfl, (ko2.trans ko3).trans ko4, ((ko.trans ko2).trans ko3).trans ko4, _, _, _, F4⟩)
theorem chk_out (B : LB hB K) (hA : A.handled = none) (hroom : A.depth < recursionLimit) (hu : A.units + 2 < cLine) (hn5 : n ≤ 5) {pd : Addr} {prk : List Int} {pw : Int → Addr} {Kf : Int → List Int} {Pf : Int → Int → Int}
    (C : ChkB prog w hG o n tn y ro rd ks ra ll vs L m0 tl pd prk pw Kf Pf h9) (hs : ∀ j, j < n → ∃ Bf, leastB ra ks n ⟨[(j : Int)], fun _ => 0⟩ = some Bf) (ok : PrOk n ks ra prk Kf Pf)
    (F : Fn (lwEnv cd L f) hB (KO (fun b => b = L) h9) h (lwl sc dr (some (.bool o)) gr vo uo sg be to (some (.bool true)) du (some (.ref pd)) we pa st))
    (k : ∀ h' t' vo uo pa st, KO (fun b => b = L) h h' → Fn (lwEnv cd L f) hB (KO (fun b => b = L) h9) h' (lwl sc dr (some (.bool o)) gr vo uo sg be to (some (.bool true)) du (some (.ref pd)) we pa st) → Q .next (mk c h' t')) :
    wpAny (model prog w) A (exec chOut (lwEnv cd L f)) Q NE (mk c h t) := by
  have zL := nlt (show L < h.objs.size from F.loc.lt)
  have hBL : @LE.le Nat _ hB.objs.size L := F.above
  have x1 : LwF prog w hG o n tn y ro rd ks ra ll vs L m0 tl h := LwF.dep h9 h (fun b ob q z => F.inv b ob (fun s => q (s ▸ .head _)) z) C.x
  have hn0 : ((n : Int) - 0).toNat = n := by omega
  refine for_walks (c := c) (fun b => b = L) (Call_ (bname (B.bs.G.keep F.keep) (by walk_at "mem") boot_range (Pv.callWith_type1 (args_cons (nmc x1.cells.1 (args_nil (call_range_1 (s := mk c h t) (mk_toks (n := 2) ?_))))))))
  generalize hh1 : h.push { cls := .type "range", data := .fields #[.int 0 (t + 1), .int n tn, .int 1 (t + 1 + 1)] } = h1
  have hk1 : Keep h h1 := hh1 ▸ Keep.push _ _
  have s1 : h1.objs.size = h.objs.size + 1 := hh1 ▸ Heap.size_push ..
  have R1 : IsRange h1 h.objs.size 0 n 1 (t + 1) tn (t + 1 + 1) := hh1 ▸ IsRange.new ..
  have F1 := F.ext hk1
  have no9 := F1.inv.noNew (show @LT.lt Nat _ L h1.objs.size by omega)
  have noh : ∀ ob, h.get? h1.objs.size ≠ some ob := fun ob e => by have := nlt (Heap.lt_size e); omega
  refine loops_range hA R1 (by omega) (by omega) (by omega) (fun b e => e ▸ (show @LT.lt Nat _ L h1.objs.size by omega))
    (fun _ h₁ _ => KO (fun b => b = L) h h₁ ∧ ∃ vo uo pa st, Fn (lwEnv cd L f) hB (KO (fun b => b = L) h9) h₁ (lwl sc dr (some (.bool o)) gr vo uo sg be to (some (.bool true)) du (some (.ref pd)) we pa st))
    ⟨hk1.ko, vo, uo, pa, st, F1⟩ ?_ ?_ fun h₁ t₁ ⟨ko, vo, uo, pa, st, F2⟩ => k h₁ t₁ vo uo pa st ko F2
  · rintro i h₁ t₁ h' t' e ⟨ko, vo, uo, pa, st, F2⟩
    exact ⟨ko.newOff noh e, vo, uo, pa, st, F2.off KO.dep2 (fun z => let ⟨_, ob, q⟩ := z; no9 ob q) (show @LE.le Nat _ hB.objs.size h1.objs.size by omega) (show @Ne Nat h1.objs.size L by omega) e⟩
  · rintro i h₁ t₁ tk hi1 hi2 ⟨ko, vo, uo, pa, st, F2⟩
    obtain ⟨j, rfl⟩ : ∃ j : Nat, i = (j : Int) := ⟨i.toNat, by omega⟩
    have hj : j < n := by omega
    obtain ⟨Bf, hB'⟩ := hs j hj
    refine wpAny_assign_Name (st5 F2 fun h2 t2 F3 sb2 => ?_)
    have ko2 : KO (fun b => b = L) h₁ h2 := (KO.refl _).but sb2 rfl
    exact wpAny_execs_cons (chk_inn B hA hroom hu hj hn5 C hB' ok F3 fun h3 t3 vo' pa' st' ko3 F4 => wpAny_execs_nil ⟨h3, t3, rfl, ko2.trans ko3, (ko.trans ko2).trans ko3, _, _, _, _, F4⟩)
end
end Mine
end
section
open PySem PySem.W PyProof.Rows PySem.Calls
set_option maxRecDepth 100000
namespace Mine
local macro_rules | `(tactic| walk_at "mem") => `(tactic| with_reducible (first | exact List.mem_cons_self | (refine List.mem_cons_of_mem _ ?_; walk_at "mem")))
section
variable {prog : Program} {w : World} {A : Around} {c : Cst} {hB hG h h9 : Heap} {t : Nat} {L f D rd ll Pf Pt : Addr} {m0 : Nat} {cd : Value} {K : Frag} {y : GD} {ro : Addr → Nat × Int} {o : Bool} {n : Nat} {tn : Tok} {ks : List (Int × Int)} {ra : Int × Int → Int} {vs : List Value} {tl : List Addr}
variable {sc be to gd du pr we pa st sg vo uo dr gr : Option Value} {Q : Flow → Shared → Prop}
theorem lotg_tupleiter {s : Shared} {E : Value → Shared → Prop} {elts : List Expr} {x1} {pos : Pos} {I l : Addr} {v : Value} {i : Nat} {Q : Unit → Shared → Prop} (hit : s.heap.IsTupleIter I l i) (hQ : Q () s) :
    wpAny (model prog w) A (letOwnedTupleGo (.Tuple elts x1 pos) (.ref I) v) Q E s := by
  obtain ⟨o, ho, hc, hd⟩ := hit
  unfold letOwnedTupleGo
  cases v with
  | ref T =>
    refine wpAny_bind (wpAny_load ho ?_)
    rw [hc, hd]
    refine wpAny_ite_split (fun h => ?_) (fun _ => wpAny_pure hQ)
    exact absurd (Bool.and_eq_true_iff.mp h).1 (by decide)
  | _ => exact wpAny_pure hQ
theorem NoneBooked.keep {h h' : Heap} (x : NoneBooked h) (k : Keep h h') : NoneBooked h' := let ⟨mc, a, b⟩ := x; ⟨mc, a.keeps k, b⟩
/-- what a turn of the check needs -/
structure TurnB (prog : Program) (w : World) (hG : Heap) (o : Bool) (n : Nat) (tn : Tok) (y : GD) (ro : Addr → Nat × Int) (rd : Addr) (ks : List (Int × Int)) (ra : Int × Int → Int) (ll : Addr) (vs : List Value) (L m0 : Nat) (tl : List Addr) (s : Tbl) (z : Lay) (ud : Addr) (da : Int → Addr) (h9 : Heap) : Prop where
  x : LwF prog w hG o n tn y ro rd ks ra ll vs L m0 tl h9
  N : z.N = rng n
  m : Mats prog w z s h9
  low : ∀ b, (b = z.dd ∨ b = z.pd ∨ z.row b) → b ≠ L
  u : Row prog w RR h9 ud (rng n) da
  ur : ∀ i ∈ rng n, Row prog w RE h9 (da i) (rng n) (dueF ks ra n i)
  ne : ∀ i ∈ rng n, z.dr i ≠ da i
  uL : ud ≠ L
  aL : ∀ i ∈ rng n, da i ≠ L
  eq : ∀ i ∈ rng n, ∀ j ∈ rng n, s.D i j = dueF ks ra n i j
  ok : PrOk n ks ra z.prk s.K s.P
theorem TurnB.dep {s : Tbl} {z : Lay} {ud : Addr} {da : Int → Addr} : Dep (fun b => b ∉ L :: tl ∨ b ≠ L) (TurnB prog w hG o n tn y ro rd ks ra ll vs L m0 tl s z ud da) := fun h h' k C =>
  { C with
    x := LwF.dep h h' (fun b ob q e => k b ob (.inl q) e) C.x
    m := Mats.dep h h' (fun b ob q e => k b ob (.inr (C.low b q)) e) C.m
    u := C.u.at fun ob e => k _ ob (.inr C.uL) e
    ur := fun i hi => (C.ur i hi).at fun ob e => k _ ob (.inr (C.aL i hi)) e }
theorem TurnB.ko {s : Tbl} {z : Lay} {ud : Addr} {da : Int → Addr} {h' : Heap} (C : TurnB prog w hG o n tn y ro rd ks ra ll vs L m0 tl s z ud da h) (k : KO (fun b => b = L) h h') : TurnB prog w hG o n tn y ro rd ks ra ll vs L m0 tl s z ud da h' :=
  TurnB.dep h h' (fun b ob q e => k b ob (fun z => by rcases q with q | q; exact q (z ▸ .head _); exact q z) e) C
theorem chk_turn {s : Tbl} {z : Lay} {ud : Addr} {da : Int → Addr} (B : LB hB K) (hA : A.handled = none) (hroom : A.depth < recursionLimit) (hu : A.units + 2 < cLine) (hn5 : n ≤ 5)
    (C : TurnB prog w hG o n tn y ro rd ks ra ll vs L m0 tl s z ud da h) (hs : ∀ j, j < n → ∃ Bf, leastB ra ks n ⟨[(j : Int)], fun _ => 0⟩ = some Bf)
    (F : Fn (lwEnv cd L f) hB (fun _ => True) h (lwl sc dr (some (.bool o)) gr vo uo sg be to (some (.bool true)) (some (.ref ud)) (some (.ref z.pd)) (some (.ref z.dd)) pa st))
    (k : ∀ h' t' vo uo pa st, KO (fun b => b = L) h h' → Fn (lwEnv cd L f) hB (fun _ => True) h' (lwl sc dr (some (.bool o)) gr vo uo sg be to (some (.bool true)) (some (.ref ud)) (some (.ref z.pd)) (some (.ref z.dd)) pa st) → Q .next (mk c h' t')) :
    wpAny (model prog w) A (execs (dFor chFor) (lwEnv cd L f)) Q NE (mk c h t) := by
  have m := C.m
  have hw := m.d; rw [C.N] at hw
  refine wpAny_execs_cons (wpAny_Assign_Name (and_t (nm F (by walk_at "mem") ⟨rfl, BoolOp_one (wpAny_Compare1 (nm F (by walk_at "mem") (nm F (by walk_at "mem")
    (tabs_eq (s := mk c h t) hu (NoneBooked.keep B.nb F.keep) hw C.u (kf := fun _ => rng n) (fun i hi => by have := m.drow i (C.N.symm ▸ hi); rw [C.N] at this; exact this) C.ur (fun i hi _ => C.ne i hi) rfl C.eq ?_))))⟩)))
  refine st9 F fun h2 t2 F2 sb2 => ?_
  have ko2 : KO (fun b => b = L) h h2 := (KO.refl _).but sb2 rfl
  have F2' := F2.say (P' := KO (fun b => b = L) h) ko2 (KO.dep2.stb fun z => z.1 rfl)
  refine wpAny_execs_cons (chk_out (pd := z.pd) (prk := z.prk) (pw := z.pr) (Kf := s.K) (Pf := s.P) B hA hroom hu hn5 ⟨C.x, m.p, m.prow, C.low _ (.inr (.inl rfl)), fun i hi => C.low _ (.inr (.inr (.inr ⟨i, hi, rfl⟩)))⟩ hs C.ok F2' fun h3 t3 vo uo pa st ko3 F3 => wpAny_execs_nil (k h3 t3 vo uo pa st (ko2.trans ko3) (F3.say trivial Stb.true)))
theorem for_walksC {env : Env} {s : Shared} {target iter : Expr} {body : List Stmt} {pos : Pos} {Q : Flow → Shared → Prop} (Wr : Addr → Prop)
    (hi : wpAny (model prog w) A (eval iter env) (fun x s₁ => wpAny (model prog w) A (pyIter x) (fun it s₂ => ∃ c, Loops prog w A env c target body Q Wr it s₂) NE s₁) NE s)
    (hs : ∀ x, foldedSetIterable iter env x = pure x := by intro _; rfl) :
    wpAny (model prog w) A (exec (.For target iter body [] pos) env) Q NE s := by
  refine for_rule (wpAny_mono hi (fun x s₁ h₁ => wpAny_mono h₁ (fun it s₂ h₂ => ?_) fun _ _ e => e) fun _ _ e => e) hs
  obtain ⟨c, I, fp, n, P, St, h2, t2, Inv, rfl, rfl, W, st0, hfp, hgo, i0, hst, turn, fin⟩ := h₂
  refine ⟨fun k s => ∃ i h t, s = mk c h t ∧ k = n - i ∧ i ≤ n ∧ St i h ∧ Inv i h t, ⟨n, 0, h2, t2, rfl, rfl, Nat.zero_le _, st0, i0⟩, ?_⟩
  rintro k s ⟨i, h, t, rfl, rfl, hle, st, iv⟩
  rcases Nat.lt_or_ge i n with hlt | hge
  · refine walks_item (c := c) (h := h) (t := t) W hlt st fun v h' tk hp st' hk => ?_
    have hk' : ∀ b o, b ≠ I → h.get? b = some o → h'.get? b = some o := fun b o hb e => hk b o (by simpa using hb) e
    refine hgo (i + 1) _ _ _ st' ?_
    refine wpAny_mono (turn i h' tk hlt (hst i h t h' tk hk' iv) v hp) (fun _ s₂ h₂ => wpAny_mono h₂ (fun f s₃ h₃ => ?_) fun _ _ e => e) fun _ _ e => e
    cases f with
    | next => obtain ⟨h3, t3, rfl, ko, iv'⟩ := h₃; exact ⟨n - (i + 1), by omega, i + 1, h3, t3, rfl, rfl, hlt, W.frame _ _ _ st' (fun b hb o e => ko b o (hfp b hb) e), iv'⟩
    | cont => obtain ⟨h3, t3, rfl, ko, iv'⟩ := h₃; exact ⟨n - (i + 1), by omega, i + 1, h3, t3, rfl, rfl, hlt, W.frame _ _ _ st' (fun b hb o e => ko b o (hfp b hb) e), iv'⟩
    | brk => exact h₃
    | ret v => exact h₃
  · obtain rfl : i = n := Nat.le_antisymm hle hge
    refine walks_done (c := c) (h := h) (t := t) W st fun h' tk hk => ?_
    exact fin h' tk (hst i h t h' tk (fun b o hb e => hk b o (by simpa using hb) e) iv)
end
end Mine
end
section
open PySem PySem.W PyProof.Rows PySem.Calls
set_option maxRecDepth 100000
namespace Mine
local macro_rules | `(tactic| walk_at "mem") => `(tactic| with_reducible (first | exact List.mem_cons_self | (refine List.mem_cons_of_mem _ ?_; walk_at "mem")))
def dTarget : Stmt → Expr
  | .For t _ _ .. => t
  | _ => default
section
variable {prog : Program} {w : World} {A : Around} {c : Cst} {hB hG h h9 : Heap} {t : Nat} {L f D rd ll Pf Pt : Addr} {m0 : Nat} {cd : Value} {K : Frag} {y : GD} {ro : Addr → Nat × Int} {o : Bool} {n : Nat} {tn : Tok} {ks : List (Int × Int)} {ra : Int × Int → Int} {vs : List Value} {tl : List Addr}
variable {sc be to gd du pr we pa st sg vo uo dr gr : Option Value} {Q : Flow → Shared → Prop}
/-- the two turns, once the tuple of two stands -/
theorem chk_loop {pos : Pos} {elts : Expr} {s1 s2 : Tbl} {z1 z2 : Lay} {T1 T2 T3 : Addr} {ud : Addr} {da : Int → Addr} (B : LB hB K) (hA : A.handled = none) (hroom : A.depth < recursionLimit) (hu : A.units + 2 < cLine) (hn5 : n ≤ 5)
    (C1 : TurnB prog w hG o n tn y ro rd ks ra ll vs L m0 tl s1 z1 ud da h) (C2 : TurnB prog w hG o n tn y ro rd ks ra ll vs L m0 tl s2 z2 ud da h) (hs : ∀ j, j < n → ∃ Bf, leastB ra ks n ⟨[(j : Int)], fun _ => 0⟩ = some Bf)
    (t1 : IsTup h T1 #[.ref z1.pd, .ref z1.dd]) (t2 : IsTup h T2 #[.ref z2.pd, .ref z2.dd]) (t3 : h.IsTuple T3 #[.ref T1, .ref T2])
    (F : Fn (lwEnv cd L f) hB (fun _ => True) h (lwl sc dr (some (.bool o)) gr vo uo sg be to (some (.bool true)) (some (.ref ud)) pr we pa st))
    (k : ∀ h' t' vo uo pr we pa st, KO (fun b => b = L) h h' → Fn (lwEnv cd L f) hB (fun _ => True) h' (lwl sc dr (some (.bool o)) gr vo uo sg be to (some (.bool true)) (some (.ref ud)) pr we pa st) → Q .next (mk c h' t')) :
    wpAny (model prog w) A (pyIter (.ref T3)) (Loops prog w A (lwEnv cd L f) c (dTarget chFor) (dFor chFor) Q (fun b => b = L)) NE (mk c h t) := by
  have zL := nlt (show L < h.objs.size from F.loc.lt)
  have hBL : @LE.le Nat _ hB.objs.size L := F.above
  have noh : ∀ ob, h.get? h.objs.size ≠ some ob := (KO.refl h).noNew zL
  have l3 := nlt (show T3 < h.objs.size from let ⟨_, e, _⟩ := t3; Heap.lt_size e)
  obtain ⟨m, hns, _⟩ := F.loc.ns
  have tupL : ∀ {a : Addr} {it : Array Value}, IsTup h a it → a ≠ L := fun ⟨ob, e1, _, nn, e2⟩ z => by
    obtain ⟨ob', es, ep, e3, e4, _⟩ := hns
    rw [z] at e1
    have : some ob = some ob' := e1.symm.trans e3
    cases this
    rw [e2] at e4; cases e4
  have tL1 := tupL t1
  have tL2 := tupL t2
  have t3L : T3 ≠ L := tupL (let ⟨ob, e1, e2, e3⟩ := t3; ⟨ob, e1, e2, e3⟩)
  refine wpAny_pyIter_tuple (s := mk c h t) t3 ?_
  refine ⟨h.objs.size, [h.objs.size, T3], 2, _, _, _, t, fun _ h₁ _ => KO (fun b => b = L) h h₁ ∧ ∃ vo uo pr we pa st, Fn (lwEnv cd L f) hB (fun _ => True) h₁ (lwl sc dr (some (.bool o)) gr vo uo sg be to (some (.bool true)) (some (.ref ud)) pr we pa st), rfl, rfl, Walks.tuple hA _ T3 (Nat.ne_of_lt l3) #[.ref T1, .ref T2], ⟨⟨_, Heap.get?_push_size _ rfl, rfl, rfl⟩, t3.at fun ob e => Heap.get?_push_of_some _ e⟩, ?_, ?_, ?_, ?_, ?_, fun h₁ t₁ ⟨ko, vo, uo, pr, we, pa, st, F1⟩ => k h₁ t₁ vo uo pr we pa st ko F1⟩
  · intro b hb
    rcases List.mem_cons.mp hb with rfl | hb
    · show @Ne Nat _ _; omega
    · rw [List.mem_singleton.mp hb]; exact t3L
  · exact fun i s v Q' st hq => lotg_tupleiter st.1 hq
  · exact ⟨(Keep.push _ _).ko, vo, uo, pr, we, pa, st, F.push _⟩
  · rintro i h₁ t₁ h' t' e ⟨ko, vo, uo, pr, we, pa, st, F1⟩
    exact ⟨ko.newOff noh e, vo, uo, pr, we, pa, st, F1.off (X := fun _ => False) (fun _ _ _ x => x) (fun z => z) (show @LE.le Nat _ hB.objs.size h.objs.size by omega) (show @Ne Nat h.objs.size L by omega) e⟩
  · rintro i h₁ t₁ hi ⟨ko, vo, uo, pr, we, pa, st, F1⟩ v hv
    have go : ∀ {s : Tbl} {z : Lay} {T : Addr}, v = .ref T → IsTup h T #[.ref z.pd, .ref z.dd] → TurnB prog w hG o n tn y ro rd ks ra ll vs L m0 tl s z ud da h →
        wpAny (model prog w) A (assign (dTarget chFor) (lwEnv cd L f) v) (fun _ s₂ => wpAny (model prog w) A (execs (dFor chFor) (lwEnv cd L f)) (Turn c (fun b => b = L) h₁ Q fun h' t' => KO (fun b => b = L) h h' ∧ ∃ vo uo pr we pa st, Fn (lwEnv cd L f) hB (fun _ => True) h' (lwl sc dr (some (.bool o)) gr vo uo sg be to (some (.bool true)) (some (.ref ud)) pr we pa st)) NE s₂) NE (mk c h₁ t₁) := fun e tp C => by
      subst e
      have tp1 : IsTup h₁ _ _ := let ⟨ob, e1, e2, e3⟩ := tp; ⟨ob, ko _ _ (tupL tp) e1, e2, e3⟩
      refine assign2' (c := c) (t := t₁) hA tp1 fun h2 k2 => ?_
      refine st11 (F1.ext k2) fun h3 t3 F3 sb3 => st12 F3 fun h4 t4 F4 sb4 => ?_
      have ko2 : KO (fun b => b = L) h₁ h2 := k2.ko
      have ko3 : KO (fun b => b = L) h₁ h3 := ko2.but sb3 rfl
      have ko4 : KO (fun b => b = L) h₁ h4 := ko3.but sb4 rfl
      exact chk_turn B hA hroom hu hn5 ((C.ko ko).ko ko4) hs F4 fun h5 t5 vo uo pa st ko5 F5 => ⟨h5, t5, rfl, ko4.trans ko5, (ko.trans ko4).trans ko5, _, _, _, _, _, _, F5⟩
    match i, hi, hv with
    | 0, _, hv => exact go (Option.some.inj hv).symm t1 C1
    | 1, _, hv => exact go (Option.some.inj hv).symm t2 C2
end
end Mine
end
section
open PySem PySem.W PyProof.Rows PySem.Calls
set_option maxRecDepth 100000
namespace Mine
local macro_rules | `(tactic| walk_at "mem") => `(tactic| with_reducible (first | exact List.mem_cons_self | (refine List.mem_cons_of_mem _ ?_; walk_at "mem")))
section
variable {prog : Program} {w : World} {A : Around} {c : Cst} {hB hG h h9 : Heap} {t : Nat} {L f D rd ll Pf Pt : Addr} {m0 : Nat} {cd : Value} {K : Frag} {y : GD} {ro : Addr → Nat × Int} {o : Bool} {n : Nat} {tn : Tok} {ks : List (Int × Int)} {ra : Int × Int → Int} {vs : List Value} {p0 ps pt : Array Value}
variable {sc be to gd du pr we pa st sg vo uo dr gr : Option Value} {Q : Flow → Shared → Prop}
theorem lw_S11 {z1 : Lay} {s1 : Tbl} {ud : Addr} {da : Int → Addr} (stk : A.frames = some [lwEnv cd L f]) (hA : A.handled = none) (hroom : A.depth + 10 < recursionLimit) (hu : A.units + 10 < cLine)
    (B2 : LB (hideAll hB [72, Pf, Pt]) K) (T : Tab72 p0 h) (ct : CodeT h 87 Pt pt) (hnf : codeAmong (genPos (SM 10 3)) pt.toList = none) (hPt2 : Pt ≠ 72)
    (x : LwF prog w hG o n tn y ro rd ks ra ll vs L m0 [72, Pf, Pt] h) (ed : EdInv o n y ks ra n 0) (hn5 : n ≤ 5) (hs : ∀ j, j < n → ∃ Bf, leastB ra ks n ⟨[(j : Int)], fun _ => 0⟩ = some Bf)
    (C1 : TurnB prog w hG o n tn y ro rd ks ra ll vs L m0 [72, Pf, Pt] s1 z1 ud da h) (hz : ∀ b, (b = z1.dd ∨ b = z1.pd ∨ z1.row b) ∨ b = ud ∨ (∃ i ∈ rng n, b = da i) → b ≠ 72 ∧ b ≠ Pt)
    (F : Fn (lwEnv cd L f) (hideAll hB [72, Pf, Pt]) (fun _ => True) h (lwl sc dr (some (.bool o)) (some (.ref y.g)) vo uo sg (some (.ref z1.pd)) (some (.ref z1.dd)) (some (.bool true)) (some (.ref ud)) pr we pa st)) (hgb : AllBare c.g)
    (hnn : ∀ u, ¬ NegLoop (rng n) y.nbr y.wt u) (safe : ∀ p w r, prkOf (rng n) y.nbr = p ++ w :: r → WSafe (rng n) (prkOf (rng n) y.nbr) ((foldT y.nbr y.wt (rng n)).runTW (rng n) p) w) (hany : ((rng n).any fun u => ltE ((twRun (rng n) y.nbr y.wt).D u u) (some 0)) = false)
    (heq : ∀ i ∈ rng n, ∀ j ∈ rng n, (twRun (rng n) y.nbr y.wt).D i j = dueF ks ra n i j) (ok : PrOk n ks ra (prkOf (rng n) y.nbr) (twRun (rng n) y.nbr y.wt).K (twRun (rng n) y.nbr y.wt).P)
    (hQ : ∀ h' t' g' vo uo pr we pa st, AllBare g' → KO (fun b => b = L ∨ b = 72 ∨ b = Pt) h h' → (∃ more, h'.get? 72 = some (tabObj (p0 ++ more))) → (∃ more, h'.get? Pt = some (tabObj (pt ++ more))) →
      Fn (lwEnv cd L f) (hideAll hB [72, Pf, Pt]) (fun _ => True) h' (lwl sc dr (some (.bool o)) (some (.ref y.g)) vo uo sg (some (.ref z1.pd)) (some (.ref z1.dd)) (some (.bool true)) (some (.ref ud)) pr we pa st) → Q .next (mk { c with g := g' } h' t')) :
    wpAny (model prog w) A (exec chFor (lwEnv cd L f)) Q NE (mk c h t) := by
  have zL := nlt (show L < h.objs.size from F.loc.lt)
  have h72L : @LT.lt Nat _ 72 L := x.tlt 72 (by simp)
  have hPtL : @LT.lt Nat _ Pt L := x.tlt Pt (by simp)
  refine for_walksC (fun b => b = L) (wpAny_IfExp (isTrue_plain ?_ (by with_unfolding_all rfl)))
  refine nm F (v := .bool true) (by walk_at "mem") (wpAny_truthy_bool ?_)
  rw [if_pos rfl]
  refine Tuple_ (args_cons (Tuple_ (args_cons (nm F (by walk_at "mem") (args_cons (nm F (by walk_at "mem") (args_nil (wpAny_newTuple ?_ (by rw [sizeLine_eq]; show 2 ≤ _; decide)))))))))
  generalize hh1 : h.push { cls := .type "tuple", data := .seq [Value.ref z1.pd, Value.ref z1.dd].toArray } = h1
  have k1 : Keep h h1 := hh1 ▸ Keep.push _ _
  have s1' : h1.objs.size = h.objs.size + 1 := hh1 ▸ Heap.size_push ..
  have T1 : IsTup h1 h.objs.size #[.ref z1.pd, .ref z1.dd] := hh1 ▸ ⟨_, Heap.get?_push_size _ rfl, rfl, _, rfl⟩
  have F1 := F.ext k1
  -- the call
  have x1 := x.keep k1
  have kk0 : Keep (hideAll hB [72, Pf, Pt]) (hideAll h1 [72, Pf, Pt]) := fun p ob e => by
    have nn : p ∉ [72, Pf, Pt] := fun m => by rw [hideAll_none _ m] at e; cases e
    exact hideAll_get _ (F1.keep p ob e) nn
  have G := lw_gr (hB := hB) B2 kk0 x1 ed hn5
  have kB : Keep (hideAll h1 [72, Pf, Pt]) h1 := Keep.hide
  have bs : Bs (hideAll h1 [72, Pf, Pt]) := ⟨B2.bs.G.keep kk0, B2.bs.U.keep kk0, B2.bs.f77.keep kk0, B2.bs.f82.keep kk0⟩
  obtain ⟨m, hns, _⟩ := F1.loc.ns
  have hLb : (hideAll h1 (L :: [72, Pf, Pt])).get? L = none := hideAll_none _ (.head _)
  have kbb : Keep (hideAll h1 (L :: [72, Pf, Pt])) (hideAll h1 [72, Pf, Pt]) := hide_more
  have KB : Below A (hideAll h1 (L :: [72, Pf, Pt])) [lwEnv cd L f] h1 := ⟨stk, fun b ob e => of_hideAll _ e, Heap.FunFrames.cons (L := L) (fun z => nomatch (show ScopeKind.function = ScopeKind.module from z)) rfl hns hLb trivial⟩
  have ⟨o88, pm88, h88, hd88, _⟩ := B2.f88.keep F1.keep
  obtain ⟨e83o, e83t, e83n, e83, d83⟩ := B2.d83
  refine args_cons (Call_ (gname (B2.bs.G.keep F1.keep) (by walk_at "mem") (callWith_def hd88 (args_cons (nm F1 (by walk_at "mem") (args_nil ⟨h88, ?_⟩))))))
  refine tree_spec (p0 := p0) (ps := pt) hA (by omega) bs G kB (Nat.le_of_eq (hideAll_size _ _)) (T.at fun b ob _ e => k1 b ob e) (B2.f88.keep kk0) ⟨e83o, e83t, e83n, kk0 _ _ e83, d83⟩ (hideAll_none _ (.head _)) (hideAll_none _ (by simp)) hPt2 (ct.at fun b ob _ e => k1 b ob e) hnf KB kbb hgb hnn safe hany fun h2 t2 g2 z2 tu hg2 res ko2 t72 tPt htup => ?_
  obtain ⟨ntu, htup⟩ := htup
  have F2 : Fn (lwEnv cd L f) (hideAll hB [72, Pf, Pt]) (fun _ => True) h2 (lwl sc dr (some (.bool o)) (some (.ref y.g)) vo uo sg (some (.ref z1.pd)) (some (.ref z1.dd)) (some (.bool true)) (some (.ref ud)) pr we pa st) :=
    F1.to (fun b ob e1 e2 => ko2 b ob (fun z => by
      have nb : b ∉ [72, Pf, Pt] := fun m => by rw [hideAll_none _ m] at e1; cases e1
      rcases z with z | z
      · exact nb (z ▸ by simp)
      · exact nb (z ▸ by simp)) e2) (fun ob e => ko2 L ob (fun z => by
      rcases z with z | z
      · exact Nat.ne_of_gt h72L z
      · exact Nat.ne_of_gt hPtL z) e) trivial Stb.true
  refine args_nil (wpAny_newTuple ?_ (by rw [sizeLine_eq]; show 2 ≤ _; decide))
  generalize hh3 : h2.push { cls := .type "tuple", data := .seq [Value.ref h.objs.size, Value.ref tu].toArray } = h3
  have k3 : Keep h2 h3 := hh3 ▸ Keep.push _ _
  have T3 : h3.IsTuple h2.objs.size #[.ref h.objs.size, .ref tu] := hh3 ▸ ⟨_, Heap.get?_push_size _ rfl, rfl, _, rfl⟩
  have F3 := F2.ext k3
  have ko3 : KO (fun b => b = 72 ∨ b = Pt) h h3 := fun b ob nb e => k3 b ob (ko2 b ob nb (k1 b ob e))
  have n72 : h.objs.size ≠ 72 := Nat.ne_of_gt (show @LT.lt Nat _ 72 h.objs.size by omega)
  have nPt : h.objs.size ≠ Pt := Nat.ne_of_gt (show @LT.lt Nat _ Pt h.objs.size by omega)
  have x3 : LwF prog w hG o n tn y ro rd ks ra ll vs L m0 [72, Pf, Pt] h3 := LwF.dep h h3 (fun b ob q e => ko3 b ob (fun z => q (by rcases z with z | z <;> simp [z])) e) x
  have u3 := C1.u.at (h' := h3) fun ob e => ko3 _ ob (fun z => by have := hz ud (.inr (.inl rfl)); rcases z with z | z; exact this.1 z; exact this.2 z) e
  have ur3 : ∀ i ∈ rng n, Row prog w RE h3 (da i) (rng n) (dueF ks ra n i) := fun i hi => (C1.ur i hi).at fun ob e => ko3 _ ob (fun z => by have := hz (da i) (.inr (.inr ⟨i, hi, rfl⟩)); rcases z with z | z; exact this.1 z; exact this.2 z) e
  have C1' : TurnB prog w hG o n tn y ro rd ks ra ll vs L m0 [72, Pf, Pt] s1 z1 ud da h3 := { C1 with
    x := x3
    m := Mats.dep h h3 (fun b ob q e => ko3 b ob (fun z => by have := hz b (.inl q); rcases z with z | z; exact this.1 z; exact this.2 z) e) C1.m
    u := u3
    ur := ur3 }
  have C2' : TurnB prog w hG o n tn y ro rd ks ra ll vs L m0 [72, Pf, Pt] (twRun (rng n) y.nbr y.wt) z2 ud da h3 := {
    x := x3
    N := res.hN
    m := Mats.dep h2 h3 (fun b ob _ e => k3 b ob e) res.mats
    low := fun b q => Nat.ne_of_gt (by have := nle (res.low b q); show @LT.lt Nat _ L b; omega)
    u := u3
    ur := ur3
    ne := fun i hi z => by
      have h1 := nle (res.low (z2.dr i) (.inr (.inr (.inl ⟨i, res.hN.symm ▸ hi, rfl⟩))))
      have h2 := nlt (C1.ur i hi).lt
      rw [z] at h1; omega
    uL := C1.uL
    aL := C1.aL
    eq := heq
    ok := res.prk.symm ▸ ok }
  refine wpAny_mono (chk_loop (c := { c with g := g2 }) (t := t2) (pos := default) (elts := default) B2 hA (by omega) (by omega) hn5 C1' C2' hs (let ⟨ob, e1, r⟩ := T1; ⟨ob, k3 _ _ (ko2 _ _ (fun z => by rcases z with z | z; exact n72 z; exact nPt z) e1), r⟩) ⟨_, k3 _ _ htup, rfl, ntu, rfl⟩ T3 F3 fun h4 t4 vo uo pr we pa st ko4 F4 => ?_) (fun _ _ e => ⟨_, e⟩) fun _ _ e => e
  refine hQ h4 t4 g2 vo uo pr we pa st hg2 (fun b ob nb e => ko4 b ob (fun z => nb (.inl z)) (ko3 b ob (fun z => nb (.inr z)) e)) ?_ ?_ F4
  · obtain ⟨more, e⟩ := t72
    exact ⟨more, ko4 _ _ (Nat.ne_of_lt h72L) (k3 _ _ e)⟩
  · obtain ⟨more, e⟩ := tPt
    exact ⟨more, ko4 _ _ (Nat.ne_of_lt hPtL) (k3 _ _ e)⟩
/-- return good -/
theorem lw_S12 (F : Fn (lwEnv cd L f) hB (fun _ => True) h (lwl sc dr (some (.bool o)) gr vo uo sg be to (some (.bool true)) du pr we pa st)) (k : Q (.ret (.bool true)) (mk c h t)) :
    wpAny (model prog w) A (exec (at' (dBody (S 29)) 12) (lwEnv cd L f)) Q NE (mk c h t) :=
  wpAny_Return_some (nm F (by walk_at "mem") k)
end
end Mine
end
section
open PySem PySem.W PyProof.Rows PySem.Calls
set_option maxRecDepth 100000
namespace Mine
local macro_rules | `(tactic| walk_at "mem") => `(tactic| with_reducible (first | exact List.mem_cons_self | (refine List.mem_cons_of_mem _ ?_; walk_at "mem")))
/-- what the plain laws must bring for one graph -/
structure MOK (n : Nat) (ks : List (Int × Int)) (ra : Int × Int → Int) (nbr : Int → List Int) (W : Int → Int → Int) : Prop where
  safe : (∀ u, ¬ NegLoop (rng n) nbr W u) → FwSafe (rng n) nbr W
  bad : FwBad (rng n) nbr W → ((List.range n).any fun j => (leastB ra ks n ⟨[(j : Int)], fun _ => 0⟩).isNone) = true
  good : (∀ u, ¬ NegLoop (rng n) nbr W u) → ((rng n).any fun u => ltE ((fwRun (rng n) nbr W).D u u) (some 0)) = false →
    (∀ j, j < n → ∃ Bf, leastB ra ks n ⟨[(j : Int)], fun _ => 0⟩ = some Bf) ∧
    (∀ i ∈ rng n, ∀ j ∈ rng n, (fwRun (rng n) nbr W).D i j = dueF ks ra n i j) ∧
    PrOk n ks ra (prkOf (rng n) nbr) (fwRun (rng n) nbr W).K (fwRun (rng n) nbr W).P ∧
    (∀ p w r, prkOf (rng n) nbr = p ++ w :: r → WSafe (rng n) (prkOf (rng n) nbr) ((foldT nbr W (rng n)).runTW (rng n) p) w) ∧
    ((rng n).any fun u => ltE ((twRun (rng n) nbr W).D u u) (some 0)) = false ∧
    (∀ i ∈ rng n, ∀ j ∈ rng n, (twRun (rng n) nbr W).D i j = dueF ks ra n i j) ∧
    PrOk n ks ra (prkOf (rng n) nbr) (twRun (rng n) nbr W).K (twRun (rng n) nbr W).P
section
variable {prog : Program} {w : World} {A : Around} {c : Cst} {hB hG h h9 : Heap} {t : Nat} {L f D rd ll Pf Pt : Addr} {m0 : Nat} {cd : Value} {K : Frag} {y : GD} {ro : Addr → Nat × Int} {o : Bool} {n : Nat} {tn : Tok} {ks : List (Int × Int)} {ra : Int × Int → Int} {vs : List Value} {p0 ps pt : Array Value}
variable {sc be to gd du pr we pa st sg vo uo dr gr : Option Value} {Q : Flow → Shared → Prop}
/-- statements 8 to 12 -/
theorem law_end (stk : A.frames = some [lwEnv cd L f]) (hA : A.handled = none) (hroom : A.depth + 10 < recursionLimit) (hu : A.units + 10 < cLine)
    (B : LB hB K) (B2 : LB (hideAll hB [72, Pf, Pt]) K) (T : Tab72 p0 h) (ct : CodeT h 95 Pf ps) (hnf : codeAmong (genPos (SM 11 2)) ps.toList = none) (ct2 : CodeT h 87 Pt pt) (hnf2 : codeAmong (genPos (SM 10 3)) pt.toList = none)
    (hPf2 : Pf ≠ 72) (hPf3 : Pf ≠ 76) (hPt2 : Pt ≠ 72) (hPtf : Pt ≠ Pf) (hPf87 : Pf ≠ 87) (h87 : @LT.lt Nat _ 87 L)
    (x : LwF prog w hG o n tn y ro rd ks ra ll vs L m0 [72, Pf, Pt] h) (ed : EdInv o n y ks ra n 0) (hn5 : n ≤ 5) (mo : MOK n ks ra y.nbr y.wt)
    (F : Fn (lwEnv cd L f) hB (fun _ => True) h (lwl sc dr (some (.bool o)) (some (.ref y.g)) vo uo sg be to gd du pr we pa st)) (hgb : AllBare c.g)
    (hR : ∀ h' t' g', AllBare g' → EndK L Pf Pt p0 ps pt h h' → Q (.ret (.bool true)) (mk { c with g := g' } h' t')) :
    wpAny (model prog w) A (execs (at' (dBody (S 29)) 8 :: at' (dBody (S 29)) 9 :: at' (dBody (S 29)) 10 :: chFor :: at' (dBody (S 29)) 12 :: []) (lwEnv cd L f)) Q NE (mk c h t) := by
  have zL := nlt (show L < h.objs.size from F.loc.lt)
  have h72L : @LT.lt Nat _ 72 L := x.tlt 72 (by simp)
  have hPfL : @LT.lt Nat _ Pf L := x.tlt Pf (by simp)
  have hPtL : @LT.lt Nat _ Pt L := x.tlt Pt (by simp)
  refine wpAny_execs_cons (lw_fw (p0 := p0) (ps := ps) (pt := pt) stk hA hroom hu B2 T ct hnf hPf2 hPf3 ct2.tab hPt2 hPtf x ed hn5 F hgb mo.safe mo.bad (fun h' t' g' hg e => hR h' t' g' hg e) fun hnn hany h1 t1 g1 z1 hg1 res ko1 T1 P1 F1 => ?_)
  obtain ⟨hs, eq1, ok1, safe2, any2, eq2, ok2⟩ := mo.good hnn hany
  have o1 : ∀ b ob, b ∉ [L, 72, Pf, Pt] → h.get? b = some ob → h1.get? b = some ob := fun b ob nb e => ko1 b ob (fun z => nb (by rcases z with z | z | z <;> simp [z])) e
  have x1 : LwF prog w hG o n tn y ro rd ks ra ll vs L m0 [72, Pf, Pt] h1 := LwF.dep h h1 (fun b ob q e => o1 b ob (fun m => q (by simpa using m)) e) x
  have anyN : ((List.range n).any fun j => (leastB ra ks n ⟨[(j : Int)], fun _ => 0⟩).isNone) = false := by
    rw [List.any_eq_false]
    intro j hj
    obtain ⟨Bf, e⟩ := hs j (List.mem_range.mp hj)
    rw [e]; simp
  refine wpAny_execs_cons (lw_S9 (c := { c with g := g1 }) (by omega) x1 anyN F1 fun h2 t2 ko2 F2 => ?_)
  have x2 : LwF prog w hG o n tn y ro rd ks ra ll vs L m0 [72, Pf, Pt] h2 := LwF.dep h1 h2 (fun b ob q e => ko2 b ob (fun z => q (z ▸ .head _)) e) x1
  refine wpAny_execs_cons (lw_S10 (c := { c with g := g1 }) B2 hA x2 hn5 hs F2 fun h3 t3 ud da hud ru rr ko3 F3 => ?_)
  have x3 : LwF prog w hG o n tn y ro rd ks ra ll vs L m0 [72, Pf, Pt] h3 := LwF.dep h2 h3 (fun b ob q e => ko3 b ob (fun z => q (z ▸ .head _)) e) x2
  have z2 := nlt (show L < h2.objs.size from F2.loc.lt)
  have ko13 : KO (fun b => b = L) h1 h3 := ko2.trans ko3
  have T3 : Tab72 p0 h3 := by
    obtain ⟨_, hn3, _⟩ := F1.loc.ns
    exact T1.but hn3 fun b ob nb e => ko13 b ob nb e
  have ct3 : CodeT h3 87 Pt pt := ct2.at fun b ob q e => by
    have nb : b ≠ L ∧ b ≠ 72 ∧ b ≠ Pf := by
      rcases q with rfl | rfl
      · refine ⟨?_, by decide, Ne.symm hPf87⟩
        exact Nat.ne_of_lt h87
      · exact ⟨Nat.ne_of_lt hPtL, hPt2, hPtf⟩
    exact ko13 b ob nb.1 (ko1 b ob (fun z => by rcases z with z | z | z; exact nb.1 z; exact nb.2.1 z; exact nb.2.2 z) e)
  have resL : ∀ b, (b = z1.dd ∨ b = z1.pd ∨ z1.row b) → @LT.lt Nat _ L b := fun b q => by have := nle (res.low b q); show @LT.lt Nat _ L b; omega
  have udL := nle hud
  have daL : ∀ i ∈ rng n, @LT.lt Nat _ L (da i) := fun i hi => by have := nle (rr i hi).1; show @LT.lt Nat _ L (da i); omega
  have C1 : TurnB prog w hG o n tn y ro rd ks ra ll vs L m0 [72, Pf, Pt] (fwRun (rng n) y.nbr y.wt) z1 ud da h3 := {
    x := x3
    N := res.hN
    m := Mats.dep h1 h3 (fun b ob q e => ko13 b ob (Nat.ne_of_gt (resL b q)) e) res.mats
    low := fun b q => Nat.ne_of_gt (resL b q)
    u := ru
    ur := fun i hi => (rr i hi).2
    ne := fun i hi z => by
      have h1 := nle (rr i hi).1
      have hr := (res.mats.drow i (res.hN.symm ▸ hi)).at (h' := h2) fun ob e => ko2 _ ob (Nat.ne_of_gt (resL _ (.inr (.inr (.inl ⟨i, res.hN.symm ▸ hi, rfl⟩))))) e
      have h4 := nlt hr.lt
      rw [z] at h4
      omega
    uL := Nat.ne_of_gt (show @LT.lt Nat _ L ud by omega)
    aL := fun i hi => Nat.ne_of_gt (daL i hi)
    eq := eq1
    ok := res.prk.symm ▸ ok1 }
  refine wpAny_execs_cons (lw_S11 (c := { c with g := g1 }) (p0 := p0) (pt := pt) stk hA hroom hu B2 T3 ct3 hnf2 hPt2 x3 ed hn5 hs C1 (fun b q => ?_) F3 hg1 hnn safe2 any2 eq2 ok2 fun h4 t4 g4 vo4 uo4 pr4 we4 pa4 st4 hg4 ko4 t72 tPt F4 => ?_)
  · have : @LT.lt Nat _ L b := by
      rcases q with q | rfl | ⟨i, hi, rfl⟩
      · exact resL b q
      · omega
      · exact daL i hi
    exact ⟨Nat.ne_of_gt (Nat.lt_trans h72L this), Nat.ne_of_gt (Nat.lt_trans hPtL this)⟩
  refine wpAny_execs_cons (lw_S12 (c := { c with g := g4 }) F4 (hR h4 t4 g4 hg4 ⟨fun b ob nb e => ?_, t72, ?_, tPt, F4.locEx⟩))
  · have nn : b ≠ L ∧ b ≠ 72 ∧ b ≠ Pf ∧ b ≠ Pt := by simpa using nb
    exact ko4 b ob (fun z => by rcases z with z | z | z; exact nn.1 z; exact nn.2.1 z; exact nn.2.2.2 z) (ko13 b ob nn.1 (o1 b ob nb e))
  · obtain ⟨more, e⟩ := P1
    exact ⟨more, ko4 _ _ (fun z => by rcases z with z | z | z; exact Nat.ne_of_lt hPfL z; exact hPf2 z; exact hPtf z.symm) (ko13 _ _ (Nat.ne_of_lt hPfL) e)⟩
end
end Mine
end
section
open PySem PySem.W PyProof.Rows PySem.Calls
set_option maxRecDepth 100000
namespace Mine
local macro_rules | `(tactic| walk_at "mem") => `(tactic| with_reducible (first | exact List.mem_cons_self | (refine List.mem_cons_of_mem _ ?_; walk_at "mem")))
section
variable {prog : Program} {w : World} {A : Around} {c : Cst} {hB hG h h9 : Heap} {t : Nat} {L f D rd ll Pf Pt sa : Addr} {m0 : Nat} {cd : Value} {K : Frag} {vs : List Value} {ns : List Int} {p0 ps pt : Array Value} {Q : Value → Shared → Prop}
theorem law_spec (hfr : A.frames = some []) (hA : A.handled = none) (hroom : A.depth + 20 < recursionLimit) (hu : A.units + 20 < cLine)
    (B : LB h K) (B2 : LB (hideAll h [72, Pf, Pt]) K) (hf : ∃ cd, FnAt h 917 (S 29) "law" .none cd) (T : Tab72 p0 h) (ct : CodeT h 95 Pf ps) (hnf : codeAmong (genPos (SM 11 2)) ps.toList = none) (ct2 : CodeT h 87 Pt pt) (hnf2 : codeAmong (genPos (SM 10 3)) pt.toList = none)
    (hPf2 : Pf ≠ 72) (hPf3 : Pf ≠ 76) (hPt2 : Pt ≠ 72) (hPtf : Pt ≠ Pf) (hPf87 : Pf ≠ 87) (hgb : AllBare c.g)
    (hs : h.IsList sa vs.toArray) (hi : IntsAre vs ns) (hlen : vs.length ≤ 63)
    (mo : ∀ (o : Bool) (n : Nat) (y : GD) ks ra, n ≤ 5 → EdInv o n y ks ra n 0 → (∀ u ∈ rng n, (y.nbr u).Nodup) → MOK n ks ra y.nbr y.wt)
    (hR : ∀ h' t' g', AllBare g' → EndK h.objs.size Pf Pt p0 ps pt h h' → Q (.bool true) (mk { c with g := g' } h' t')) :
    wpAny (model prog w) A (call (.ref 917) [.ref sa]) Q NE (mk c h t) := by
  obtain ⟨cd, hf⟩ := hf
  refine wpAny_noRaise (call_cells (E := NE) B.bs.G hf (by omega) (binds := [("script", .ref sa)]) (fun pm => BindsTo.of_eq (by rfl)) (lwl (some (.ref sa)) none none none none none none none none none none none none none none) fun h0 t0 F0 X => wpAny_noRaise ?_)
  have c1 : h0.IsCell (h.objs.size + 1) none := X.cell "size" _ (by rfl)
  have c2 : h0.IsCell (h.objs.size + 2) none := X.cell "rows" _ (by rfl)
  have c3 : h0.IsCell (h.objs.size + 3) none := X.cell "least" _ (by rfl)
  have h87 := ct2.lt.1
  have hPfl := ct.lt.2
  have hPtl := ct2.lt.2
  have h72l : @LT.lt Nat _ 72 h.objs.size := by obtain ⟨_, e⟩ := T.is; exact Heap.lt_size e
  have e72 := T.is
  show wpAny _ _ (execs (at' (dBody (S 29)) 0 :: at' (dBody (S 29)) 1 :: at' (dBody (S 29)) 2 :: at' (dBody (S 29)) 3 :: at' (dBody (S 29)) 4 :: at' (dBody (S 29)) 5 :: lwOut :: at' (dBody (S 29)) 7 :: at' (dBody (S 29)) 8 :: at' (dBody (S 29)) 9 :: at' (dBody (S 29)) 10 :: chFor :: at' (dBody (S 29)) 12 :: []) _) _ _ _
  have k0 := F0.keep
  have hst : Stb h.objs.size (lwC h.objs.size none none none) := lwC.dep.stb fun z => by rcases z with z | z | z <;> exact absurd z (Nat.ne_of_lt (by omega))
  have F0' := F0.say (P' := lwC h.objs.size none none none) ⟨c1, c2, c3⟩ hst
  have stk : (A.deeper (envC (S 29) "law" cd h.objs.size 917)).frames = some [envC (S 29) "law" cd h.objs.size 917] := by
    show A.frames.map _ = _
    rw [hfr]; rfl
  have hA' : (A.deeper (envC (S 29) "law" cd h.objs.size 917)).handled = none := hA
  have hd : (A.deeper (envC (S 29) "law" cd h.objs.size 917)).depth = A.depth + 1 := rfl
  have hun : (A.deeper (envC (S 29) "law" cd h.objs.size 917)).units = A.units + 3 := rfl
  generalize A.deeper (envC (S 29) "law" cd h.objs.size 917) = A1 at *
  have hroom1 : A1.depth + 10 < recursionLimit := by omega
  have hu1 : A1.units + 10 < cLine := by omega
  obtain ⟨cdu, f905⟩ := B.f905
  generalize hLd : h.objs.size = L at *
  have c3lt : L + 3 < h0.objs.size := by obtain ⟨_, e, _⟩ := c3; exact Heap.lt_size e
  refine wpAny_execs_cons (lw_S0 (lwC.dep.mono fun b q => ?_) hA' (hs.at fun ob e => k0 _ _ e) hi hlen F0' fun h1 t1 D1 ds1 l1 d1 n1 hD1 hDL1 ko1 F1 => ?_)
  · have q' : b ≤ L + 3 := by rcases q with q | q | q <;> (rw [q]; show @LE.le Nat _ _ _; omega)
    exact Nat.lt_of_le_of_lt q' c3lt
  refine wpAny_execs_cons (lw_S1 B.bs.G f905 (by omega) l1 d1 n1 F1 fun h2 t2 D ds l2 d2 n2 hD2 hDL ko2 F2 => ?_)
  have F2' := F2.say (P' := lwP1 L D ds none none none) ⟨F2.inv, l2⟩ (lwP1.stb hDL)
  refine wpAny_execs_cons (lw_S2 hA' d2 n2 hDL F2' fun h3 t3 n tn o hn1 hn5 ko3 F3 => ?_)
  have i3 := F3.inv
  have c3lt3 : L + 3 < h3.objs.size := by obtain ⟨_, e, _⟩ := i3.1.2.2; exact Heap.lt_size e
  have hD3 : D < h3.objs.size := i3.2.lt
  refine wpAny_execs_cons (lw_S3 B hDL hroom1 F3 fun h4 t4 y ro lo4 e1 e2 e3 e4 e5 ko4 F4 => ?_)
  have m4 : h3.objs.size ≤ h4.objs.size := Nat.le_trans (lo4 _ (lab_of F4.inv.2.rg (by decide))) (Nat.le_of_lt (Heap.lt_size F4.inv.2.ins.ob))
  refine wpAny_execs_cons (lw_S4 B hA' hroom1 hn5 hDL c3lt3 hD3 m4 lo4 e1 e2 e3 e4 e5 F4 fun h5 t5 y5 ro5 v5 lo5 f1 f2 f3 f4 f5 m5 F5 => ?_)
  have hDB : @LE.le Nat _ L D := hLd ▸ hD2
  have hex : ∀ b ∈ [72, Pf, Pt], b ≠ D ∧ ∃ o, h.get? b = some o := fun b hb => by
    simp only [List.mem_cons, List.not_mem_nil, or_false] at hb
    rcases hb with rfl | rfl | rfl
    · exact ⟨Nat.ne_of_lt (Nat.lt_of_lt_of_le h72l hDB), let ⟨_, e⟩ := e72; ⟨_, e⟩⟩
    · exact ⟨Nat.ne_of_lt (Nat.lt_of_lt_of_le (hLd ▸ hPfl) hDB), _, ct.tab⟩
    · exact ⟨Nat.ne_of_lt (Nat.lt_of_lt_of_le (hLd ▸ hPtl) hDB), _, ct2.tab⟩
  refine wpAny_execs_cons (lw_S5 B hDL c3lt3 hD3 m5 lo5 [72, Pf, Pt] hex F5 fun h6 t6 rd m6 a6 F6 => ?_)
  refine wpAny_execs_cons (lw_S6 B hA' hroom1 (by omega) a6 m6 d2 n2 hn5 (edinv0 f1 f2 f3 f4 f5) F6 fun h7 t7 y7 ro7 ks ra vo7 uo7 sg7 a7 ed F7 => ?_)
  have hks : ks.length ≤ 900 := by have := ed.l3; omega
  refine wpAny_execs_cons (lw_S7 B hA' hroom1 hu1 a7 hn5 hks F7 fun h8 t8 ll vs8 l8 n8 lv8 hll c8 g8 ar8 F8 => ?_)
  have kh8 : Keep h h8 := F8.keep
  have m7 : h3.objs.size ≤ h7.objs.size := a7.size F7.inv.2.1
  have x8 : LwF prog w h o n tn y7 ro7 rd ks ra ll vs8 L h3.objs.size [72, Pf, Pt] h8 := {
    cells := c8
    lst := l8
    len := n8
    lv := fun j v e => by
      have r := lv8 j v e
      unfold LeastV at r ⊢
      revert r
      cases leastB ra ks n ⟨[(j : Int)], fun _ => 0⟩ with
      | none => exact id
      | some B' => rintro ⟨a, q1, q2, q3⟩; exact ⟨a, q1, by have := nlt q2; show @LT.lt Nat _ (L + 3) a; omega, q3⟩
    lll := hll
    g := g8
    ar := ar8.weak fun b _ z m => z (by
      rcases List.mem_cons.mp m with q | q
      · exact List.mem_append_left _ (q ▸ .head _)
      · exact List.mem_append_right _ q)
    lo := a7.lo
    lm := c3lt3
    tlt := fun b hb => by
      obtain ⟨_, _, e⟩ := hex b hb
      exact hLd ▸ Heap.lt_size e }
  refine law_end (p0 := p0) (ps := ps) (pt := pt) stk hA' hroom1 hu1 B B2 (T.at fun b ob _ e => kh8 b ob e) (ct.at fun b ob _ e => kh8 b ob e) hnf (ct2.at fun b ob _ e => kh8 b ob e) hnf2 hPf2 hPf3 hPt2 hPtf hPf87 (hLd ▸ h87) x8 ed hn5 (mo o n y7 ks ra hn5 ed fun u hu => (g8.inn u (ed.Na.symm ▸ hu)).nodup) F8 hgb fun h9 t9 g9 hg9 ek => ?_
  refine hR h9 t9 g9 hg9 ⟨fun b ob nb e => ek.old b ob nb (kh8 b ob e), ek.t72, ek.tPf, ek.tPt, ek.fr⟩
end
end Mine
end
section
open PySem PySem.W PyProof.Rows PySem.Calls
set_option maxRecDepth 100000
namespace Mine
/-! plain mathematics: weights with inf -/
def leE (a b : Option Int) : Prop := ∀ y, b = some y → ∃ x, a = some x ∧ x ≤ y
theorem leE.refl (a : Option Int) : leE a a := fun y e => ⟨y, e, Int.le_refl _⟩
theorem leE.trans {a b c : Option Int} (h : leE a b) (k : leE b c) : leE a c := fun z e => by
  obtain ⟨y, e1, h1⟩ := k z e
  obtain ⟨x, e2, h2⟩ := h y e1
  exact ⟨x, e2, Int.le_trans h2 h1⟩
theorem ltE_yes {a b : Option Int} (h : ltE a b = true) : ∃ x, a = some x ∧ ∀ y, b = some y → x < y := by
  cases a with
  | none => cases b <;> cases h
  | some x =>
    refine ⟨x, rfl, fun y e => ?_⟩
    subst e
    simpa [ltE] using h
theorem ltE_no {a b : Option Int} (h : ltE a b = false) : leE b a := fun y e => by
  subst e
  cases b with
  | none => cases h
  | some x => exact ⟨x, rfl, by simpa [ltE] using h⟩
theorem ltE_mk {a b : Option Int} {x : Int} (e : a = some x) (h : ∀ y, b = some y → x < y) : ltE a b = true := by
  subst e
  cases b with
  | none => rfl
  | some y => simpa [ltE] using h y rfl
theorem addE_some {a b : Option Int} {z : Int} (h : addE a b = some z) : ∃ x y, a = some x ∧ b = some y ∧ z = x + y := by
  cases a with
  | none => cases b <;> cases h
  | some x =>
    cases b with
    | none => cases h
    | some y => cases h; exact ⟨x, y, rfl, rfl, rfl⟩
theorem leE_add {a a' b b' : Option Int} (h : leE a a') (k : leE b b') : leE (addE a b) (addE a' b') := fun z e => by
  obtain ⟨x, y, e1, e2, rfl⟩ := addE_some e
  obtain ⟨x', f1, g1⟩ := h x e1
  obtain ⟨y', f2, g2⟩ := k y e2
  exact ⟨x' + y', by rw [f1, f2]; rfl, by omega⟩
/-! ways -/
inductive Way (ks : List (Int × Int)) (ra : Int × Int → Int) : Int → Int → Nat → Int → Prop
  | nil (u : Int) : Way ks ra u u 0 0
  | snoc {u v t : Int} {k : Nat} {x : Int} : Way ks ra u v k x → (v, t) ∈ ks → Way ks ra u t (k + 1) (x + ra (v, t))
section
variable {ks : List (Int × Int)} {ra : Int × Int → Int} {u v t : Int} {k m : Nat} {x y : Int}
theorem Way.app (h : Way ks ra u v k x) (g : Way ks ra v t m y) : Way ks ra u t (k + m) (x + y) := by
  induction g with
  | nil => simpa using h
  | snoc _ e ih =>
    have := Way.snoc ih e
    rwa [Int.add_assoc] at this
theorem Way.first (h : Way ks ra u v k x) : (k = 0 ∧ u = v ∧ x = 0) ∨ ∃ b, (u, b) ∈ ks := by
  induction h with
  | nil => exact .inl ⟨rfl, rfl, rfl⟩
  | snoc _ e ih =>
    rcases ih with ⟨_, q, _⟩ | q
    · exact .inr ⟨_, q ▸ e⟩
    · exact .inr q
theorem Way.one (e : (u, v) ∈ ks) : Way ks ra u v 1 (ra (u, v)) := by
  have := Way.snoc (ra := ra) (Way.nil u) e
  rwa [Int.zero_add] at this
end
/-- the graph of a law -/
structure GH (N : List Int) (nbr : Int → List Int) (W : Int → Int → Int) (ks : List (Int × Int)) (ra : Int × Int → Int) : Prop where
  nd : N.Nodup
  len : N.length ≤ 5
  e1 : ∀ a b, (a, b) ∈ ks ↔ (a ∈ N ∧ b ∈ nbr a)
  e2 : ∀ a b, (a, b) ∈ ks → W a b = ra (a, b)
  e3 : ∀ a b, (a, b) ∈ ks → b ∈ N
  bd : ∀ p ∈ ks, -2 ≤ ra p ∧ ra p ≤ 7
  nn : ∀ u ∈ N, (nbr u).Nodup
section
variable {N : List Int} {nbr : Int → List Int} {W : Int → Int → Int} {ks : List (Int × Int)} {ra : Int × Int → Int}
theorem GH.prk (G : GH N nbr W ks ra) {u v : Int} {m : Nat} {x : Int} (h : Way ks ra u v m x) (n : u ≠ v ∨ x ≠ 0) : u ∈ prkOf N nbr := by
  rcases h.first with ⟨_, q1, q2⟩ | ⟨b, q⟩
  · rcases n with n | n
    · exact absurd q1 n
    · exact absurd q2 n
  · have := (G.e1 u b).mp q
    refine List.mem_filter.mpr ⟨this.1, ?_⟩
    cases e : nbr u with
    | nil => rw [e] at this; exact absurd this.2 (by simp)
    | cons => rfl
theorem GH.endN (G : GH N nbr W ks ra) {u v : Int} {m : Nat} {x : Int} (h : Way ks ra u v m x) (hu : u ∈ N) : v ∈ N := by
  cases h with
  | nil => exact hu
  | snoc _ e => exact G.e3 _ _ e
/-! the first tables -/
theorem foldT_at (nbr : Int → List Int) (W : Int → Int → Int) : ∀ (p : List Int) (s : Tbl), p.Nodup → ∀ u,
    (u ∈ p → (p.foldl (stepT nbr W) s).D u = upd (rowU (W u) (nbr u)) u (some 0) ∧ (p.foldl (stepT nbr W) s).K u = nbr u ∧ (p.foldl (stepT nbr W) s).P u = fun _ => u) ∧
    (u ∉ p → (p.foldl (stepT nbr W) s).D u = s.D u ∧ (p.foldl (stepT nbr W) s).K u = s.K u ∧ (p.foldl (stepT nbr W) s).P u = s.P u)
  | [], s, _, u => ⟨fun h => absurd h (by simp), fun _ => ⟨rfl, rfl, rfl⟩⟩
  | a :: p, s, hn, u => by
    have hn' := List.nodup_cons.mp hn
    have ih := foldT_at nbr W p (stepT nbr W s a) hn'.2 u
    refine ⟨fun h => ?_, fun h => ?_⟩
    · by_cases q : u ∈ p
      · exact ih.1 q
      · have e : u = a := by rcases List.mem_cons.mp h with z | z; exact z; exact absurd z q
        subst e
        have := ih.2 q
        simp only [List.foldl_cons]
        rw [this.1, this.2.1, this.2.2]
        simp [stepT, upd]
    · have h1 : u ≠ a := fun e => h (e ▸ .head _)
      have h2 : u ∉ p := fun e => h (.tail _ e)
      have := ih.2 h2
      simp only [List.foldl_cons]
      rw [this.1, this.2.1, this.2.2]
      simp [stepT, upd, h1]
/-- what holds of each step, negative ways or not -/
structure GI (N : List Int) (ks : List (Int × Int)) (ra : Int × Int → Int) (k : Nat) (s : Tbl) : Prop where
  way : ∀ u ∈ N, ∀ v x, s.D u v = some x → v ∈ N ∧ ∃ m, Way ks ra u v m x
  bd : ∀ u ∈ N, ∀ v x, s.D u v = some x → x.natAbs ≤ 7 * 2 ^ k
  ik : ∀ u ∈ N, ∀ v x, s.D u v = some x → v ∈ s.K u ∨ (u = v ∧ x = 0)
  kn : ∀ u ∈ N, (s.K u).Nodup ∧ ∀ v ∈ s.K u, v ∈ N
theorem GI.start (G : GH N nbr W ks ra) : GI N ks ra 0 (foldT nbr W N) := by
  have f := fun u (hu : u ∈ N) => (foldT_at nbr W N tab00 G.nd u).1 hu
  have key : ∀ u ∈ N, ∀ v x, (foldT nbr W N).D u v = some x → (u = v ∧ x = 0) ∨ (u ≠ v ∧ (u, v) ∈ ks ∧ x = ra (u, v)) := fun u hu v x e => by
    have e' : upd (rowU (W u) (nbr u)) u (some 0) v = some x := by rw [← (f u hu).1]; exact e
    unfold upd at e'
    split at e'
    · rename_i q; cases e'; exact .inl ⟨q.symm, rfl⟩
    · rename_i q
      unfold rowU at e'
      split at e'
      · rename_i q2
        cases e'
        have := (G.e1 u v).mpr ⟨hu, q2⟩
        exact .inr ⟨fun z => q z.symm, this, G.e2 _ _ this⟩
      · cases e'
  refine ⟨fun u hu v x e => ?_, fun u hu v x e => ?_, fun u hu v x e => ?_, fun u hu => ?_⟩
  · rcases key u hu v x e with ⟨rfl, rfl⟩ | ⟨_, q, rfl⟩
    · exact ⟨hu, 0, .nil _⟩
    · exact ⟨G.e3 _ _ q, 1, .one q⟩
  · rcases key u hu v x e with ⟨rfl, rfl⟩ | ⟨_, q, rfl⟩
    · simp
    · have := G.bd _ q; omega
  · rcases key u hu v x e with q | ⟨_, q, _⟩
    · exact .inr q
    · exact .inl (by show v ∈ (foldT nbr W N).K u; rw [show (foldT nbr W N).K u = nbr u from (f u hu).2.1]; exact ((G.e1 u v).mp q).2)
  · rw [show (foldT nbr W N).K u = nbr u from (f u hu).2.1]
    exact ⟨G.nn u hu, fun v hv => G.e3 u v ((G.e1 u v).mpr ⟨hu, hv⟩)⟩
theorem GI.mono {k m : Nat} {s : Tbl} (I : GI N ks ra k s) (h : k ≤ m) : GI N ks ra m s :=
  ⟨I.way, fun u hu v x e => Nat.le_trans (I.bd u hu v x e) (Nat.mul_le_mul_left _ (Nat.pow_le_pow_right (by decide) h)), I.ik, I.kn⟩
theorem addk_nodup {l : List Int} {i : Int} (h : l.Nodup) : (addk l i).Nodup := by
  unfold addk
  split
  · exact h
  · rename_i q
    refine List.nodup_append.mpr ⟨h, by simp, fun a ha b hb => ?_⟩
    rw [List.mem_singleton.mp hb]
    exact fun z => q (z ▸ ha)
theorem GI.step {k : Nat} {s : Tbl} {w u v : Int} (I : GI N ks ra k s) (hw : w ∈ N) (hu : u ∈ N) (hv : v ∈ N) : GI N ks ra (k + 1) (s.step w u v) := by
  unfold Tbl.step
  split
  · have pd : ∀ a b x, (s.put w u v).D a b = some x → (a = u ∧ b = v ∧ ∃ y z, s.D u w = some y ∧ s.D w v = some z ∧ x = y + z) ∨ (¬ (a = u ∧ b = v) ∧ s.D a b = some x) := fun a b x e => by
      unfold Tbl.put at e
      simp only [upd] at e
      by_cases q : a = u
      · subst q
        rw [if_pos rfl] at e
        unfold upd at e
        by_cases q2 : b = v
        · rw [if_pos q2] at e
          exact .inl ⟨rfl, q2, addE_some e⟩
        · rw [if_neg q2] at e
          exact .inr ⟨fun z => q2 z.2, e⟩
      · rw [if_neg q] at e
        exact .inr ⟨fun z => q z.1, e⟩
    have pk : ∀ a, (s.put w u v).K a = if a = u then addk (s.K u) v else s.K a := fun a => rfl
    refine ⟨fun a ha b x e => ?_, fun a ha b x e => ?_, fun a ha b x e => ?_, fun a ha => ?_⟩
    · rcases pd a b x e with ⟨rfl, rfl, y, z, h1, h2, rfl⟩ | ⟨_, h⟩
      · obtain ⟨_, m1, w1⟩ := I.way a ha w y h1
        obtain ⟨_, m2, w2⟩ := I.way w hw b z h2
        exact ⟨hv, _, w1.app w2⟩
      · exact I.way a ha b x h
    · have hp : 7 * 2 ^ (k + 1) = 7 * 2 ^ k + 7 * 2 ^ k := by rw [Nat.pow_succ]; omega
      rcases pd a b x e with ⟨rfl, rfl, y, z, h1, h2, rfl⟩ | ⟨_, h⟩
      · have b1 := I.bd a ha w y h1
        have b2 := I.bd w hw b z h2
        omega
      · have b1 := I.bd a ha b x h
        omega
    · rw [pk]
      rcases pd a b x e with ⟨rfl, rfl, y, z, h1, h2, rfl⟩ | ⟨_, h⟩
      · rw [if_pos rfl]; exact .inl (addk_mem.mpr (.inr rfl))
      · rcases I.ik a ha b x h with q | q
        · refine .inl ?_
          split
          · rename_i z; exact addk_mem.mpr (.inl (z ▸ q))
          · exact q
        · exact .inr q
    · rw [pk]
      split
      · rename_i z; subst z
        exact ⟨addk_nodup (I.kn a ha).1, fun b hb => by rcases addk_mem.mp hb with q | rfl; exact (I.kn a ha).2 b q; exact hv⟩
      · exact I.kn a ha
  · exact I.mono (Nat.le_succ k)
theorem GI.runV {s : Tbl} {w u : Int} (hw : w ∈ N) (hu : u ∈ N) : ∀ (p : List Int) {k : Nat} {s : Tbl}, (∀ v ∈ p, v ∈ N) → GI N ks ra k s → GI N ks ra (k + p.length) (s.runV w u p)
  | [], _, _, _, I => I
  | v :: p, k, s, h, I => by
    have := GI.runV (s := s) hw hu p (fun x m => h x (.tail _ m)) (I.step hw hu (h v (.head _)))
    simp only [List.length_cons]
    rw [show k + (p.length + 1) = k + 1 + p.length by omega]
    exact this
theorem GI.runU {w : Int} (hw : w ∈ N) : ∀ (p : List Int) {k : Nat} {s : Tbl}, (∀ v ∈ p, v ∈ N) → GI N ks ra k s → GI N ks ra (k + p.length * N.length) (Tbl.runU N s w p)
  | [], _, _, _, I => I.mono (Nat.le_add_right _ _)
  | v :: p, k, s, h, I => by
    have := GI.runU hw p (fun x m => h x (.tail _ m)) (GI.runV (s := s) hw (h v (.head _)) N (fun _ m => m) I)
    simp only [List.length_cons]
    rw [show k + (p.length + 1) * N.length = k + N.length + p.length * N.length by rw [Nat.succ_mul]; omega]
    exact this
theorem GI.runW : ∀ (p : List Int) {k : Nat} {s : Tbl}, (∀ v ∈ p, v ∈ N) → GI N ks ra k s → GI N ks ra (k + p.length * (N.length * N.length)) (Tbl.runW N s p)
  | [], _, _, _, I => I.mono (Nat.le_add_right _ _)
  | v :: p, k, s, h, I => by
    have := GI.runW p (fun x m => h x (.tail _ m)) (GI.runU (h v (.head _)) N (fun _ m => m) I)
    simp only [List.length_cons]
    rw [show k + (p.length + 1) * (N.length * N.length) = k + N.length * N.length + p.length * (N.length * N.length) by rw [Nat.succ_mul]; omega]
    exact this
theorem nodup_le : ∀ {l m : List Int}, l.Nodup → (∀ x ∈ l, x ∈ m) → l.length ≤ m.length
  | [], m, _, _ => Nat.zero_le _
  | a :: l, m, hn, h => by
    have hn' := List.nodup_cons.mp hn
    have ha := h a (.head _)
    have := nodup_le (l := l) (m := m.erase a) hn'.2 fun x hx => (List.mem_erase_of_ne (fun z : x = a => hn'.1 (z ▸ hx))).mpr (h x (.tail _ hx))
    rw [List.length_erase_of_mem ha] at this
    have := List.length_pos_of_mem ha
    simp only [List.length_cons]; omega
theorem GI.safe (G : GH N nbr W ks ra) {k : Nat} {s : Tbl} {w u v : Int} (I : GI N ks ra k s) (hk : k ≤ 1000) (hw : w ∈ N) (hu : u ∈ N) : s.Safe (prkOf N nbr) w u v := by
  have fit : ∀ a ∈ N, ∀ b, Fits (s.D a b) := fun a ha b x e => by
    have h1 := I.bd a ha b x e
    have h2 : 2 ^ k ≤ 2 ^ 1000 := Nat.pow_le_pow_right (by decide) hk
    have h3 : 7 * 2 ^ 1000 < 2 ^ 1023 := by decide +kernel
    omega
  refine ⟨fit u hu w, fit w hw v, fun h => ?_⟩
  obtain ⟨z, e, hz⟩ := ltE_yes h
  obtain ⟨x, y, e1, e2, rfl⟩ := addE_some e
  obtain ⟨_, m1, w1⟩ := I.way u hu w x e1
  obtain ⟨_, m2, w2⟩ := I.way w hw v y e2
  refine ⟨?_, ?_, ?_, ?_⟩
  · by_cases q : u = w
    · subst q
      exact G.prk w1 (.inr fun z => by have := hz y e2; omega)
    · exact G.prk w1 (.inl q)
  · by_cases q : w = v
    · subst q
      exact G.prk w2 (.inr fun z => by have := hz x e1; omega)
    · exact G.prk w2 (.inl q)
  · rcases I.ik w hw v y e2 with q | ⟨q1, q2⟩
    · exact q
    · subst q1; have := hz x e1; omega
  · have := nodup_le (I.kn u hu).1 (I.kn u hu).2
    have := G.len
    omega
theorem fw_safe (G : GH N nbr W ks ra) : FwSafe N nbr W := fun pw w rw e1 pu u ru e2 p v r e3 => by
  have hw : w ∈ N := e1 ▸ List.mem_append_right _ (.head _)
  have hu : u ∈ N := e2 ▸ List.mem_append_right _ (.head _)
  have l := G.len
  have l1 : pw.length ≤ 5 := by have := congrArg List.length e1; simp at this; omega
  have l2 : pu.length ≤ 5 := by have := congrArg List.length e2; simp at this; omega
  have l3 : p.length ≤ 5 := by have := congrArg List.length e3; simp at this; omega
  have I := GI.runV (s := Tbl.runU N (Tbl.runW N (foldT nbr W N) pw) w pu) hw hu p (fun x hx => e3 ▸ List.mem_append_left _ hx) (GI.runU hw pu (fun x hx => e2 ▸ List.mem_append_left _ hx) (GI.runW pw (fun x hx => e1 ▸ List.mem_append_left _ hx) (GI.start G)))
  refine I.safe G ?_ hw hu
  have h1 : N.length * N.length ≤ 5 * 5 := Nat.mul_le_mul l l
  have h2 : pw.length * (N.length * N.length) ≤ 5 * (5 * 5) := Nat.mul_le_mul l1 h1
  have h3 : pu.length * N.length ≤ 5 * 5 := Nat.mul_le_mul l2 l
  omega
end
end Mine
end
section
open PySem PySem.W PyProof.Rows PySem.Calls
set_option maxRecDepth 100000
namespace Mine
/-- a stage of w in part done: at the pairs in dn the improvements stand, elsewhere all is as it was -/
structure Part (s : Tbl) (w : Int) (dn : Int → Int → Prop) (c : Tbl) : Prop where
  yes : ∀ u v, dn u v → s.imp w u v = true → c.D u v = addE (s.D u w) (s.D w v) ∧ c.P u v = s.P w v
  no : ∀ u v, (¬ dn u v ∨ s.imp w u v = false) → c.D u v = s.D u v ∧ c.P u v = s.P u v
  K : ∀ u v, v ∈ c.K u ↔ v ∈ s.K u ∨ (dn u v ∧ s.imp w u v = true)
  nd : ∀ u, (s.K u).Nodup → (c.K u).Nodup
section
variable {s c : Tbl} {w : Int} {dn dn' : Int → Int → Prop}
theorem Part.start (s : Tbl) (w : Int) : Part s w (fun _ _ => False) s :=
  ⟨fun _ _ h => h.elim, fun _ _ _ => ⟨rfl, rfl⟩, fun _ _ => ⟨.inl, fun h => h.elim id fun z => z.1.elim⟩, fun _ h => h⟩
theorem Part.more (p : Part s w dn c) (h : ∀ u v, dn u v → dn' u v) (k : ∀ u v, dn' u v → s.imp w u v = true → dn u v) : Part s w dn' c :=
  ⟨fun u v d i => p.yes u v (k u v d i) i, fun u v d => p.no u v (by
    rcases d with d | d
    · exact .inl fun z => d (h u v z)
    · exact .inr d), fun u v => (p.K u v).trans ⟨fun z => z.imp id fun z => ⟨h u v z.1, z.2⟩, fun z => z.imp id fun z => ⟨k u v z.1 z.2, z.2⟩⟩, p.nd⟩
theorem addE_zero (x : Option Int) : addE x (some 0) = x := by
  cases x with
  | none => rfl
  | some a => show some (a + 0) = some a; rw [Int.add_zero]
theorem zero_addE (x : Option Int) : addE (some 0) x = x := by
  cases x with
  | none => rfl
  | some a => show some (0 + a) = some a; rw [Int.zero_add]
theorem ltE_self (x : Option Int) : ltE x x = false := by
  cases x with
  | none => rfl
  | some a => simp [ltE]
theorem imp_col (h0 : s.D w w = some 0) (u : Int) : s.imp w u w = false := by
  unfold Tbl.imp; rw [h0, addE_zero]; exact ltE_self _
theorem imp_row (h0 : s.D w w = some 0) (v : Int) : s.imp w w v = false := by
  unfold Tbl.imp; rw [h0, zero_addE]; exact ltE_self _
theorem Part.colD (p : Part s w dn c) (h0 : s.D w w = some 0) (u : Int) : c.D u w = s.D u w := (p.no u w (.inr (imp_col h0 u))).1
theorem Part.rowD (p : Part s w dn c) (h0 : s.D w w = some 0) (v : Int) : c.D w v = s.D w v ∧ c.P w v = s.P w v := p.no w v (.inr (imp_row h0 v))
theorem Part.impEq (p : Part s w dn c) (h0 : s.D w w = some 0) {u v : Int} (h : ¬ dn u v) : c.imp w u v = s.imp w u v := by
  unfold Tbl.imp
  rw [p.colD h0, (p.rowD h0 v).1, (p.no u v (.inl h)).1]
theorem Part.put (p : Part s w dn c) (h0 : s.D w w = some 0) {u v : Int} (hi : s.imp w u v = true) : Part s w (fun a b => dn a b ∨ (a = u ∧ b = v)) (c.put w u v) := by
  have pD : ∀ a b, (c.put w u v).D a b = if a = u ∧ b = v then addE (s.D u w) (s.D w v) else c.D a b := fun a b => by
    unfold Tbl.put
    simp only [upd]
    by_cases q : a = u
    · subst q
      rw [if_pos rfl]
      unfold upd
      by_cases q2 : b = v
      · rw [if_pos q2, if_pos ⟨rfl, q2⟩, p.colD h0, (p.rowD h0 v).1]
      · rw [if_neg q2, if_neg (fun z => q2 z.2)]
    · rw [if_neg q, if_neg (fun z => q z.1)]
  have pP : ∀ a b, (c.put w u v).P a b = if a = u ∧ b = v then s.P w v else c.P a b := fun a b => by
    unfold Tbl.put
    simp only [upd]
    by_cases q : a = u
    · subst q
      rw [if_pos rfl]
      unfold upd
      by_cases q2 : b = v
      · rw [if_pos q2, if_pos ⟨rfl, q2⟩, (p.rowD h0 v).2]
      · rw [if_neg q2, if_neg (fun z => q2 z.2)]
    · rw [if_neg q, if_neg (fun z => q z.1)]
  have pK : ∀ a, (c.put w u v).K a = if a = u then addk (c.K u) v else c.K a := fun a => rfl
  refine ⟨fun a b d i => ?_, fun a b d => ?_, fun a b => ?_, fun a h => ?_⟩
  · rw [pD, pP]
    by_cases q : a = u ∧ b = v
    · rw [if_pos q, if_pos q, q.1, q.2]; exact ⟨rfl, rfl⟩
    · rw [if_neg q, if_neg q]
      exact p.yes a b (d.resolve_right q) i
  · have q : ¬ (a = u ∧ b = v) := fun q => by
      rcases d with d | d
      · exact d (.inr q)
      · rw [q.1, q.2, hi] at d; cases d
    rw [pD, pP, if_neg q, if_neg q]
    exact p.no a b (by
      rcases d with d | d
      · exact .inl fun z => d (.inl z)
      · exact .inr d)
  · rw [pK]
    split
    · rename_i q
      subst q
      rw [addk_mem, p.K]
      constructor
      · rintro ((z | z) | z)
        · exact .inl z
        · exact .inr ⟨.inl z.1, z.2⟩
        · exact .inr ⟨.inr ⟨rfl, z⟩, z ▸ hi⟩
      · rintro (z | ⟨z | z, i⟩)
        · exact .inl (.inl z)
        · exact .inl (.inr ⟨z, i⟩)
        · exact .inr z.2
    · rename_i q
      rw [p.K]
      constructor
      · rintro (z | z)
        · exact .inl z
        · exact .inr ⟨.inl z.1, z.2⟩
      · rintro (z | ⟨z | z, i⟩)
        · exact .inl z
        · exact .inr ⟨z, i⟩
        · exact absurd z.1 q
  · rw [pK]
    split
    · rename_i q; subst q; exact addk_nodup (p.nd a h)
    · exact p.nd a h
theorem Part.step (p : Part s w dn c) (h0 : s.D w w = some 0) {u v : Int} (h : ¬ dn u v) : Part s w (fun a b => dn a b ∨ (a = u ∧ b = v)) (c.step w u v) := by
  unfold Tbl.step
  rw [p.impEq h0 h]
  split
  · rename_i hi; exact p.put h0 hi
  · rename_i hi
    exact p.more (fun _ _ z => .inl z) fun a b z i => z.resolve_right fun q => hi (by rw [← q.1, ← q.2]; exact i)
theorem Part.runV (h0 : s.D w w = some 0) {u : Int} : ∀ (q : List Int) {dn : Int → Int → Prop} {c : Tbl}, q.Nodup → (∀ v ∈ q, ¬ dn u v) → Part s w dn c → Part s w (fun a b => dn a b ∨ (a = u ∧ b ∈ q)) (c.runV w u q)
  | [], dn, c, _, _, p => p.more (fun _ _ z => .inl z) fun a b z _ => z.resolve_right fun y => absurd y.2 (by simp)
  | v :: q, dn, c, hn, hd, p => by
    have hn' := List.nodup_cons.mp hn
    have := Part.runV h0 q (dn := fun a b => dn a b ∨ (a = u ∧ b = v)) hn'.2 (fun x hx z => by
      rcases z with z | z
      · exact hd x (.tail _ hx) z
      · exact hn'.1 (z.2 ▸ hx)) (p.step h0 (hd v (.head _)))
    refine this.more (fun a b z => ?_) (fun a b z _ => ?_)
    · rcases z with (z | z) | z
      · exact .inl z
      · exact .inr ⟨z.1, z.2 ▸ .head _⟩
      · exact .inr ⟨z.1, .tail _ z.2⟩
    · rcases z with z | ⟨z1, z2⟩
      · exact .inl (.inl z)
      · rcases List.mem_cons.mp z2 with z2 | z2
        · exact .inl (.inr ⟨z1, z2⟩)
        · exact .inr ⟨z1, z2⟩
theorem Part.runU {N : List Int} (hN : N.Nodup) (h0 : s.D w w = some 0) : ∀ (q : List Int) {dn : Int → Int → Prop} {c : Tbl}, q.Nodup → (∀ u ∈ q, ∀ v, ¬ dn u v) → Part s w dn c → Part s w (fun a b => dn a b ∨ (a ∈ q ∧ b ∈ N)) (Tbl.runU N c w q)
  | [], dn, c, _, _, p => p.more (fun _ _ z => .inl z) fun a b z _ => z.resolve_right fun y => absurd y.1 (by simp)
  | u :: q, dn, c, hn, hd, p => by
    have hn' := List.nodup_cons.mp hn
    have := Part.runU hN h0 q (dn := fun a b => dn a b ∨ (a = u ∧ b ∈ N)) hn'.2 (fun x hx v z => by
      rcases z with z | z
      · exact hd x (.tail _ hx) v z
      · exact hn'.1 (z.1 ▸ hx)) (p.runV h0 N hN fun v _ => hd u (.head _) v)
    refine this.more (fun a b z => ?_) (fun a b z _ => ?_)
    · rcases z with (z | z) | z
      · exact .inl z
      · exact .inr ⟨z.1 ▸ .head _, z.2⟩
      · exact .inr ⟨.tail _ z.1, z.2⟩
    · rcases z with z | ⟨z1, z2⟩
      · exact .inl (.inl z)
      · rcases List.mem_cons.mp z1 with z1 | z1
        · exact .inl (.inr ⟨z1, z2⟩)
        · exact .inr ⟨z1, z2⟩
/-- a whole stage -/
abbrev Stage (N : List Int) (s : Tbl) (w : Int) (c : Tbl) : Prop := Part s w (fun a b => a ∈ N ∧ b ∈ N) c
theorem fw_stage {N : List Int} (hN : N.Nodup) (h0 : s.D w w = some 0) : Stage N s w (Tbl.runU N s w N) :=
  (Part.runU hN h0 N (dn := fun _ _ => False) hN (fun _ _ _ z => z) (Part.start s w)).more (fun a b z => z.resolve_left id) fun a b z _ => .inr z
/-- the weights only fall -/
theorem step_le (s : Tbl) (w u v a b : Int) : leE ((s.step w u v).D a b) (s.D a b) := by
  unfold Tbl.step
  split
  · rename_i hi
    unfold Tbl.put
    simp only [upd]
    by_cases q : a = u
    · subst q
      rw [if_pos rfl]
      unfold upd
      by_cases q2 : b = v
      · subst q2
        rw [if_pos rfl]
        obtain ⟨x, e, h⟩ := ltE_yes hi
        exact fun y e2 => ⟨x, e, Int.le_of_lt (h y e2)⟩
      · rw [if_neg q2]; exact leE.refl _
    · rw [if_neg q]; exact leE.refl _
  · exact leE.refl _
theorem runV_le (w u a b : Int) : ∀ (q : List Int) (s : Tbl), leE ((s.runV w u q).D a b) (s.D a b)
  | [], s => leE.refl _
  | v :: q, s => (runV_le w u a b q (s.step w u v)).trans (step_le s w u v a b)
theorem runU_le (N : List Int) (w a b : Int) : ∀ (q : List Int) (s : Tbl), leE ((Tbl.runU N s w q).D a b) (s.D a b)
  | [], s => leE.refl _
  | u :: q, s => (runU_le N w a b q (s.runV w u N)).trans (runV_le w u a b N s)
theorem runW_le (N : List Int) (a b : Int) : ∀ (q : List Int) (s : Tbl), leE ((Tbl.runW N s q).D a b) (s.D a b)
  | [], s => leE.refl _
  | w :: q, s => (runW_le N a b q (Tbl.runU N s w N)).trans (runU_le N w a b N s)
end
/-- what stands between the stages; S: the nodes that are done -/
structure SI (N : List Int) (ks : List (Int × Int)) (ra : Int × Int → Int) (S : Int → Prop) (s : Tbl) : Prop where
  d0 : ∀ u ∈ N, s.D u u = some 0
  ed : ∀ a b, (a, b) ∈ ks → leE (s.D a b) (some (ra (a, b)))
  tr : ∀ q ∈ N, S q → ∀ a ∈ N, ∀ b ∈ N, leE (s.D a b) (addE (s.D a q) (s.D q b))
section
variable {N : List Int} {nbr : Int → List Int} {W : Int → Int → Int} {ks : List (Int × Int)} {ra : Int × Int → Int} {S : Int → Prop} {s c : Tbl} {w : Int}
theorem SI.start (G : GH N nbr W ks ra) (hl : ∀ u, ¬ NegLoop N nbr W u) : SI N ks ra (fun _ => False) (foldT nbr W N) := by
  have f := fun u (hu : u ∈ N) => ((foldT_at nbr W N tab00 G.nd u).1 hu).1
  refine ⟨fun u hu => ?_, fun a b e => ?_, fun _ _ h => h.elim⟩
  · show (foldT nbr W N).D u u = _
    rw [show (foldT nbr W N).D u = _ from f u hu]; simp [upd]
  · have h := (G.e1 a b).mp e
    rw [show (foldT nbr W N).D a = _ from f a h.1]
    by_cases q : b = a
    · subst q
      simp only [upd, if_pos]
      intro y e1
      cases e1
      refine ⟨0, rfl, ?_⟩
      rw [← G.e2 _ _ e]
      exact Int.not_lt.mp fun z => hl b ⟨h.1, h.2, z⟩
    · simp only [upd, if_neg q]
      unfold rowU
      rw [if_pos h.2, G.e2 _ _ e]; exact leE.refl _
/-- both cases of a pair after a stage -/
theorem Part.cases (p : Stage N s w c) {a b : Int} (ha : a ∈ N) (hb : b ∈ N) : (s.imp w a b = true ∧ c.D a b = addE (s.D a w) (s.D w b)) ∨ (s.imp w a b = false ∧ c.D a b = s.D a b) := by
  cases e : s.imp w a b with
  | true => exact .inl ⟨rfl, (p.yes a b ⟨ha, hb⟩ e).1⟩
  | false => exact .inr ⟨rfl, (p.no a b (.inr e)).1⟩
theorem Part.le (p : Stage N s w c) (h0 : s.D w w = some 0) (a b : Int) : leE (c.D a b) (s.D a b) := by
  by_cases q : (a ∈ N ∧ b ∈ N) ∧ s.imp w a b = true
  · rw [(p.yes a b q.1 q.2).1]
    obtain ⟨x, e, h⟩ := ltE_yes q.2
    exact fun y e2 => ⟨x, e, Int.le_of_lt (h y e2)⟩
  · rw [(p.no a b (by
      by_cases z : a ∈ N ∧ b ∈ N
      · exact .inr (by cases e : s.imp w a b; rfl; exact absurd ⟨z, e⟩ q)
      · exact .inl z)).1]
    exact leE.refl _
theorem Part.leVia (p : Stage N s w c) {a b : Int} (ha : a ∈ N) (hb : b ∈ N) : leE (c.D a b) (addE (s.D a w) (s.D w b)) := by
  rcases p.cases ha hb with ⟨_, e⟩ | ⟨i, e⟩
  · rw [e]; exact leE.refl _
  · rw [e]; exact ltE_no i
theorem addE_assoc (a b c : Option Int) : addE (addE a b) c = addE a (addE b c) := by
  cases a <;> cases b <;> cases c <;> simp [addE, Int.add_assoc]
theorem SI.stage (I : SI N ks ra S s) (p : Stage N s w c) (hw : w ∈ N) (d0 : ∀ u ∈ N, c.D u u = some 0) : SI N ks ra (fun q => S q ∨ q = w) c := by
  have h0 := I.d0 w hw
  refine ⟨d0, fun a b e => (p.le h0 a b).trans (I.ed a b e), fun q hq hS a ha b hb => ?_⟩
  by_cases e : q = w
  · subst e
    rw [p.colD h0, (p.rowD h0 b).1]
    exact p.leVia ha hb
  · have hS := hS.resolve_right e
    have via := p.leVia ha hb
    -- the four cases
    have ww : leE (s.D w w) (addE (s.D w q) (s.D q w)) := I.tr q hq hS w hw w hw
    rcases p.cases ha hq with ⟨_, e1⟩ | ⟨_, e1⟩ <;> rcases p.cases hq hb with ⟨_, e2⟩ | ⟨_, e2⟩ <;> rw [e1, e2]
    · have h1 : leE (addE (s.D a w) (s.D w b)) (addE (addE (s.D a w) (s.D w q)) (addE (s.D q w) (s.D w b))) := by
        have : addE (addE (s.D a w) (s.D w q)) (addE (s.D q w) (s.D w b)) = addE (s.D a w) (addE (addE (s.D w q) (s.D q w)) (s.D w b)) := by
          rw [addE_assoc, ← addE_assoc (s.D w q)]
        rw [this]
        refine leE_add (leE.refl _) ?_
        have h2 := leE_add ww (leE.refl (s.D w b))
        rwa [h0, zero_addE] at h2
      exact via.trans h1
    · refine via.trans ?_
      rw [addE_assoc]
      exact leE_add (leE.refl _) (I.tr q hq hS w hw b hb)
    · refine via.trans ?_
      rw [← addE_assoc]
      exact leE_add (I.tr q hq hS a ha w hw) (leE.refl _)
    · exact (p.le h0 a b).trans (I.tr q hq hS a ha b hb)
theorem SI.weak {S' : Int → Prop} (I : SI N ks ra S s) (h : ∀ q, S' q → S q) : SI N ks ra S' s := ⟨I.d0, I.ed, fun q hq hS => I.tr q hq (h q hS)⟩
/-- at the end: no way is shorter -/
theorem SI.lower (G : GH N nbr W ks ra) (I : SI N ks ra S s) (hS : ∀ q ∈ N, S q) {u v : Int} {m : Nat} {x : Int} (h : Way ks ra u v m x) (hu : u ∈ N) : leE (s.D u v) (some x) := by
  induction h with
  | nil => rw [I.d0 _ hu]; exact leE.refl _
  | snoc h e ih =>
    have hv := G.endN h hu
    have ht := G.e3 _ _ e
    refine (I.tr _ hv (hS _ hv) _ hu _ ht).trans ?_
    exact leE_add ih (I.ed _ _ e)
end
end Mine
end
section
open PySem PySem.W PyProof.Rows PySem.Calls
set_option maxRecDepth 100000
namespace Mine
/-- no closed way weighs less than 0 -/
def NN (ks : List (Int × Int)) (ra : Int × Int → Int) : Prop := ∀ u m x, Way ks ra u u m x → 0 ≤ x
section
variable {N : List Int} {nbr : Int → List Int} {W : Int → Int → Int} {ks : List (Int × Int)} {ra : Int × Int → Int} {S : Int → Prop} {s c : Tbl} {w : Int}
theorem diag0 {q : List Int} (I : SI N ks ra S s) (hf : ∀ u ∈ N, ltE ((Tbl.runW N (Tbl.runU N s w N) q).D u u) (some 0) = false) : ∀ u ∈ N, (Tbl.runU N s w N).D u u = some 0 := fun u hu => by
  obtain ⟨x, e1, h1⟩ := runU_le N w u u N s 0 (I.d0 u hu)
  obtain ⟨y, e2, h2⟩ := runW_le N u u q (Tbl.runU N s w N) x e1
  have h3 := hf u hu
  rw [e2] at h3
  have : ¬ y < 0 := by simpa [ltE] using h3
  rw [e1]
  congr 1
  omega
theorem fw_runs (hN : N.Nodup) : ∀ (q : List Int) {S : Int → Prop} {s : Tbl}, (∀ w ∈ q, w ∈ N) → SI N ks ra S s → (∀ u ∈ N, ltE ((Tbl.runW N s q).D u u) (some 0) = false) → SI N ks ra (fun a => S a ∨ a ∈ q) (Tbl.runW N s q)
  | [], S, s, _, I, _ => I.weak fun a z => z.resolve_right (by simp)
  | w :: q, S, s, h, I, hf => by
    have hw := h w (.head _)
    have p := fw_stage hN (I.d0 w hw)
    have := fw_runs hN q (fun x hx => h x (.tail _ hx)) (I.stage p hw (diag0 I hf)) hf
    exact this.weak fun a z => by
      rcases z with z | z
      · exact .inl (.inl z)
      · rcases List.mem_cons.mp z with z | z
        · exact .inl (.inr z)
        · exact .inr z
theorem fw_nn (G : GH N nbr W ks ra) (hl : ∀ u, ¬ NegLoop N nbr W u) (hf : (N.any fun u => ltE ((fwRun N nbr W).D u u) (some 0)) = false) : NN ks ra := fun u m x h => by
  have hf' : ∀ u ∈ N, ltE ((Tbl.runW N (foldT nbr W N) N).D u u) (some 0) = false := fun u hu => by
    exact Bool.eq_false_iff.mpr (List.any_eq_false.mp hf u hu)
  have I := fw_runs G.nd N (fun _ h => h) (SI.start G hl) hf'
  rcases h.first with ⟨_, _, rfl⟩ | ⟨b, e⟩
  · exact Int.le_refl _
  · have hu := ((G.e1 u b).mp e).1
    obtain ⟨y, e1, h1⟩ := I.lower G (fun q hq => .inr hq) h hu x rfl
    rw [I.d0 u hu] at e1
    cases e1
    exact h1
abbrev rowF (s : Tbl) (u : Int) : Int → Option Int := fun v => if v ∈ s.K u then some (s.P u v) else none
/-- what stands between the stages where no closed way weighs less than 0 -/
structure SJ (N : List Int) (ks : List (Int × Int)) (ra : Int × Int → Int) (S : Int → Prop) (s : Tbl) : Prop where
  way : ∀ u ∈ N, ∀ v x, s.D u v = some x → v ∈ N ∧ ∃ m, Way ks ra u v m x
  ik : ∀ u ∈ N, ∀ v x, s.D u v = some x → u ≠ v → v ∈ s.K u
  kd : ∀ u ∈ N, (s.K u).Nodup ∧ ∀ v ∈ s.K u, v ∈ N
  pc : ∀ u ∈ N, ∀ v ∈ s.K u, v ≠ u → (s.P u v, v) ∈ ks ∧ leE (addE (s.D u (s.P u v)) (some (ra (s.P u v, v)))) (s.D u v) ∧ (s.P u v = u ∨ S (s.P u v)) ∧ ∃ x, s.D u v = some x
  ch : ∀ u ∈ N, ∀ v ∈ s.K u, v ≠ u → ∃ ns, Back (rowF s u) u v ns
theorem SJ.start (G : GH N nbr W ks ra) : SJ N ks ra (fun _ => False) (foldT nbr W N) := by
  have I := GI.start G
  have f := fun u (hu : u ∈ N) => (foldT_at nbr W N tab00 G.nd u).1 hu
  have fK : ∀ u ∈ N, (foldT nbr W N).K u = nbr u := fun u hu => (f u hu).2.1
  have fP : ∀ u ∈ N, ∀ v, (foldT nbr W N).P u v = u := fun u hu v => by rw [show (foldT nbr W N).P u = _ from (f u hu).2.2]
  have fD : ∀ u ∈ N, ∀ v, (foldT nbr W N).D u v = if v = u then some 0 else if v ∈ nbr u then some (W u v) else none := fun u hu v => by
    rw [show (foldT nbr W N).D u = _ from (f u hu).1]; rfl
  refine ⟨I.way, fun u hu v x e n => (I.ik u hu v x e).resolve_right fun z => n z.1, I.kn, fun u hu v hv n => ?_, fun u hu v hv n => ?_⟩
  · have hv' : v ∈ nbr u := fK u hu ▸ hv
    have e := (G.e1 u v).mpr ⟨hu, hv'⟩
    rw [fP u hu, fD u hu u, fD u hu v, if_pos rfl, if_neg n, if_pos hv', zero_addE, G.e2 _ _ e]
    exact ⟨e, leE.refl _, .inl rfl, _, rfl⟩
  · exact ⟨[v, u], .last (by show (if v ∈ (foldT nbr W N).K u then _ else _) = _; rw [if_pos hv, fP u hu])⟩
theorem NN.diag (hn : NN ks ra) (J : SJ N ks ra S s) (hw : w ∈ N) {u : Int} (hu : u ∈ N) (h0 : s.D u u = some 0) : s.imp w u u = false := by
  cases e : s.imp w u u with
  | false => rfl
  | true =>
    obtain ⟨z, e1, h⟩ := ltE_yes e
    obtain ⟨x, y, e2, e3, rfl⟩ := addE_some e1
    obtain ⟨_, m1, w1⟩ := J.way u hu w x e2
    obtain ⟨_, m2, w2⟩ := J.way w hw u y e3
    have h1 := hn u _ _ (w1.app w2)
    have h2 := h 0 h0
    omega
theorem SJ.chains (G : GH N nbr W ks ra) (hn : NN ks ra) (I : SI N ks ra S s) (J : SJ N ks ra S s) (p : Stage N s w c) (hw : w ∈ N) : ∀ u ∈ N, ∀ v ∈ c.K u, v ≠ u → ∃ ns, Back (rowF c u) u v ns := by
  have h0 := I.d0 w hw
  intro u hu
  have hrow : ∀ x ∈ s.K u, s.imp w u x = false → rowF c u x = some (s.P u x) := fun x hx hi => by
    show (if x ∈ c.K u then _ else _) = _
    rw [if_pos ((p.K u x).mpr (.inl hx)), (p.no u x (.inr hi)).2]
  have hrow1 : ∀ x, x ∈ N → s.imp w u x = true → rowF c u x = some (s.P w x) := fun x hx hi => by
    show (if x ∈ c.K u then _ else _) = _
    rw [if_pos ((p.K u x).mpr (.inr ⟨⟨hu, hx⟩, hi⟩)), (p.yes u x ⟨hu, hx⟩ hi).2]
  have rowS : ∀ {x q}, rowF s u x = some q → x ∈ s.K u ∧ s.P u x = q := fun {x q} e => by
    have e' : (if x ∈ s.K u then some (s.P u x) else none) = some q := e
    by_cases hx : x ∈ s.K u
    · rw [if_pos hx] at e'; cases e'; exact ⟨hx, rfl⟩
    · rw [if_neg hx] at e'; cases e'
  have rowW : ∀ {x q}, rowF s w x = some q → x ∈ s.K w ∧ s.P w x = q := fun {x q} e => by
    have e' : (if x ∈ s.K w then some (s.P w x) else none) = some q := e
    by_cases hx : x ∈ s.K w
    · rw [if_pos hx] at e'; cases e'; exact ⟨hx, rfl⟩
    · rw [if_neg hx] at e'; cases e'
  -- A: from w back, nothing changed
  have A : ∀ {x ns}, Back (rowF s u) u x ns → x ≠ u → (∃ m y dx dw, Way ks ra x w m y ∧ s.D u x = some dx ∧ s.D u w = some dw ∧ dx + y ≤ dw) → ∃ ns', Back (rowF c u) u x ns' := by
    intro x ns b
    induction b with
    | last e =>
      rename_i x
      intro nx ⟨m, y, dx, dw, wy, e1, e2, le⟩
      obtain ⟨hx, hp⟩ := rowS e
      have hi : s.imp w u x = false := by
        cases q : s.imp w u x with
        | false => rfl
        | true =>
          obtain ⟨z, f1, f2⟩ := ltE_yes q
          obtain ⟨a, b, g1, g2, rfl⟩ := addE_some f1
          obtain ⟨_, m2, w2⟩ := J.way w hw x b g2
          have := hn x _ _ (wy.app w2)
          have := f2 dx e1
          rw [e2] at g1; cases g1
          omega
      exact ⟨[x, u], .last (by rw [hrow x hx hi, hp])⟩
    | step e hq b ih =>
      rename_i x q l
      intro nx ⟨m, y, dx, dw, wy, e1, e2, le⟩
      obtain ⟨hx, hp⟩ := rowS e
      have hi : s.imp w u x = false := by
        cases q : s.imp w u x with
        | false => rfl
        | true =>
          obtain ⟨z, f1, f2⟩ := ltE_yes q
          obtain ⟨a, b, g1, g2, rfl⟩ := addE_some f1
          obtain ⟨_, m2, w2⟩ := J.way w hw x b g2
          have := hn x _ _ (wy.app w2)
          have := f2 dx e1
          rw [e2] at g1; cases g1
          omega
      obtain ⟨c1, c2, _, _⟩ := J.pc u hu x hx nx
      rw [hp] at c1 c2
      obtain ⟨z, f1, f2⟩ := c2 dx e1
      obtain ⟨a, r, g1, g2, rfl⟩ := addE_some f1
      cases g2
      obtain ⟨ns', b'⟩ := ih hq ⟨_, _, a, dw, (Way.one c1).app wy, g1, e2, by omega⟩
      exact ⟨x :: ns', .step (by rw [hrow x hx hi, hp]) hq b'⟩
  -- B: the improved
  have Bc : ∀ {x ns}, Back (rowF s w) w x ns → x ≠ w → s.imp w u x = true → ∃ ns', Back (rowF c u) u x ns' := by
    intro x ns b
    induction b with
    | last e =>
      rename_i x
      intro nx hi
      obtain ⟨hx, hp⟩ := rowW e
      have hxN := (J.kd w hw).2 x hx
      have huw : w ≠ u := fun z => by rw [← z, imp_row h0] at hi; cases hi
      obtain ⟨z, f1, f2⟩ := ltE_yes hi
      obtain ⟨a, b, g1, g2, rfl⟩ := addE_some f1
      obtain ⟨ns0, b0⟩ := J.ch u hu w (J.ik u hu w a g1 (Ne.symm huw)) huw
      obtain ⟨ns', b'⟩ := A b0 huw ⟨0, 0, a, a, .nil _, g1, g1, by omega⟩
      exact ⟨x :: ns', .step (by rw [hrow1 x hxN hi, hp]) huw b'⟩
    | step e hq b ih =>
      rename_i x q l
      intro nx hi
      obtain ⟨hx, hp⟩ := rowW e
      have hxN := (J.kd w hw).2 x hx
      obtain ⟨c1, c2, c3, dw, c4⟩ := J.pc w hw x hx nx
      rw [hp] at c1 c2 c3
      have hSq := c3.resolve_left hq
      have hqN := ((G.e1 q x).mp c1).1
      obtain ⟨z, f1, f2⟩ := ltE_yes hi
      obtain ⟨a, b, g1, g2, rfl⟩ := addE_some f1
      obtain ⟨z, k1, k2⟩ := c2 b g2
      obtain ⟨b', r, l1, l2, rfl⟩ := addE_some k1
      cases l2
      have hiq : s.imp w u q = true := by
        refine ltE_mk (x := a + b') (by rw [g1, l1]; rfl) fun e he => ?_
        have t1 := (I.tr q hqN hSq u hu x hxN).trans (leE_add (leE.refl _) (I.ed q x c1))
        obtain ⟨dv, d1, d2⟩ := t1 (e + ra (q, x)) (by rw [he]; rfl)
        have := f2 dv d1
        omega
      have hqu : q ≠ u := fun z => by
        have := NN.diag hn J hw hu (I.d0 u hu)
        rw [z] at hiq; rw [hiq] at this; cases this
      obtain ⟨ns', b'⟩ := ih hq hiq
      exact ⟨x :: ns', .step (by rw [hrow1 x hxN hi, hp]) hqu b'⟩
  have B' : ∀ {x}, x ∈ N → s.imp w u x = true → ∃ ns', Back (rowF c u) u x ns' := fun {x} hx hi => by
    have nx : x ≠ w := fun z => by rw [z, imp_col h0] at hi; cases hi
    obtain ⟨z, f1, f2⟩ := ltE_yes hi
    obtain ⟨a, b, g1, g2, rfl⟩ := addE_some f1
    obtain ⟨ns, b⟩ := J.ch w hw x (J.ik w hw x b g2 (Ne.symm nx)) nx
    exact Bc b nx hi
  -- C: all
  have C : ∀ {x ns}, Back (rowF s u) u x ns → ∃ ns', Back (rowF c u) u x ns' := by
    intro x ns b
    induction b with
    | last e =>
      rename_i x
      obtain ⟨hx, hp⟩ := rowS e
      cases hi : s.imp w u x with
      | true => exact B' ((J.kd u hu).2 x hx) hi
      | false => exact ⟨[x, u], .last (by rw [hrow x hx hi, hp])⟩
    | step e hq b ih =>
      rename_i x q l
      obtain ⟨hx, hp⟩ := rowS e
      cases hi : s.imp w u x with
      | true => exact B' ((J.kd u hu).2 x hx) hi
      | false =>
        obtain ⟨ns', b'⟩ := ih
        exact ⟨x :: ns', .step (by rw [hrow x hx hi, hp]) hq b'⟩
  intro v hv nv
  rcases (p.K u v).mp hv with z | ⟨z, hi⟩
  · obtain ⟨ns, b⟩ := J.ch u hu v z nv
    exact C b
  · exact B' z.2 hi
theorem SJ.stage (G : GH N nbr W ks ra) (hn : NN ks ra) (I : SI N ks ra S s) (J : SJ N ks ra S s) (p : Stage N s w c) (hw : w ∈ N) : SJ N ks ra (fun q => S q ∨ q = w) c := by
  have h0 := I.d0 w hw
  refine ⟨fun u hu v x e => ?_, fun u hu v x e n => ?_, fun u hu => ⟨p.nd u (J.kd u hu).1, fun v hv => ?_⟩, fun u hu v hv n => ?_, J.chains G hn I p hw⟩
  · by_cases q : v ∈ N ∧ s.imp w u v = true
    · rw [(p.yes u v ⟨hu, q.1⟩ q.2).1] at e
      obtain ⟨a, b, g1, g2, rfl⟩ := addE_some e
      obtain ⟨_, m1, w1⟩ := J.way u hu w a g1
      obtain ⟨hv, m2, w2⟩ := J.way w hw v b g2
      exact ⟨hv, _, w1.app w2⟩
    · rw [(p.no u v (by
        by_cases hv : v ∈ N
        · exact .inr (by cases z : s.imp w u v; rfl; exact absurd ⟨hv, z⟩ q)
        · exact .inl fun z => hv z.2)).1] at e
      exact J.way u hu v x e
  · by_cases q : v ∈ N ∧ s.imp w u v = true
    · exact (p.K u v).mpr (.inr ⟨⟨hu, q.1⟩, q.2⟩)
    · rw [(p.no u v (by
        by_cases hv : v ∈ N
        · exact .inr (by cases z : s.imp w u v; rfl; exact absurd ⟨hv, z⟩ q)
        · exact .inl fun z => hv z.2)).1] at e
      exact (p.K u v).mpr (.inl (J.ik u hu v x e n))
  · rcases (p.K u v).mp hv with z | z
    · exact (J.kd u hu).2 v z
    · exact z.1.2
  · cases hi : s.imp w u v with
    | true =>
      have hvN : v ∈ N := by
        rcases (p.K u v).mp hv with z | z
        · exact (J.kd u hu).2 v z
        · exact z.1.2
      have nw : v ≠ w := fun z => by rw [z, imp_col h0] at hi; cases hi
      obtain ⟨z, f1, f2⟩ := ltE_yes hi
      obtain ⟨a, b, g1, g2, rfl⟩ := addE_some f1
      obtain ⟨c1, c2, c3, _, _⟩ := J.pc w hw v (J.ik w hw v b g2 (Ne.symm nw)) nw
      obtain ⟨y1, y2⟩ := p.yes u v ⟨hu, hvN⟩ hi
      rw [y1, y2]
      have hp := ((G.e1 _ _).mp c1).1
      refine ⟨c1, ?_, ?_, a + b, f1⟩
      · refine (leE_add (p.leVia hu hp) (leE.refl _)).trans ?_
        rw [addE_assoc]
        exact leE_add (leE.refl _) c2
      · rcases c3 with z | z
        · exact .inr (.inr z)
        · exact .inr (.inl z)
    | false =>
      have hvK : v ∈ s.K u := by
        rcases (p.K u v).mp hv with z | z
        · exact z
        · rw [hi] at z; cases z.2
      obtain ⟨c1, c2, c3, c4⟩ := J.pc u hu v hvK n
      obtain ⟨y1, y2⟩ := p.no u v (.inr hi)
      rw [y1, y2]
      exact ⟨c1, (leE_add (p.le h0 u _) (leE.refl _)).trans c2, c3.imp id .inl, c4⟩
theorem SI.stage2 (hn : NN ks ra) (I : SI N ks ra S s) (J : SJ N ks ra S s) (p : Stage N s w c) (hw : w ∈ N) : SI N ks ra (fun q => S q ∨ q = w) c :=
  I.stage p hw fun u hu => by rw [(p.no u u (.inr (NN.diag hn J hw hu (I.d0 u hu)))).1]; exact I.d0 u hu
end
end Mine
end
section
open PySem PySem.W PyProof.Rows PySem.Calls
set_option maxRecDepth 100000
namespace Mine
section
variable {f : Int → Option Int} {u v x : Int} {ns l : List Int}
theorem Back.det (b : Back f u v ns) : ∀ {l}, Back f u v l → ns = l := by
  induction b with
  | last e =>
    intro l b2
    cases b2 with
    | last _ => rfl
    | step e2 hp _ => rw [e] at e2; cases e2; exact absurd rfl hp
  | step e hp b ih =>
    intro l b2
    cases b2 with
    | last e2 => rw [e] at e2; cases e2; exact absurd rfl hp
    | step e2 _ b3 => rw [e] at e2; cases e2; rw [ih b3]
theorem Back.suffix (b : Back f u v ns) : ∀ {x}, x ∈ ns → x ≠ u → ∃ l, Back f u x l ∧ l.length ≤ ns.length := by
  induction b with
  | last e =>
    intro x hx nx
    rename_i v
    rcases List.mem_cons.mp hx with rfl | hx
    · exact ⟨_, .last e, Nat.le_refl _⟩
    · rw [List.mem_singleton.mp hx] at nx; exact absurd rfl nx
  | step e hp b ih =>
    intro x hx nx
    rcases List.mem_cons.mp hx with rfl | hx
    · exact ⟨_, .step e hp b, Nat.le_refl _⟩
    · obtain ⟨l, b1, h⟩ := ih hx nx
      exact ⟨l, b1, by simp; omega⟩
theorem Back.nodup (b : Back f u v ns) : v ≠ u → ns.Nodup := by
  induction b with
  | last e => intro nv; simpa using nv
  | step e hp b ih =>
    intro nv
    refine List.nodup_cons.mpr ⟨fun m => ?_, ih hp⟩
    obtain ⟨l, b1, h⟩ := b.suffix m nv
    have := b1.det (Back.step e hp b)
    rw [this, List.length_cons] at h
    omega
theorem zip_snoc (p v : Int) : ∀ r : List Int, (r ++ [p] ++ [v]).zip (r ++ [p] ++ [v]).tail = (r ++ [p]).zip (r ++ [p]).tail ++ [(p, v)]
  | [] => rfl
  | [a] => rfl
  | a :: b :: r => by
    have ih := zip_snoc p v (b :: r)
    simp only [List.cons_append, List.tail_cons, List.zip_cons_cons] at ih ⊢
    rw [ih]
end
section
variable {N : List Int} {nbr : Int → List Int} {W : Int → Int → Int} {ks : List (Int × Int)} {ra : Int × Int → Int} {S : Int → Prop} {s c : Tbl} {w : Int}
theorem SI.edge (G : GH N nbr W ks ra) (I : SI N ks ra S s) (hS : ∀ q ∈ N, S q) {u p v : Int} (hu : u ∈ N) (e : (p, v) ∈ ks) : leE (s.D u v) (addE (s.D u p) (some (ra (p, v)))) :=
  (I.tr p ((G.e1 p v).mp e).1 (hS _ ((G.e1 p v).mp e).1) u hu v (G.e3 _ _ e)).trans (leE_add (leE.refl _) (I.ed _ _ e))
/-- a chain of predecessors tells a true way of the least weight -/
theorem Back.facts (G : GH N nbr W ks ra) (I : SI N ks ra S s) (hS : ∀ q ∈ N, S q) (J : SJ N ks ra S s) {u : Int} (hu : u ∈ N) {v : Int} {ns : List Int} (b : Back (rowF s u) u v ns) : v ≠ u →
    ∃ d, s.D u v = some d ∧ (∃ r, ns.reverse = u :: r) ∧ (∃ r, ns.reverse = r ++ [v]) ∧ (∀ p ∈ ns.reverse.zip ns.reverse.tail, p ∈ ks) ∧ ((ns.reverse.zip ns.reverse.tail).map ra).sum = d ∧ (∃ m, m + 1 = ns.length ∧ Way ks ra u v m d) ∧ ∀ x ∈ ns, x ∈ N := by
  have rowS : ∀ {x q}, rowF s u x = some q → x ∈ s.K u ∧ s.P u x = q := fun {x q} e => by
    have e' : (if x ∈ s.K u then some (s.P u x) else none) = some q := e
    by_cases hx : x ∈ s.K u
    · rw [if_pos hx] at e'; cases e'; exact ⟨hx, rfl⟩
    · rw [if_neg hx] at e'; cases e'
  have wt : ∀ {x}, x ∈ s.K u → x ≠ u → (s.P u x, x) ∈ ks ∧ ∃ a, s.D u (s.P u x) = some a ∧ s.D u x = some (a + ra (s.P u x, x)) := fun {x} hx nx => by
    obtain ⟨c1, c2, _, d, c4⟩ := J.pc u hu x hx nx
    obtain ⟨z, f1, f2⟩ := c2 d c4
    obtain ⟨a, r, g1, g2, rfl⟩ := addE_some f1
    cases g2
    obtain ⟨d', e1, e2⟩ := I.edge G hS hu c1 (a + ra (s.P u x, x)) (by rw [g1]; rfl)
    rw [c4] at e1; cases e1
    exact ⟨c1, a, g1, by rw [c4]; congr 1; omega⟩
  induction b with
  | last e =>
    rename_i v
    intro nv
    obtain ⟨hx, hp⟩ := rowS e
    obtain ⟨c1, a, c2, c3⟩ := wt hx nv
    rw [hp] at c1 c2 c3
    rw [I.d0 u hu] at c2
    cases c2
    rw [Int.zero_add] at c3
    refine ⟨_, c3, ⟨[v], rfl⟩, ⟨[u], rfl⟩, fun p h => ?_, by simp, ⟨1, rfl, .one c1⟩, fun x h => ?_⟩
    · have : p = (u, v) := by simpa using h
      rw [this]; exact c1
    · simp only [List.mem_cons, List.not_mem_nil, or_false] at h
      rcases h with rfl | rfl
      · exact (J.kd u hu).2 _ hx
      · exact hu
  | step e hq b ih =>
    rename_i v q l
    intro nv
    obtain ⟨hx, hp⟩ := rowS e
    obtain ⟨c1, a, c2, c3⟩ := wt hx nv
    rw [hp] at c1 c2 c3
    obtain ⟨d, i1, ⟨r1, i2⟩, ⟨r2, i3⟩, i4, i5, ⟨m, i6, i7⟩, i8⟩ := ih hq
    rw [c2] at i1
    cases i1
    have hz : (v :: l).reverse.zip (v :: l).reverse.tail = l.reverse.zip l.reverse.tail ++ [(q, v)] := by
      rw [List.reverse_cons, i3]; exact zip_snoc q v r2
    refine ⟨_, c3, ⟨r1 ++ [v], by rw [List.reverse_cons, i2]; rfl⟩, ⟨l.reverse, by rw [List.reverse_cons]⟩, fun p h => ?_, ?_, ⟨m + 1, by simp; omega, .snoc i7 c1⟩, fun x h => ?_⟩
    · rw [hz] at h
      rcases List.mem_append.mp h with h | h
      · exact i4 p h
      · rw [List.mem_singleton.mp h]; exact c1
    · rw [hz, List.map_append, List.sum_append, i5]; simp
    · rcases List.mem_cons.mp h with rfl | h
      · exact (J.kd u hu).2 _ hx
      · exact i8 x h
theorem back_len (G : GH N nbr W ks ra) (I : SI N ks ra S s) (hS : ∀ q ∈ N, S q) (J : SJ N ks ra S s) {u : Int} (hu : u ∈ N) {v : Int} {ns : List Int} (b : Back (rowF s u) u v ns) (nv : v ≠ u) : ns.length ≤ N.length := by
  obtain ⟨_, _, _, _, _, _, _, h⟩ := b.facts G I hS J hu nv
  exact nodup_le (b.nodup nv) h
/-- the tables are exact -/
structure Exact (N : List Int) (ks : List (Int × Int)) (ra : Int × Int → Int) (u : Int) (δ : Int → Option Int) : Prop where
  low : ∀ v m x, Way ks ra u v m x → leE (δ v) (some x)
  short : ∀ v d, δ v = some d → ∃ m, m < N.length ∧ Way ks ra u v m d
theorem exact_of (G : GH N nbr W ks ra) (I : SI N ks ra S s) (hS : ∀ q ∈ N, S q) (J : SJ N ks ra S s) {u : Int} (hu : u ∈ N) : Exact N ks ra u (s.D u) := by
  refine ⟨fun v m x h => I.lower G hS h hu, fun v d e => ?_⟩
  by_cases q : v = u
  · subst q
    rw [I.d0 v hu] at e
    cases e
    exact ⟨0, List.length_pos_of_mem hu, .nil _⟩
  · obtain ⟨ns, b⟩ := J.ch u hu v (J.ik u hu v d e (Ne.symm q)) q
    obtain ⟨d', e', _, _, _, _, ⟨m, h1, h2⟩, _⟩ := b.facts G I hS J hu q
    rw [e] at e'; cases e'
    have := back_len G I hS J hu b q
    exact ⟨m, by omega, h2⟩
end
/-! _law_least -/
section
variable {ks : List (Int × Int)} {ra : Int × Int → Int} {u : Int} {b F : BF}
structure BA (ks : List (Int × Int)) (ra : Int × Int → Int) (u : Int) (b : BF) : Prop where
  s : u ∈ b.ks
  w : ∀ v ∈ b.ks, ∃ m, Way ks ra u v m (b.f v)
def BL (ks : List (Int × Int)) (ra : Int × Int → Int) (u : Int) (k : Nat) (b : BF) : Prop := ∀ m, m ≤ k → ∀ v x, Way ks ra u v m x → v ∈ b.ks ∧ b.f v ≤ x
theorem relax_le (b F : BF) (p : Int × Int) : ∀ v ∈ F.ks, v ∈ (relax b ra F p).ks ∧ (relax b ra F p).f v ≤ F.f v := fun v hv => by
  unfold relax
  split
  · rename_i h
    refine ⟨addk_mem.mpr (.inl hv), ?_⟩
    simp only [upd]
    split
    · rename_i q
      subst q
      rcases h.2 with h | h
      · exact absurd hv h
      · omega
    · exact Int.le_refl _
  · exact ⟨hv, Int.le_refl _⟩
theorem fold_le (b : BF) : ∀ (l : List (Int × Int)) (F : BF), ∀ v ∈ F.ks, v ∈ (l.foldl (relax b ra) F).ks ∧ (l.foldl (relax b ra) F).f v ≤ F.f v
  | [], F, v, hv => ⟨hv, Int.le_refl _⟩
  | p :: l, F, v, hv => by
    have h1 := relax_le (ra := ra) b F p v hv
    have h2 := fold_le b l (relax b ra F p) v h1.1
    exact ⟨h2.1, Int.le_trans h2.2 h1.2⟩
theorem fold_edge (b : BF) {a c : Int} (ha : a ∈ b.ks) : ∀ (l : List (Int × Int)) (F : BF), (a, c) ∈ l → c ∈ (l.foldl (relax b ra) F).ks ∧ (l.foldl (relax b ra) F).f c ≤ b.f a + ra (a, c)
  | [], F, h => absurd h (by simp)
  | p :: l, F, h => by
    rcases List.mem_cons.mp h with rfl | h
    · have h1 : c ∈ (relax b ra F (a, c)).ks ∧ (relax b ra F (a, c)).f c ≤ b.f a + ra (a, c) := by
        unfold relax
        split
        · exact ⟨addk_mem.mpr (.inr rfl), by simp [upd]⟩
        · rename_i q
          have q' : ¬ (c ∉ F.ks ∨ b.f a + ra (a, c) < F.f c) := fun z => q ⟨ha, z⟩
          exact ⟨Classical.not_not.mp fun z => q' (.inl z), Int.not_lt.mp fun z => q' (.inr z)⟩
      have h2 := fold_le (ra := ra) b l (relax b ra F (a, c)) c h1.1
      exact ⟨h2.1, Int.le_trans h2.2 h1.2⟩
    · exact fold_edge b ha l _ h
theorem turn_le (b : BF) : ∀ v ∈ b.ks, v ∈ (turnB ra ks b).ks ∧ (turnB ra ks b).f v ≤ b.f v := fold_le b ks b
theorem turn_edge (b : BF) {a c : Int} (ha : a ∈ b.ks) (h : (a, c) ∈ ks) : c ∈ (turnB ra ks b).ks ∧ (turnB ra ks b).f c ≤ b.f a + ra (a, c) := fold_edge b ha ks b h
theorem fold_ba (B : BA ks ra u b) : ∀ (l : List (Int × Int)) (F : BF), (∀ p ∈ l, p ∈ ks) → BA ks ra u F → BA ks ra u (l.foldl (relax b ra) F)
  | [], F, _, h => h
  | p :: l, F, hl, h => by
    refine fold_ba B l _ (fun x hx => hl x (.tail _ hx)) ?_
    unfold relax
    split
    · rename_i q
      refine ⟨addk_mem.mpr (.inl h.s), fun v hv => ?_⟩
      simp only [upd]
      split
      · rename_i e
        subst e
        obtain ⟨m, w⟩ := B.w p.1 q.1
        exact ⟨m + 1, .snoc w (hl p (.head _))⟩
      · rename_i e
        exact h.w v ((addk_mem.mp hv).resolve_right e)
    · exact h
theorem BA.turn (B : BA ks ra u b) : BA ks ra u (turnB ra ks b) := fold_ba B ks b (fun _ h => h) B
theorem BL.turn {k : Nat} (B : BL ks ra u k b) : BL ks ra u (k + 1) (turnB ra ks b) := fun m hm v x h => by
  rcases Nat.lt_or_ge k m with z | z
  · have : m = k + 1 := by omega
    subst this
    cases h with
    | snoc h e =>
      obtain ⟨h1, h2⟩ := B k (Nat.le_refl _) _ _ h
      obtain ⟨h3, h4⟩ := turn_edge (ra := ra) b h1 e
      exact ⟨h3, by omega⟩
  · obtain ⟨h1, h2⟩ := B m z v x h
    obtain ⟨h3, h4⟩ := turn_le (ra := ra) (ks := ks) b v h1
    exact ⟨h3, by omega⟩
theorem same_feas (h : sameB (turnB ra ks b) b = true) {a c : Int} (ha : a ∈ b.ks) (e : (a, c) ∈ ks) : c ∈ b.ks ∧ b.f c ≤ b.f a + ra (a, c) := by
  obtain ⟨h1, h2⟩ := turn_edge (ra := ra) b ha e
  unfold sameB at h
  rw [Bool.and_eq_true, List.all_eq_true] at h
  have := h.2 c h1
  rw [Bool.and_eq_true, decide_eq_true_eq, beq_iff_eq] at this
  exact ⟨this.1, by rw [← this.2]; exact h2⟩
theorem feas_way (h : sameB (turnB ra ks b) b = true) {a c : Int} {m : Nat} {x : Int} (w : Way ks ra a c m x) : a ∈ b.ks → c ∈ b.ks ∧ b.f c ≤ b.f a + x := by
  induction w with
  | nil => intro ha; exact ⟨ha, by omega⟩
  | snoc w e ih =>
    intro ha
    obtain ⟨h1, h2⟩ := ih ha
    obtain ⟨h3, h4⟩ := same_feas h h1 e
    exact ⟨h3, by omega⟩
theorem least_inv : ∀ (n : Nat) (b B : BF), leastB ra ks n b = some B → BA ks ra u b → BA ks ra u B ∧ sameB (turnB ra ks B) B = true ∧ B.f u ≤ b.f u
  | 0, b, B, e, _ => by cases e
  | n + 1, b, B, e, h => by
    unfold leastB at e
    split at e
    · rename_i q; cases e; exact ⟨h, q, Int.le_refl _⟩
    · obtain ⟨h1, h2, h3⟩ := least_inv n _ B e h.turn
      exact ⟨h1, h2, Int.le_trans h3 (turn_le (ra := ra) (ks := ks) b u h.s).2⟩
theorem ba0 : BA ks ra u ⟨[u], fun _ => 0⟩ := ⟨.head _, fun v hv => by rw [List.mem_singleton.mp hv]; exact ⟨0, .nil _⟩⟩
theorem bl0 : BL ks ra u 0 ⟨[u], fun _ => 0⟩ := fun m hm v x h => by
  have : m = 0 := by omega
  subst this
  cases h
  exact ⟨.head _, Int.le_refl _⟩
/-- where all are some, no closed way weighs less than 0 -/
theorem least_closed {n : Nat} {B : BF} (e : leastB ra ks n ⟨[u], fun _ => 0⟩ = some B) {m : Nat} {x : Int} (w : Way ks ra u u m x) : 0 ≤ x := by
  obtain ⟨h1, h2, _⟩ := least_inv (u := u) n _ B e ba0
  have := (feas_way h2 w h1.s).2
  omega
variable {N : List Int} {δ : Int → Option Int}
theorem exact_fix (X : Exact N ks ra u δ) (A : BA ks ra u b) (L : ∀ v d, δ v = some d → v ∈ b.ks ∧ b.f v ≤ d) : sameB (turnB ra ks b) b = true := by
  have ex : ∀ v ∈ b.ks, δ v = some (b.f v) := fun v hv => by
    obtain ⟨m, w⟩ := A.w v hv
    obtain ⟨d, e, h⟩ := X.low v m _ w _ rfl
    have := (L v d e).2
    rw [e]; congr 1; omega
  have one : ∀ p ∈ ks, relax b ra b p = b := fun p hp => by
    unfold relax
    rw [if_neg]
    rintro ⟨h1, h2⟩
    obtain ⟨m, w⟩ := A.w p.1 h1
    obtain ⟨d, e, h⟩ := X.low p.2 _ _ (Way.snoc (t := p.2) w hp) _ rfl
    obtain ⟨h3, h4⟩ := L _ d e
    rcases h2 with h2 | h2
    · exact h2 h3
    · have : b.f p.1 + ra (p.1, p.2) = b.f p.1 + ra p := rfl
      omega
  have all : ∀ (l : List (Int × Int)), (∀ p ∈ l, p ∈ ks) → l.foldl (relax b ra) b = b := fun l => by
    induction l with
    | nil => intro _; rfl
    | cons p l ih =>
      intro h
      rw [List.foldl_cons, one p (h p (.head _))]
      exact ih fun x hx => h x (.tail _ hx)
  have e : turnB ra ks b = b := all ks fun _ h => h
  rw [e]
  unfold sameB
  simp
theorem least_some {n : Nat} (X : Exact N ks ra u δ) (hN : N.length ≤ n) : ∀ (j : Nat) (b : BF) (k : Nat), BA ks ra u b → BL ks ra u k b → n ≤ k + j → 1 ≤ j → ∃ B, leastB ra ks j b = some B
  | 0, _, _, _, _, _, h => absurd h (by omega)
  | j + 1, b, k, A, L, h1, h2 => by
    unfold leastB
    by_cases q : sameB (turnB ra ks b) b = true
    · exact ⟨b, by rw [if_pos q]⟩
    · rw [if_neg q]
      refine least_some X hN j _ (k + 1) A.turn L.turn (by omega) ?_
      refine Nat.pos_of_ne_zero fun z => q ?_
      subst z
      exact exact_fix X A fun v d e => by
        obtain ⟨m, hm, w⟩ := X.short v d e
        exact L m (by omega) v d w
theorem least_exact {n : Nat} (X : Exact N ks ra u δ) (hN : N.length ≤ n) (h1 : 1 ≤ n) (h0 : δ u = some 0) : ∃ B, leastB ra ks n ⟨[u], fun _ => 0⟩ = some B ∧ ∀ v, (v ∈ B.ks → δ v = some (B.f v)) ∧ (v ∉ B.ks → δ v = none) := by
  obtain ⟨B, e⟩ := least_some X hN n ⟨[u], fun _ => 0⟩ 0 ba0 bl0 (by omega) h1
  obtain ⟨A, hs, hf⟩ := least_inv (u := u) n _ B e ba0
  refine ⟨B, e, fun v => ?_⟩
  have hf : B.f u ≤ 0 := hf
  have L : ∀ v d, δ v = some d → v ∈ B.ks ∧ B.f v ≤ d := fun v d e => by
    obtain ⟨m, _, w⟩ := X.short v d e
    obtain ⟨h1, h2⟩ := feas_way hs w A.s
    exact ⟨h1, by omega⟩
  refine ⟨fun hv => ?_, fun hv => ?_⟩
  · obtain ⟨m, w⟩ := A.w v hv
    obtain ⟨d, e, h⟩ := X.low v m _ w _ rfl
    have := (L v d e).2
    rw [e]; congr 1; omega
  · cases e : δ v with
    | none => rfl
    | some d => exact absurd (L v d e).1 hv
end
end Mine
end
section
open PySem PySem.W PyProof.Rows PySem.Calls
set_option maxRecDepth 100000
namespace Mine
/-! the walk over a tree, by a stack -/
def stN (out : Int → List Int) : List Int → List Int
  | [] => []
  | x :: r => (out x).reverse ++ r
def stk (out : Int → List Int) (a : Int) : Nat → List Int
  | 0 => [a]
  | k + 1 => stN out (stk out a k)
def pp (out : Int → List Int) (a : Int) : Nat → List Int
  | 0 => []
  | k + 1 => match stk out a k with
    | [] => pp out a k
    | x :: _ => pp out a k ++ [x]
structure OutOk (N : List Int) (out : Int → List Int) (a : Int) : Prop where
  nd : ∀ x, (out x).Nodup
  uq : ∀ c x y, c ∈ out x → c ∈ out y → x = y
  nr : ∀ x, a ∉ out x
  inN : ∀ c x, c ∈ out x → c ∈ N
  aN : a ∈ N
section
variable {N : List Int} {out : Int → List Int} {a : Int}
theorem pp_nil {k : Nat} (e : stk out a k = []) : pp out a (k + 1) = pp out a k := by
  show (match stk out a k with | [] => pp out a k | x :: _ => pp out a k ++ [x]) = _
  rw [e]
theorem pp_cons {k : Nat} {x : Int} {r : List Int} (e : stk out a k = x :: r) : pp out a (k + 1) = pp out a k ++ [x] := by
  show (match stk out a k with | [] => pp out a k | x :: _ => pp out a k ++ [x]) = _
  rw [e]
theorem stk_nil {k : Nat} (e : stk out a k = []) : stk out a (k + 1) = [] := by show stN out (stk out a k) = _; rw [e]; rfl
theorem stk_cons {k : Nat} {x : Int} {r : List Int} (e : stk out a k = x :: r) : stk out a (k + 1) = (out x).reverse ++ r := by show stN out (stk out a k) = _; rw [e]; rfl
theorem mem_pp {x : Int} : ∀ {k : Nat}, x ∈ pp out a k ↔ ∃ i, i < k ∧ (stk out a i).head? = some x
  | 0 => ⟨fun h => absurd h (by simp [pp]), fun ⟨i, h, _⟩ => absurd h (by omega)⟩
  | k + 1 => by
    have ih := mem_pp (x := x) (k := k)
    have up : (∃ i, i < k + 1 ∧ (stk out a i).head? = some x) ↔ (∃ i, i < k ∧ (stk out a i).head? = some x) ∨ (stk out a k).head? = some x := by
      constructor
      · rintro ⟨i, h, e⟩
        rcases Nat.lt_or_ge i k with z | z
        · exact .inl ⟨i, z, e⟩
        · exact .inr (by rw [show k = i by omega]; exact e)
      · rintro (⟨i, h, e⟩ | e)
        · exact ⟨i, by omega, e⟩
        · exact ⟨k, by omega, e⟩
    rw [up, ← ih]
    cases e : stk out a k with
    | nil => rw [pp_nil e]; simp
    | cons y r =>
      rw [pp_cons e]
      simp only [List.mem_append, List.mem_singleton, List.head?_cons, Option.some.injEq]
      exact ⟨fun h => h.imp id Eq.symm, fun h => h.imp id Eq.symm⟩
/-- each node comes once, after its parent -/
structure NDI (out : Int → List Int) (a : Int) (k : Nat) : Prop where
  nd : (pp out a k ++ stk out a k).Nodup
  par : ∀ c ∈ pp out a k ++ stk out a k, c = a ∨ ∃ x ∈ pp out a k, c ∈ out x
  cl : ∀ x ∈ pp out a k, ∀ c ∈ out x, c ∈ pp out a k ++ stk out a k
theorem ndi (O : OutOk N out a) : ∀ k, NDI out a k
  | 0 => ⟨by simp [pp, stk], fun c h => .inl (by simpa [pp, stk] using h), fun x h => absurd h (by simp [pp])⟩
  | k + 1 => by
    have ih := ndi O k
    cases e : stk out a k with
    | nil =>
      refine ⟨?_, ?_, ?_⟩ <;> rw [pp_nil e, stk_nil e]
      · have := ih.nd; rwa [e] at this
      · have := ih.par; rwa [e] at this
      · have := ih.cl; rwa [e] at this
    | cons x r =>
      have h1 := ih.nd
      have h2 := ih.par
      have h3 := ih.cl
      rw [e] at h1 h2 h3
      rw [List.nodup_append] at h1
      obtain ⟨n1, n2, n3⟩ := h1
      have n2' := List.nodup_cons.mp n2
      have xp : x ∉ pp out a k := fun m => n3 x m x (.head _) rfl
      have new : ∀ c ∈ out x, c ∉ pp out a k ∧ c ∉ x :: r := fun c hc => by
        have : c ∉ pp out a k ++ x :: r := fun m => by
          rcases h2 c m with rfl | ⟨y, hy, hcy⟩
          · exact O.nr x hc
          · exact xp (O.uq c x y hc hcy ▸ hy)
        exact ⟨fun m => this (List.mem_append_left _ m), fun m => this (List.mem_append_right _ m)⟩
      refine ⟨?_, ?_, ?_⟩ <;> rw [pp_cons e, stk_cons e]
      · rw [List.nodup_append, List.nodup_append, List.nodup_append]
        refine ⟨⟨n1, by simp, fun y hy z hz => ?_⟩, ⟨List.pairwise_reverse.mpr ((O.nd x).imp Ne.symm), n2'.2, fun y hy z hz => ?_⟩, fun y hy z hz => ?_⟩
        · rw [List.mem_singleton.mp hz]; exact fun q => xp (q ▸ hy)
        · exact fun q => (new y (List.mem_reverse.mp hy)).2 (.tail _ (q ▸ hz))
        · intro q
          subst q
          rcases List.mem_append.mp hy with hy | hy
          · rcases List.mem_append.mp hz with hz | hz
            · exact (new y (List.mem_reverse.mp hz)).1 hy
            · exact n3 y hy y (.tail _ hz) rfl
          · rw [List.mem_singleton.mp hy] at hz
            rcases List.mem_append.mp hz with hz | hz
            · exact (new x (List.mem_reverse.mp hz)).2 (.head _)
            · exact n2'.1 hz
      · intro c hc
        simp only [List.mem_append, List.mem_singleton, List.mem_reverse] at hc ⊢
        have old : c ∈ pp out a k ++ x :: r → c = a ∨ ∃ y, (y ∈ pp out a k ∨ y = x) ∧ c ∈ out y := fun m => (h2 c m).imp id fun ⟨y, hy, q⟩ => ⟨y, .inl hy, q⟩
        rcases hc with (hc | hc) | (hc | hc)
        · exact old (List.mem_append_left _ hc)
        · exact old (List.mem_append_right _ (hc ▸ .head _))
        · exact .inr ⟨x, .inr rfl, hc⟩
        · exact old (List.mem_append_right _ (.tail _ hc))
      · intro y hy c hc
        simp only [List.mem_append, List.mem_singleton, List.mem_reverse] at hy ⊢
        rcases hy with hy | rfl
        · have := h3 y hy c hc
          rcases List.mem_append.mp this with z | z
          · exact .inl (.inl z)
          · rcases List.mem_cons.mp z with z | z
            · exact .inl (.inr z)
            · exact .inr (.inr z)
        · exact .inr (.inl hc)
theorem pp_mono {i k : Nat} (h : i ≤ k) {x : Int} (m : x ∈ pp out a i) : x ∈ pp out a k := by
  obtain ⟨j, h1, h2⟩ := mem_pp.mp m
  exact mem_pp.mpr ⟨j, by omega, h2⟩
theorem stk_once (O : OutOk N out a) {i k : Nat} {x : Int} {r : List Int} (h : i < k) (e1 : (stk out a i).head? = some x) (e2 : stk out a k = x :: r) : False := by
  have := (ndi O k).nd
  rw [e2, List.nodup_append] at this
  exact this.2.2 x (mem_pp.mpr ⟨i, h, e1⟩) x (.head _) rfl
theorem stk_in (O : OutOk N out a) (k : Nat) : ∀ c ∈ pp out a k ++ stk out a k, c ∈ N := fun c h => by
  rcases (ndi O k).par c h with rfl | ⟨x, _, q⟩
  · exact O.aN
  · exact O.inN c x q
theorem pp_len : ∀ {k : Nat}, stk out a k ≠ [] → (pp out a k).length = k
  | 0, _ => rfl
  | k + 1, h => by
    cases e : stk out a k with
    | nil => exact absurd (stk_nil e) h
    | cons x r =>
      have := pp_len (k := k) (by rw [e]; simp)
      rw [pp_cons e, List.length_append, this]; rfl
theorem stk_end (O : OutOk N out a) {k : Nat} (h : N.length ≤ k) : stk out a k = [] := by
  by_cases q : stk out a k = []
  · exact q
  · have h1 := pp_len q
    have h2 := nodup_le (ndi O k).nd (stk_in O k)
    rw [List.length_append, h1] at h2
    cases e : stk out a k with
    | nil => exact absurd e q
    | cons x r => rw [e] at h2; simp at h2; omega
/-- after the nodes below v, the stack is as it was below v -/
theorem stk_emb {v : Int} {R : List Int} {j : Nat} (e : stk out a j = v :: R) : ∀ i, (∀ i', i' < i → stk out v i' ≠ []) → stk out a (j + i) = stk out v i ++ R
  | 0, _ => e
  | i + 1, h => by
    have ih := stk_emb e i fun i' hi => h i' (by omega)
    have hn := h i (by omega)
    cases q : stk out v i with
    | nil => exact absurd q hn
    | cons x r =>
      rw [q] at ih
      rw [stk_cons q]
      have : stk out a (j + (i + 1)) = (out x).reverse ++ (r ++ R) := stk_cons (k := j + i) ih
      rw [this, List.append_assoc]
theorem least_nil {f : Nat → List Int} : ∀ n, f n = [] → ∃ i, i ≤ n ∧ f i = [] ∧ ∀ i', i' < i → f i' ≠ []
  | 0, h => ⟨0, Nat.le_refl _, h, fun _ z => absurd z (by omega)⟩
  | n + 1, h => by
    by_cases q : ∃ i, i ≤ n ∧ f i = []
    · obtain ⟨i, hi, e⟩ := q
      obtain ⟨i1, h1, h2, h3⟩ := least_nil (f := f) i e
      exact ⟨i1, by omega, h2, h3⟩
    · exact ⟨n + 1, Nat.le_refl _, h, fun i' hi e => q ⟨i', by omega, e⟩⟩
theorem stk_ret (O : OutOk N out a) {v : Int} {R : List Int} {j : Nat} (e : stk out a j = v :: R) : ∃ i0, 1 ≤ i0 ∧ stk out a (j + i0) = R ∧ ∀ i, i < i0 → ∃ c r, stk out v i = c :: r ∧ stk out a (j + i) = c :: (r ++ R) := by
  have ex : ∃ n, stk out v n = [] := by
    apply Classical.byContradiction
    intro q
    have q' : ∀ i, stk out v i ≠ [] := fun i z => q ⟨i, z⟩
    have := stk_emb e N.length fun i _ => q' i
    rw [stk_end O (Nat.le_add_left _ _)] at this
    exact q' N.length (List.append_eq_nil_iff.mp this.symm).1
  obtain ⟨n, hn⟩ := ex
  obtain ⟨i0, _, h2, h3⟩ := least_nil (f := stk out v) n hn
  refine ⟨i0, Nat.pos_of_ne_zero fun z => ?_, ?_, fun i hi => ?_⟩
  · subst z; simp [stk] at h2
  · rw [stk_emb e i0 h3, h2]; rfl
  · have := stk_emb e i fun i' h => h3 i' (by omega)
    cases q : stk out v i with
    | nil => exact absurd q (h3 i hi)
    | cons c r => exact ⟨c, r, rfl, by rw [this, q]; rfl⟩
/-- below a good node all are good -/
theorem stk_skip (O : OutOk N out a) (bad : Int → Prop) (cl : ∀ c x, c ∈ out x → bad c → x = a ∨ bad x) {v : Int} {R : List Int} {j : Nat} (hj : 1 ≤ j) (e : stk out a j = v :: R) (hv : ¬ bad v) {i0 : Nat}
    (h : ∀ i, i < i0 → ∃ c r, stk out v i = c :: r ∧ stk out a (j + i) = c :: (r ++ R)) : ∀ i, i < i0 → ∀ c, (stk out a (j + i)).head? = some c → ¬ bad c := by
  intro i
  induction i using Nat.strongRecOn with
  | ind i ih =>
    intro hi c hc
    obtain ⟨c', r, _, e2⟩ := h i hi
    rw [e2] at hc
    cases hc
    by_cases i1 : i = 0
    · subst i1
      have : stk out a (j + 0) = v :: R := e
      rw [this] at e2
      rw [← (List.cons.inj e2).1]
      exact hv
    · have I := ndi O (j + i)
      have nd := I.nd
      rw [e2, List.nodup_append] at nd
      have cp : c ∉ pp out a (j + i) := fun m => nd.2.2 c m c (.head _) rfl
      have cR : c ∉ R := fun m => (List.nodup_cons.mp nd.2.1).1 (List.mem_append_right _ m)
      rcases I.par c (by rw [e2]; exact List.mem_append_right _ (.head _)) with rfl | ⟨x, hx, hcx⟩
      · exact absurd (mem_pp.mpr ⟨0, by omega, rfl⟩) cp
      · obtain ⟨p, hp, ep⟩ := mem_pp.mp hx
        have hjp : j ≤ p := by
          apply Classical.byContradiction
          intro z
          have hxj : x ∈ pp out a j := mem_pp.mpr ⟨p, by omega, ep⟩
          have := (ndi O j).cl x hxj c hcx
          rw [e] at this
          rcases List.mem_append.mp this with m | m
          · exact cp (pp_mono (Nat.le_add_right _ _) m)
          · rcases List.mem_cons.mp m with m | m
            · exact cp (mem_pp.mpr ⟨j, by omega, by rw [e, m]; rfl⟩)
            · exact cR m
        have hbx : ¬ bad x := ih (p - j) (by omega) (by omega) x (by rw [show j + (p - j) = p by omega]; exact ep)
        intro hb
        rcases cl c x hcx hb with rfl | hb
        · cases q : stk out x p with
          | nil => rw [q] at ep; cases ep
          | cons y r' =>
            rw [q] at ep
            cases ep
            exact stk_once O (i := 0) (k := p) (by omega) rfl q
        · exact hbx hb
/-- all that hangs on a popped node is popped -/
theorem stk_all (O : OutOk N out a) {x c : Int} (h : ∃ i, (stk out a i).head? = some x) (hc : c ∈ out x) : ∃ i, (stk out a i).head? = some c := by
  obtain ⟨i, e⟩ := h
  have m : x ∈ pp out a (N.length + i + 1) := mem_pp.mpr ⟨i, by omega, e⟩
  have := (ndi O (N.length + i + 1)).cl x m c hc
  rw [stk_end O (by omega), List.append_nil] at this
  obtain ⟨j, _, e⟩ := mem_pp.mp this
  exact ⟨j, e⟩
/-! the two dicts -/
theorem dget_step {d : DS} {x : Int} {r : List Int} (e : d.T = x :: r) (v : Int) : (dstep out d).dget v = if d.node = some v then some x else d.dget v := by
  have key : (if some v ∈ addk d.dk d.node then some (upd d.df d.node x (some v)) else none) = if d.node = some v then some x else d.dget v := by
    unfold DS.dget
    by_cases q : d.node = some v
    · rw [if_pos (addk_mem.mpr (.inr q.symm)), if_pos q]
      simp [upd, q]
    · rw [if_neg q]
      have : (some v ∈ addk d.dk d.node) ↔ some v ∈ d.dk := addk_mem.trans ⟨fun z => z.resolve_right fun z => q z.symm, .inl⟩
      by_cases m : some v ∈ d.dk
      · rw [if_pos (this.mpr m), if_pos m]
        simp only [upd, if_neg (fun z : some v = d.node => q z.symm)]
      · rw [if_neg (fun z => m (this.mp z)), if_neg m]
  cases r with
  | nil => rw [dstep_one e]; exact key
  | cons z r => rw [dstep_more e]; exact key
theorem sget_one {d : DS} {x : Int} (e : d.T = [x]) (v : Int) : (dstep out d).sget v = d.sget v := by rw [dstep_one e]; rfl
theorem sget_more {d : DS} {x z : Int} {r : List Int} (e : d.T = x :: z :: r) (v : Int) : (dstep out d).sget v = if v = x then some z else d.sget v := by
  rw [dstep_more e]
  show (if v ∈ addk d.sk x then some (upd d.sf x z v) else none) = _
  by_cases q : v = x
  · subst q
    rw [if_pos (addk_mem.mpr (.inr rfl)), if_pos rfl]; simp [upd]
  · rw [if_neg q]
    have : v ∈ addk d.sk x ↔ v ∈ d.sk := addk_mem.trans ⟨fun z => z.resolve_right q, .inl⟩
    unfold DS.sget
    by_cases m : v ∈ d.sk
    · rw [if_pos (this.mpr m), if_pos m]; simp [upd, q]
    · rw [if_neg (fun z => m (this.mp z)), if_neg m]
structure DI (out : Int → List Int) (a : Int) (k : Nat) (d : DS) : Prop where
  T : d.T = stk out a k
  nd : stk out a k ≠ [] → d.node = if k = 0 then none else (stk out a (k - 1)).head?
  g : ∀ i, i < k → ∀ v, (stk out a i).head? = some v → d.dget v = if i + 1 < k then (stk out a (i + 1)).head? else none
  g0 : ∀ v, (∀ i, i < k → (stk out a i).head? ≠ some v) → d.dget v = none
  s : ∀ i, i < k → ∀ v r, stk out a i = v :: r → d.sget v = r.head?
  s0 : ∀ v, (∀ i, i < k → (stk out a i).head? ≠ some v) → d.sget v = none
  l1 : d.dk.length ≤ (pp out a k).length
  l2 : d.sk.length ≤ (pp out a k).length
theorem addk_length {K : Type} [DecidableEq K] (l : List K) (x : K) : (addk l x).length ≤ l.length + 1 := by
  unfold addk; split
  · omega
  · simp
theorem di (O : OutOk N out a) : ∀ k, DI out a k (iter (dstep out) k (DS.start a))
  | 0 => ⟨rfl, fun _ => rfl, fun i h => absurd h (by omega), fun v _ => rfl, fun i h => absurd h (by omega), fun v _ => rfl, Nat.le_refl _, Nat.le_refl _⟩
  | k + 1 => by
    have ih := di O k
    show DI out a (k + 1) (dstep out (iter (dstep out) k (DS.start a)))
    generalize iter (dstep out) k (DS.start a) = d at ih
    cases e : stk out a k with
    | nil =>
      have eT : d.T = [] := ih.T.trans e
      rw [dstep_nil eT]
      have hk : ∀ i v, i < k + 1 → (stk out a i).head? = some v → i < k := fun i v h q => by
        rcases Nat.lt_or_ge i k with z | z
        · exact z
        · rw [show i = k by omega, e] at q; cases q
      refine ⟨by rw [eT, stk_nil e], fun n => absurd (stk_nil e) n, fun i h v q => ?_, fun v h => ih.g0 v fun i hi => h i (by omega), fun i h v r q => ih.s i (hk i v h (by rw [q]; rfl)) v r q, fun v h => ih.s0 v fun i hi => h i (by omega), by rw [pp_nil e]; exact ih.l1, by rw [pp_nil e]; exact ih.l2⟩
      have hi := hk i v h q
      rw [ih.g i hi v q]
      by_cases z : i + 1 < k
      · rw [if_pos z, if_pos (by omega)]
      · rw [if_neg z]
        have : i + 1 = k := by omega
        rw [this, e]; simp
    | cons x r =>
      have eT : d.T = x :: r := ih.T.trans e
      have node := ih.nd (by rw [e]; simp)
      have nodeV : ∀ v, d.node = some v ↔ (0 < k ∧ (stk out a (k - 1)).head? = some v) := fun v => by
        rw [node]
        split
        · exact ⟨fun z => (nomatch z), fun z => absurd z.1 (by omega)⟩
        · exact ⟨fun z => ⟨by omega, z⟩, fun z => z.2⟩
      have once : ∀ i v, i < k → (stk out a i).head? = some v → v ≠ x := fun i v hi q z => stk_once O hi (z ▸ q) e
      have hT : (dstep out d).T = stk out a (k + 1) := by
        rw [stk_cons e]
        cases r with
        | nil => rw [dstep_one eT]; simp
        | cons z r => rw [dstep_more eT]
      refine ⟨hT, fun _ => ?_, fun i h v q => ?_, fun v h => ?_, fun i h v r' q => ?_, fun v h => ?_, ?_, ?_⟩
      · rw [if_neg (by omega), Nat.add_sub_cancel, e]
        cases r with
        | nil => rw [dstep_one eT]; rfl
        | cons z r => rw [dstep_more eT]; rfl
      · rw [dget_step eT]
        rcases Nat.lt_or_ge i k with hi | hi
        · by_cases z : i + 1 < k
          · rw [if_neg, ih.g i hi v q, if_pos z, if_pos (by omega)]
            intro n
            obtain ⟨h1, h2⟩ := (nodeV v).mp n
            cases w : stk out a (k - 1) with
            | nil => rw [w] at h2; cases h2
            | cons y r2 =>
              rw [w] at h2
              cases h2
              exact stk_once O (i := i) (k := k - 1) (by omega) q w
          · have hk : i + 1 = k := by omega
            rw [if_pos ((nodeV v).mpr ⟨by omega, by rw [show k - 1 = i by omega]; exact q⟩), if_pos (by omega), hk, e]; rfl
        · have hk : i = k := by omega
          subst hk
          rw [e] at q
          cases q
          rw [if_neg, if_neg (by omega)]
          · exact ih.g0 x fun i hi z => once i x hi z rfl
          · intro n
            obtain ⟨h1, h2⟩ := (nodeV x).mp n
            exact once (i - 1) x (by omega) h2 rfl
      · rw [dget_step eT, if_neg]
        · exact ih.g0 v fun i hi => h i (by omega)
        · intro n
          obtain ⟨h1, h2⟩ := (nodeV v).mp n
          exact h (k - 1) (by omega) h2
      · rcases Nat.lt_or_ge i k with hi | hi
        · have nv := once i v hi (by rw [q]; rfl)
          cases r with
          | nil => rw [sget_one eT]; exact ih.s i hi v r' q
          | cons z r => rw [sget_more eT, if_neg nv]; exact ih.s i hi v r' q
        · have hk : i = k := by omega
          subst hk
          rw [e] at q
          cases q
          cases r with
          | nil => rw [sget_one eT]; exact ih.s0 x fun i hi z => once i x hi z rfl
          | cons z r => rw [sget_more eT, if_pos rfl]; rfl
      · have nv : v ≠ x := fun z => h k (by omega) (by rw [e, z]; rfl)
        have := ih.s0 v fun i hi => h i (by omega)
        cases r with
        | nil => rw [sget_one eT]; exact this
        | cons z r => rw [sget_more eT, if_neg nv]; exact this
      · rw [pp_cons e, List.length_append]
        have := ih.l1
        have := addk_length d.dk d.node
        cases r with
        | nil => rw [dstep_one eT]; show (addk d.dk d.node).length ≤ _; simp; omega
        | cons z r => rw [dstep_more eT]; show (addk d.dk d.node).length ≤ _; simp; omega
      · rw [pp_cons e, List.length_append]
        have := ih.l2
        have := addk_length d.sk x
        cases r with
        | nil => rw [dstep_one eT]; show d.sk.length ≤ _; simp; omega
        | cons z r => rw [dstep_more eT]; show (addk d.sk x).length ≤ _; simp; omega
/-- what the two dicts tell at the end -/
theorem dfs_gets (O : OutOk N out a) (hN : N.length ≤ 5) {i : Nat} {v : Int} {r : List Int} (e : stk out a i = v :: r) : (iter (dstep out) 1000 (DS.start a)).dget v = (stk out a (i + 1)).head? ∧ (iter (dstep out) 1000 (DS.start a)).sget v = r.head? := by
  have I := di O 1000
  have hi : i < N.length := by
    apply Classical.byContradiction
    intro z
    rw [stk_end O (by omega)] at e; cases e
  refine ⟨?_, I.s i (by omega) v r e⟩
  rw [I.g i (by omega) v (by rw [e]; rfl), if_pos (by omega)]
theorem dfs_safe (O : OutOk N out a) (hN : N.length ≤ 5) (k : Nat) : DSafe N out (iter (dstep out) k (DS.start a)) := by
  have I := di O k
  have l := nodup_le (ndi O k).nd (stk_in O k)
  rw [List.length_append] at l
  refine ⟨fun x r e => ?_, by have := I.l1; omega, by have := I.l2; omega⟩
  rw [I.T] at e
  have h1 := nodup_le (O.nd x) fun c hc => O.inN c x hc
  refine ⟨stk_in O k x (List.mem_append_right _ (by rw [e]; exact .head _)), ?_⟩
  rw [I.T]; omega
theorem dfs_fin (O : OutOk N out a) (hN : N.length ≤ 5) : (iter (dstep out) 1000 (DS.start a)).T = [] := (di O 1000).T.trans (stk_end O (by omega))
end
end Mine
end
section
open PySem PySem.W PyProof.Rows PySem.Calls
set_option maxRecDepth 100000
namespace Mine
theorem kids_mem (w : Int) (P : Int → Int) (c x : Int) : ∀ (vs : List Int) (o : Int → List Int), c ∈ (vs.foldl (kid w P) o) x ↔ c ∈ o x ∨ (c ∈ vs ∧ c ≠ w ∧ P c = x)
  | [], o => ⟨.inl, fun h => h.elim id fun z => absurd z.1 (by simp)⟩
  | v :: r, o => by
    have ih := kids_mem w P c x r (kid w P o v)
    rw [List.foldl_cons, ih]
    have key : c ∈ (kid w P o v) x ↔ c ∈ o x ∨ (c = v ∧ v ≠ w ∧ P v = x) := by
      unfold kid
      split
      · rename_i q
        exact ⟨.inl, fun h => h.elim id fun z => absurd q z.2.1⟩
      · rename_i q
        unfold upd
        split
        · rename_i e
          subst e
          simp only [List.mem_append, List.mem_singleton]
          exact ⟨fun h => h.imp id fun z => ⟨z, q, by trivial⟩, fun h => h.imp id fun z => z.1⟩
        · rename_i e
          exact ⟨.inl, fun h => h.elim id fun z => absurd z.2.2.symm e⟩
    rw [key]
    simp only [List.mem_cons]
    constructor
    · rintro ((h | ⟨rfl, h1, h2⟩) | h)
      · exact .inl h
      · exact .inr ⟨.inl rfl, h1, h2⟩
      · exact .inr ⟨.inr h.1, h.2⟩
    · rintro (h | ⟨rfl | h, h1, h2⟩)
      · exact .inl (.inl h)
      · exact .inl (.inr ⟨rfl, h1, h2⟩)
      · exact .inr ⟨h, h1, h2⟩
theorem kids_nodup (w : Int) (P : Int → Int) (x : Int) : ∀ (vs : List Int) (o : Int → List Int), vs.Nodup → (o x).Nodup → (∀ c ∈ vs, c ∉ o x) → ((vs.foldl (kid w P) o) x).Nodup
  | [], o, _, h, _ => h
  | v :: r, o, hn, h, hd => by
    have hn' := List.nodup_cons.mp hn
    have key : ((kid w P o v) x).Nodup ∧ ∀ c ∈ r, c ∉ (kid w P o v) x := by
      unfold kid
      split
      · exact ⟨h, fun c hc => hd c (.tail _ hc)⟩
      · unfold upd
        split
        · rename_i e
          rw [← e]
          refine ⟨List.nodup_append.mpr ⟨h, by simp, fun a ha b hb => ?_⟩, fun c hc m => ?_⟩
          · rw [List.mem_singleton.mp hb]; exact fun z => hd v (.head _) (z ▸ ha)
          · rcases List.mem_append.mp m with m | m
            · exact hd c (.tail _ hc) m
            · exact hn'.1 (List.mem_singleton.mp m ▸ hc)
        · exact ⟨h, fun c hc => hd c (.tail _ hc)⟩
    exact kids_nodup w P x r _ hn'.2 key.1 key.2
def BD (N : List Int) (k : Nat) (s : Tbl) : Prop := ∀ u ∈ N, ∀ v x, s.D u v = some x → x.natAbs ≤ 7 * 2 ^ k
section
variable {N : List Int} {nbr : Int → List Int} {W : Int → Int → Int} {ks : List (Int × Int)} {ra : Int × Int → Int} {S : Int → Prop} {s c : Tbl} {w : Int}
theorem BD.fits {k : Nat} (b : BD N k s) (hk : k ≤ 1000) {u : Int} (hu : u ∈ N) (v : Int) : Fits (s.D u v) := fun x e => by
  have h1 := b u hu v x e
  have h2 : 2 ^ k ≤ 2 ^ 1000 := Nat.pow_le_pow_right (by decide) hk
  have h3 : 7 * 2 ^ 1000 < 2 ^ 1023 := by decide +kernel
  omega
theorem BD.stage {k : Nat} (b : BD N k s) (p : Stage N s w c) (hw : w ∈ N) : BD N (k + 1) c := fun u hu v x e => by
  have hp : 7 * 2 ^ (k + 1) = 7 * 2 ^ k + 7 * 2 ^ k := by rw [Nat.pow_succ]; omega
  by_cases q : v ∈ N ∧ s.imp w u v = true
  · rw [(p.yes u v ⟨hu, q.1⟩ q.2).1] at e
    obtain ⟨y, z, g1, g2, rfl⟩ := addE_some e
    have := b u hu w y g1
    have := b w hw v z g2
    omega
  · rw [(p.no u v (by
      by_cases hv : v ∈ N
      · exact .inr (by cases z : s.imp w u v; rfl; exact absurd ⟨hv, z⟩ q)
      · exact .inl fun z => hv z.2)).1] at e
    have := b u hu v x e
    omega
theorem out_ok (J : SJ N ks ra S s) (hw : w ∈ N) : OutOk N (kids w (s.P w) (s.K w)) w := by
  have m : ∀ c x, c ∈ kids w (s.P w) (s.K w) x ↔ c ∈ s.K w ∧ c ≠ w ∧ s.P w c = x := fun c x => (kids_mem w (s.P w) c x (s.K w) (fun _ => [])).trans ⟨fun h => h.resolve_left (by simp), .inr⟩
  exact ⟨fun x => kids_nodup _ _ x _ _ (J.kd w hw).1 (by simp) (by simp), fun c x y h1 h2 => by rw [← ((m c x).mp h1).2.2, ← ((m c y).mp h2).2.2], fun x h => ((m w x).mp h).2.1 rfl, fun c x h => (J.kd w hw).2 c ((m c x).mp h).1, hw⟩
theorem kids_iff {c x : Int} : c ∈ kids w (s.P w) (s.K w) x ↔ c ∈ s.K w ∧ c ≠ w ∧ s.P w c = x := (kids_mem w (s.P w) c x (s.K w) (fun _ => [])).trans ⟨fun h => h.resolve_left (by simp), .inr⟩
/-- improved nodes have improved parents -/
theorem imp_parent (G : GH N nbr W ks ra) (I : SI N ks ra S s) (J : SJ N ks ra S s) (hw : w ∈ N) {u x q : Int} (hu : u ∈ N) (hx : x ∈ s.K w) (nx : x ≠ w) (hp : s.P w x = q) (hq : q ≠ w) (hi : s.imp w u x = true) : s.imp w u q = true := by
  have hxN := (J.kd w hw).2 x hx
  obtain ⟨c1, c2, c3, dw, c4⟩ := J.pc w hw x hx nx
  rw [hp] at c1 c2 c3
  have hSq := c3.resolve_left hq
  have hqN := ((G.e1 q x).mp c1).1
  obtain ⟨z, f1, f2⟩ := ltE_yes hi
  obtain ⟨a, b, g1, g2, rfl⟩ := addE_some f1
  obtain ⟨z, k1, k2⟩ := c2 b g2
  obtain ⟨b', r, l1, l2, rfl⟩ := addE_some k1
  cases l2
  refine ltE_mk (x := a + b') (by rw [g1, l1]; rfl) fun e he => ?_
  have t1 := (I.tr q hqN hSq u hu x hxN).trans (leE_add (leE.refl _) (I.ed q x c1))
  obtain ⟨dv, d1, d2⟩ := t1 (e + ra (q, x)) (by rw [he]; rfl)
  have := f2 dv d1
  omega
theorem imp_fin {u v : Int} (h : s.imp w u v = true) : ∃ a b, s.D u w = some a ∧ s.D w v = some b := by
  obtain ⟨z, f1, _⟩ := ltE_yes h
  obtain ⟨a, b, g1, g2, _⟩ := addE_some f1
  exact ⟨a, b, g1, g2⟩
/-- all of the tree is popped -/
theorem popped (J : SJ N ks ra S s) (hw : w ∈ N) {v : Int} {ns : List Int} (b : Back (rowF s w) w v ns) : v ≠ w → ∃ i, (stk (kids w (s.P w) (s.K w)) w i).head? = some v := by
  have O := out_ok J hw
  have rowW : ∀ {x q}, rowF s w x = some q → x ∈ s.K w ∧ s.P w x = q := fun {x q} e => by
    have e' : (if x ∈ s.K w then some (s.P w x) else none) = some q := e
    by_cases hx : x ∈ s.K w
    · rw [if_pos hx] at e'; cases e'; exact ⟨hx, rfl⟩
    · rw [if_neg hx] at e'; cases e'
  induction b with
  | last e =>
    intro nv
    obtain ⟨h1, h2⟩ := rowW e
    exact stk_all O (x := w) ⟨0, rfl⟩ (kids_iff.mpr ⟨h1, nv, h2⟩)
  | step e hq b ih =>
    intro nv
    obtain ⟨h1, h2⟩ := rowW e
    exact stk_all O (ih hq) (kids_iff.mpr ⟨h1, nv, h2⟩)
/-- the walk of one u: where it stands -/
def Sim (s : Tbl) (w u : Int) (dn : Int → Int → Prop) (k : Nat) (x : TS) : Prop :=
  ∃ j, 1 ≤ j ∧ (k + 1 ≤ j ∨ stk (kids w (s.P w) (s.K w)) w j = []) ∧ x.v = (stk (kids w (s.P w) (s.K w)) w j).head? ∧
    Part s w (fun a b => dn a b ∨ (a = u ∧ ∃ i, i < j ∧ (stk (kids w (s.P w) (s.K w)) w i).head? = some b)) x.s
theorem sim_step (G : GH N nbr W ks ra) (I : SI N ks ra S s) (J : SJ N ks ra S s) (hw : w ∈ N) {u : Int} (hu : u ∈ N) {dn : Int → Int → Prop} (hd : ∀ v, ¬ dn u v) {k : Nat} {x : TS} (h : Sim s w u dn k x) :
    Sim s w u dn (k + 1) (tstep w u (s.D u w) (s.dfs w) x) := by
  have O := out_ok J hw
  have h0 := I.d0 w hw
  obtain ⟨j, j1, j2, j3, p⟩ := h
  cases e : stk (kids w (s.P w) (s.K w)) w j with
  | nil =>
    rw [e] at j3
    rw [tstep_none j3]
    exact ⟨j, j1, .inr e, by rw [e]; exact j3, p⟩
  | cons v r =>
    rw [e] at j3
    have j3 : x.v = some v := j3
    have hk : k + 1 ≤ j := j2.resolve_right (by rw [e]; simp)
    obtain ⟨g1, g2⟩ := dfs_gets O G.len e
    have ndn : ¬ (dn u v ∨ (u = u ∧ ∃ i, i < j ∧ (stk (kids w (s.P w) (s.K w)) w i).head? = some v)) := fun z => by
      rcases z with z | ⟨_, i, hi, q⟩
      · exact hd v z
      · exact stk_once O hi q e
    have hq : x.s.D u w = s.D u w := p.colD h0 u
    have himp : ltE (addE (s.D u w) (x.s.D w v)) (x.s.D u v) = s.imp w u v := by
      have := p.impEq h0 ndn
      unfold Tbl.imp at this
      rw [hq] at this
      exact this
    cases hi : s.imp w u v with
    | true =>
      rw [tstep_yes j3 (by rw [himp, hi])]
      refine ⟨j + 1, by omega, .inl (by omega), g1, ?_⟩
      have pp := p.put h0 hi
      have e2 : x.s.put w u v = x.s.tput w u v (addE (s.D u w) (x.s.D w v)) := by unfold Tbl.put Tbl.tput; rw [hq]
      rw [e2] at pp
      refine pp.more (fun a b z => ?_) (fun a b z _ => ?_)
      · rcases z with (z | ⟨z1, i, z2, z3⟩) | ⟨z1, z2⟩
        · exact .inl z
        · exact .inr ⟨z1, i, by omega, z3⟩
        · exact .inr ⟨z1, j, by omega, by rw [e, z2]; rfl⟩
      · rcases z with z | ⟨z1, i, z2, z3⟩
        · exact .inl (.inl z)
        · rcases Nat.lt_or_ge i j with q | q
          · exact .inl (.inr ⟨z1, i, q, z3⟩)
          · have : i = j := by omega
            rw [this, e] at z3
            cases z3
            exact .inr ⟨z1, rfl⟩
    | false =>
      rw [tstep_no j3 (by rw [himp, hi]; exact Bool.false_ne_true)]
      obtain ⟨i0, i1, i2, i3⟩ := stk_ret O e
      have good := stk_skip O (fun c => s.imp w u c = true) (fun c y hc hb => by
        obtain ⟨m1, m2, m3⟩ := kids_iff.mp hc
        by_cases q : y = w
        · exact .inl q
        · exact .inr (imp_parent G I J hw hu m1 m2 m3 q hb)) j1 e (by rw [hi]; exact Bool.false_ne_true) i3
      refine ⟨j + i0, by omega, .inl (by omega), by rw [i2]; exact g2, ?_⟩
      refine p.more (fun a b z => ?_) (fun a b z hb => ?_)
      · rcases z with z | ⟨z1, i, z2, z3⟩
        · exact .inl z
        · exact .inr ⟨z1, i, by omega, z3⟩
      · rcases z with z | ⟨z1, i, z2, z3⟩
        · exact .inl z
        · rcases Nat.lt_or_ge i j with q | q
          · exact .inr ⟨z1, i, q, z3⟩
          · exact absurd (z1 ▸ hb) (good (i - j) (by omega) b (by rw [show j + (i - j) = i by omega]; exact z3))
theorem sim_all (G : GH N nbr W ks ra) (I : SI N ks ra S s) (J : SJ N ks ra S s) (hw : w ∈ N) {u : Int} (hu : u ∈ N) {dn : Int → Int → Prop} (hd : ∀ v, ¬ dn u v) (p : Part s w dn c) : ∀ k, Sim s w u dn k (iter (tstep w u (s.D u w) (s.dfs w)) k ⟨c, (s.dfs w).dget w⟩)
  | 0 => by
    have O := out_ok J hw
    obtain ⟨g1, _⟩ := dfs_gets O G.len (i := 0) (v := w) (r := []) rfl
    refine ⟨1, Nat.le_refl _, .inl (Nat.le_refl _), g1, p.more (fun a b z => .inl z) fun a b z hb => ?_⟩
    rcases z with z | ⟨z1, i, z2, z3⟩
    · exact z
    · have : i = 0 := by omega
      subst this
      cases z3
      rw [z1, imp_col (I.d0 w hw)] at hb; cases hb
  | k + 1 => sim_step G I J hw hu hd (sim_all G I J hw hu hd p k)
theorem trU_part (G : GH N nbr W ks ra) (I : SI N ks ra S s) (J : SJ N ks ra S s) (hw : w ∈ N) {u : Int} (hu : u ∈ N) {dn : Int → Int → Prop} (hd : ∀ v, ¬ dn u v) (p : Part s w dn c) : Part s w (fun a b => dn a b ∨ (a = u ∧ b ∈ N)) (c.trU w (s.dfs w) u) := by
  have O := out_ok J hw
  have h0 := I.d0 w hw
  have hq : c.D u w = s.D u w := p.colD h0 u
  unfold Tbl.trU
  split
  · rename_i e
    exact p.more (fun _ _ z => .inl z) fun a b z hb => z.resolve_right fun q => by rw [q.1, e, imp_row h0] at hb; cases hb
  · rename_i nu
    split
    · rename_i e
      refine p.more (fun _ _ z => .inl z) fun a b z hb => z.resolve_right fun q => ?_
      obtain ⟨x, y, g1, _⟩ := imp_fin hb
      rw [q.1, ← hq, e] at g1; cases g1
    · rw [hq]
      obtain ⟨j, j1, j2, j3, p1⟩ := sim_all G I J hw hu hd p 1000
      have hj : stk (kids w (s.P w) (s.K w)) w j = [] := by
        rcases j2 with j2 | j2
        · exact stk_end O (by have := G.len; omega)
        · exact j2
      refine p1.more (fun a b z => ?_) (fun a b z hb => ?_)
      · rcases z with z | ⟨z1, i, _, z3⟩
        · exact .inl z
        · exact .inr ⟨z1, stk_in O (i + 1) b (List.mem_append_left _ (mem_pp.mpr ⟨i, by omega, z3⟩))⟩
      · rcases z with z | ⟨z1, z2⟩
        · exact .inl z
        · refine .inr ⟨z1, ?_⟩
          obtain ⟨x, y, g1, g2⟩ := imp_fin hb
          have nb : b ≠ w := fun z => by rw [z, imp_col h0] at hb; cases hb
          have hK := J.ik w hw b y g2 (Ne.symm nb)
          obtain ⟨ns, bk⟩ := J.ch w hw b hK nb
          obtain ⟨i, e⟩ := popped J hw bk nb
          refine ⟨i, ?_, e⟩
          apply Classical.byContradiction
          intro q
          have hge : j ≤ i := by omega
          have : ∀ m, stk (kids w (s.P w) (s.K w)) w (j + m) = [] := fun m => by
            induction m with
            | zero => exact hj
            | succ m ih => exact stk_nil (k := j + m) ih
          have := this (i - j)
          rw [show j + (i - j) = i by omega] at this
          rw [this] at e; cases e
theorem trU_safe (G : GH N nbr W ks ra) (I : SI N ks ra S s) (J : SJ N ks ra S s) {m : Nat} (bd : BD N m s) (hm : m ≤ 1000) (hw : w ∈ N) {u : Int} (hu : u ∈ N) {dn : Int → Int → Prop} (hd : ∀ v, ¬ dn u v) (p : Part s w dn c) : USafe N (prkOf N nbr) w (s.dfs w) c u := by
  have O := out_ok J hw
  have h0 := I.d0 w hw
  have hq : c.D u w = s.D u w := p.colD h0 u
  refine ⟨by rw [hq]; exact bd.fits hm hu w, fun nu hfin => ?_⟩
  rw [hq]
  refine ⟨fun k => ⟨fun v hv => ?_⟩, ?_⟩
  · obtain ⟨j, j1, j2, j3, p1⟩ := sim_all G I J hw hu hd p k
    generalize iter (tstep w u (s.D u w) (s.dfs w)) k ⟨c, (s.dfs w).dget w⟩ = x at *
    rw [hv] at j3
    cases e : stk (kids w (s.P w) (s.K w)) w j with
    | nil => rw [e] at j3; cases j3
    | cons v' r =>
      rw [e] at j3
      cases j3
      have ndn : ¬ (dn u v ∨ (u = u ∧ ∃ i, i < j ∧ (stk (kids w (s.P w) (s.K w)) w i).head? = some v)) := fun z => by
        rcases z with z | ⟨_, i, hi, q⟩
        · exact hd v z
        · exact stk_once O hi q e
      refine ⟨stk_in O j v (List.mem_append_right _ (by rw [e]; exact .head _)), by rw [(p1.rowD h0 v).1]; exact bd.fits hm hw v, fun hl => ?_⟩
      have hi : s.imp w u v = true := by
        have := p1.impEq h0 ndn
        unfold Tbl.imp at this
        rw [p1.colD h0 u] at this
        rw [hl] at this
        exact this.symm
      obtain ⟨a, b, g1, g2⟩ := imp_fin hi
      have nv : v ≠ w := fun z => by rw [z, imp_col h0] at hi; cases hi
      obtain ⟨_, mm, ww⟩ := J.way u hu w a g1
      refine ⟨G.prk ww (.inl nu), (p1.K w v).mpr (.inl (J.ik w hw v b g2 (Ne.symm nv))), ?_⟩
      have n1 := p1.nd u (J.kd u hu).1
      have := nodup_le n1 (m := N) fun y hy => by
        rcases (p1.K u y).mp hy with z | z
        · exact (J.kd u hu).2 y z
        · obtain ⟨_, b', _, g⟩ := imp_fin z.2
          exact (J.way w hw y b' g).1
      have := G.len
      omega
  · obtain ⟨j, j1, j2, j3, p1⟩ := sim_all G I J hw hu hd p 1000
    rw [j3]
    have hj : stk (kids w (s.P w) (s.K w)) w j = [] := by
      rcases j2 with j2 | j2
      · exact stk_end O (by have := G.len; omega)
      · exact j2
    rw [hj]; rfl
theorem runTU_part (G : GH N nbr W ks ra) (I : SI N ks ra S s) (J : SJ N ks ra S s) (hw : w ∈ N) : ∀ (q : List Int) {dn : Int → Int → Prop} {c : Tbl}, q.Nodup → (∀ u ∈ q, u ∈ N) → (∀ u ∈ q, ∀ v, ¬ dn u v) → Part s w dn c → Part s w (fun a b => dn a b ∨ (a ∈ q ∧ b ∈ N)) (c.runTU w (s.dfs w) q)
  | [], dn, c, _, _, _, p => p.more (fun _ _ z => .inl z) fun a b z _ => z.resolve_right fun y => absurd y.1 (by simp)
  | u :: q, dn, c, hn, hN, hd, p => by
    have hn' := List.nodup_cons.mp hn
    have := runTU_part G I J hw q (dn := fun a b => dn a b ∨ (a = u ∧ b ∈ N)) hn'.2 (fun x hx => hN x (.tail _ hx)) (fun x hx v z => by
      rcases z with z | z
      · exact hd x (.tail _ hx) v z
      · exact hn'.1 (z.1 ▸ hx)) (trU_part G I J hw (hN u (.head _)) (fun v => hd u (.head _) v) p)
    refine this.more (fun a b z => ?_) (fun a b z _ => ?_)
    · rcases z with (z | z) | z
      · exact .inl z
      · exact .inr ⟨z.1 ▸ .head _, z.2⟩
      · exact .inr ⟨.tail _ z.1, z.2⟩
    · rcases z with z | ⟨z1, z2⟩
      · exact .inl (.inl z)
      · rcases List.mem_cons.mp z1 with z1 | z1
        · exact .inl (.inr ⟨z1, z2⟩)
        · exact .inr ⟨z1, z2⟩
theorem tw_stage (G : GH N nbr W ks ra) (I : SI N ks ra S s) (J : SJ N ks ra S s) (hw : w ∈ N) : Stage N s w (s.trW N w) :=
  (runTU_part G I J hw N (dn := fun _ _ => False) G.nd (fun _ h => h) (fun _ _ _ z => z) (Part.start s w)).more (fun a b z => z.resolve_left id) fun a b z _ => .inr z
theorem tw_safe (G : GH N nbr W ks ra) (I : SI N ks ra S s) (J : SJ N ks ra S s) {m : Nat} (bd : BD N m s) (hm : m ≤ 1000) (hw : w ∈ N) : WSafe N (prkOf N nbr) s w := by
  have O := out_ok J hw
  refine ⟨fun v hv n => ((G.e1 _ _).mp (J.pc w hw v hv n).1).1, ?_, fun k => dfs_safe O G.len k, dfs_fin O G.len, fun p u r e => ?_⟩
  · have := nodup_le (J.kd w hw).1 (J.kd w hw).2
    have := G.len
    omega
  · have hnd : (p ++ u :: r).Nodup := e ▸ G.nd
    rw [List.nodup_append] at hnd
    have hp := runTU_part G I J hw p (dn := fun _ _ => False) hnd.1 (fun x hx => e ▸ List.mem_append_left _ hx) (fun _ _ _ z => z) (Part.start s w)
    exact trU_safe G I J bd hm hw (e ▸ List.mem_append_right _ (.head _)) (fun v z => by
      rcases z with z | z
      · exact z
      · exact hnd.2.2 u z.1 u (.head _) rfl) hp
end
end Mine
end
section
open PySem PySem.W PyProof.Rows PySem.Calls
set_option maxRecDepth 100000
namespace Mine
section
variable {N : List Int} {nbr : Int → List Int} {W : Int → Int → Int} {ks : List (Int × Int)} {ra : Int × Int → Int} {S : Int → Prop} {s c : Tbl} {w : Int}
theorem SJ.mono {S' : Int → Prop} (J : SJ N ks ra S s) (h : ∀ q, S q → S' q) : SJ N ks ra S' s :=
  ⟨J.way, J.ik, J.kd, fun u hu v hv n => let ⟨a, b, d, e⟩ := J.pc u hu v hv n; ⟨a, b, d.imp id (h _), e⟩, J.ch⟩
theorem fw_fin (G : GH N nbr W ks ra) (hn : NN ks ra) : ∀ (q : List Int) {S : Int → Prop} {s : Tbl}, (∀ w ∈ q, w ∈ N) → SI N ks ra S s → SJ N ks ra S s → SI N ks ra (fun a => S a ∨ a ∈ q) (Tbl.runW N s q) ∧ SJ N ks ra (fun a => S a ∨ a ∈ q) (Tbl.runW N s q)
  | [], S, s, _, I, J => ⟨I.weak fun a z => z.resolve_right (by simp), J.mono fun a z => .inl z⟩
  | w :: q, S, s, h, I, J => by
    have hw := h w (.head _)
    have p := fw_stage G.nd (I.d0 w hw)
    obtain ⟨I', J'⟩ := fw_fin G hn q (fun x hx => h x (.tail _ hx)) (I.stage2 hn J p hw) (J.stage G hn I p hw)
    refine ⟨I'.weak fun a z => ?_, J'.mono fun a z => ?_⟩
    · rcases z with z | z
      · exact .inl (.inl z)
      · rcases List.mem_cons.mp z with z | z
        · exact .inl (.inr z)
        · exact .inr z
    · rcases z with (z | z) | z
      · exact .inl z
      · exact .inr (z ▸ .head _)
      · exact .inr (.tail _ z)
theorem tw_fin (G : GH N nbr W ks ra) (hn : NN ks ra) : ∀ (q : List Int) {S : Int → Prop} {s : Tbl} {k : Nat}, (∀ w ∈ q, w ∈ N) → SI N ks ra S s → SJ N ks ra S s → BD N k s →
    SI N ks ra (fun a => S a ∨ a ∈ q) (s.runTW N q) ∧ SJ N ks ra (fun a => S a ∨ a ∈ q) (s.runTW N q) ∧ BD N (k + q.length) (s.runTW N q)
  | [], S, s, k, _, I, J, b => ⟨I.weak fun a z => z.resolve_right (by simp), J.mono fun a z => .inl z, b⟩
  | w :: q, S, s, k, h, I, J, b => by
    have hw := h w (.head _)
    have p := tw_stage G I J hw
    obtain ⟨I', J', b'⟩ := tw_fin G hn q (fun x hx => h x (.tail _ hx)) (I.stage2 hn J p hw) (J.stage G hn I p hw) (b.stage p hw)
    refine ⟨I'.weak fun a z => ?_, J'.mono fun a z => ?_, ?_⟩
    · rcases z with z | z
      · exact .inl (.inl z)
      · rcases List.mem_cons.mp z with z | z
        · exact .inl (.inr z)
        · exact .inr z
    · rcases z with (z | z) | z
      · exact .inl z
      · exact .inr (z ▸ .head _)
      · exact .inr (.tail _ z)
    · rw [List.length_cons, show k + (q.length + 1) = k + 1 + q.length by omega]; exact b'
/-- the nodes without arcs change nothing -/
theorem SI.full (G : GH N nbr W ks ra) (I : SI N ks ra (fun a => a ∈ prkOf N nbr) s) (J : SJ N ks ra S s) : SI N ks ra (fun a => a ∈ N) s :=
  ⟨I.d0, I.ed, fun q hq _ a ha b hb => by
    by_cases m : q ∈ prkOf N nbr
    · exact I.tr q hq m a ha b hb
    · by_cases e : q = b
      · subst e; rw [I.d0 q hq, addE_zero]; exact leE.refl _
      · cases d : s.D q b with
        | none => exact fun y h => by obtain ⟨_, _, _, z, _⟩ := addE_some h; cases z
        | some x =>
          obtain ⟨_, k, wy⟩ := J.way q hq b x d
          exact absurd (G.prk wy (.inl e)) m⟩
end
section
variable {n : Nat} {nbr : Int → List Int} {W : Int → Int → Int} {ks : List (Int × Int)} {ra : Int × Int → Int} {S : Int → Prop} {s : Tbl}
theorem fin_least (G : GH (rng n) nbr W ks ra) (I : SI (rng n) ks ra (fun a => a ∈ rng n) s) (J : SJ (rng n) ks ra (fun a => a ∈ rng n) s) {u : Int} (hu : u ∈ rng n) :
    ∃ B, leastB ra ks n ⟨[u], fun _ => 0⟩ = some B ∧ ∀ v, (v ∈ B.ks → s.D u v = some (B.f v)) ∧ (v ∉ B.ks → s.D u v = none) :=
  least_exact (exact_of G I (fun _ h => h) J hu) (Nat.le_of_eq (rng_len n)) (by have := mem_rng.mp hu; omega) (I.d0 u hu)
theorem fin_D (G : GH (rng n) nbr W ks ra) (I : SI (rng n) ks ra (fun a => a ∈ rng n) s) (J : SJ (rng n) ks ra (fun a => a ∈ rng n) s) : ∀ i ∈ rng n, ∀ j ∈ rng n, s.D i j = dueF ks ra n i j := fun i hi j _ => by
  obtain ⟨B, e, h⟩ := fin_least G I J hi
  unfold dueF
  rw [e]
  by_cases q : j ∈ B.ks
  · simp only [if_pos q]; exact (h j).1 q
  · simp only [if_neg q]; exact (h j).2 q
theorem fin_pr (G : GH (rng n) nbr W ks ra) (I : SI (rng n) ks ra (fun a => a ∈ rng n) s) (J : SJ (rng n) ks ra (fun a => a ∈ rng n) s) : PrOk n ks ra (prkOf (rng n) nbr) s.K s.P := fun j hj B e v hv ne => by
  have hu : (j : Int) ∈ rng n := mem_rng.mpr ⟨by omega, by omega⟩
  obtain ⟨B', e', h⟩ := fin_least G I J hu
  rw [e] at e'
  cases e'
  have hd := (h v).1 hv
  obtain ⟨_, m, wy⟩ := J.way _ hu v _ hd
  obtain ⟨ns, b⟩ := J.ch _ hu v (J.ik _ hu v _ hd ne) (Ne.symm ne)
  obtain ⟨d, i1, i2, i3, i4, i5, _, _⟩ := b.facts G I (fun _ h => h) J hu (Ne.symm ne)
  rw [hd] at i1
  cases i1
  refine ⟨G.prk wy (.inl ne), ns, b, i2, i3, i4, i5, ?_⟩
  have := back_len G I (fun _ h => h) J hu b (Ne.symm ne)
  have := G.len
  rw [List.length_reverse]; omega
theorem fin_diag (I : SI (rng n) ks ra S s) : ((rng n).any fun u => ltE (s.D u u) (some 0)) = false := by
  rw [List.any_eq_false]
  intro u hu
  rw [I.d0 u hu]; decide
theorem mok (G : GH (rng n) nbr W ks ra) : MOK n ks ra nbr W := by
  refine ⟨fun _ => fw_safe G, fun hb => ?_, fun hl hf => ?_⟩
  · apply Classical.byContradiction
    intro q
    have q := Bool.eq_false_iff.mpr q
    rw [List.any_eq_false] at q
    have all : ∀ u ∈ rng n, ∀ m x, Way ks ra u u m x → 0 ≤ x := fun u hu m x wy => by
      have hm := mem_rng.mp hu
      have := q u.toNat (List.mem_range.mpr (by omega))
      rw [show ((u.toNat : Nat) : Int) = u by omega] at this
      cases e : leastB ra ks n ⟨[u], fun _ => 0⟩ with
      | none => rw [e] at this; exact absurd rfl this
      | some B => exact least_closed e wy
    rcases hb with ⟨u, h1, h2, h3⟩ | ⟨_, h⟩
    · have e := (G.e1 u u).mpr ⟨h1, h2⟩
      have := all u h1 _ _ (Way.one e)
      rw [G.e2 _ _ e] at h3
      omega
    · rw [List.any_eq_true] at h
      obtain ⟨u, hu, h⟩ := h
      obtain ⟨x, e, hx⟩ := ltE_yes h
      have I := GI.runW (N := rng n) (rng n) (fun _ h => h) (GI.start G)
      obtain ⟨_, m, wy⟩ := I.way u hu u x e
      have := all u hu m x wy
      have := hx 0 rfl
      omega
  · have hn := fw_nn G hl hf
    have I0 := SI.start G hl
    have J0 := SJ.start G
    obtain ⟨I1, J1⟩ := fw_fin G hn (rng n) (fun _ h => h) I0 J0
    have I1' : SI (rng n) ks ra (fun a => a ∈ rng n) (fwRun (rng n) nbr W) := I1.weak fun a z => .inr z
    have J1' : SJ (rng n) ks ra (fun a => a ∈ rng n) (fwRun (rng n) nbr W) := J1.mono fun a z => z.resolve_left id
    have b0 : BD (rng n) 0 (foldT nbr W (rng n)) := (GI.start G).bd
    have hp : ∀ w ∈ prkOf (rng n) nbr, w ∈ rng n := fun w h => (List.mem_filter.mp h).1
    obtain ⟨I2, J2, b2⟩ := tw_fin G hn (prkOf (rng n) nbr) hp I0 J0 b0
    have J2' : SJ (rng n) ks ra (fun a => a ∈ rng n) (twRun (rng n) nbr W) := J2.mono fun a z => hp a (z.resolve_left id)
    have I2' : SI (rng n) ks ra (fun a => a ∈ rng n) (twRun (rng n) nbr W) := SI.full G (I2.weak fun a z => .inr z) J2'
    refine ⟨fun j hj => ?_, fin_D G I1' J1', fin_pr G I1' J1', fun p w r e => ?_, fin_diag I2', fin_D G I2' J2', fin_pr G I2' J2'⟩
    · obtain ⟨B, e, _⟩ := fin_least G I1' J1' (u := (j : Int)) (mem_rng.mpr ⟨by omega, by omega⟩)
      exact ⟨B, e⟩
    · have hw : w ∈ rng n := hp w (e ▸ List.mem_append_right _ (.head _))
      obtain ⟨I3, J3, b3⟩ := tw_fin G hn p (fun x hx => hp x (e ▸ List.mem_append_left _ hx)) I0 J0 b0
      refine tw_safe G I3 J3 b3 ?_ hw
      have h1 := congrArg List.length e
      have h2 : (prkOf (rng n) nbr).length ≤ (rng n).length := List.length_filter_le _ _
      have := G.len
      rw [List.length_append] at h1
      simp at h1
      omega
/-- from what the edge loops bring -/
theorem mok_of {o : Bool} {y : GD} (hn5 : n ≤ 5) (ed : EdInv o n y ks ra n 0) (hnd : ∀ u ∈ rng n, (y.nbr u).Nodup) : MOK n ks ra y.nbr y.wt :=
  mok ⟨rng_nodup n, by rw [rng_len]; exact hn5, fun a b => ed.e1 a b, fun a b h => ed.e2 a b h, fun a b h => ed.e3 (a, b) h, ed.e4, hnd⟩
end
end Mine
end
section
open PySem PySem.W PyProof.Rows PySem.Calls
set_option maxRecDepth 100000
namespace Mine
/-! from a list of objects to what the walk wants -/
def fnPm : Option Obj → Value
  | some o => match o.data with
    | .func fd => fd.pyModule
    | _ => .none
  | none => .none
def codeQ : Option Obj → Option Str
  | some o => match o.data with
    | .fields vs => match (vs[1]? : Option Value) with
      | some (.str q _) => some q
      | _ => none
    | _ => none
  | none => none
def dictEs : Option Obj → Array DictEntry
  | some o => match o.data with
    | .dict es _ => es
    | _ => #[]
  | none => #[]
def nsOk (o : Option Obj) : Bool := match o with
  | some o => match o.data with
    | .dict es _ => es.toList.all fun e => match e.key with
      | .str .. => true
      | _ => false
    | _ => false
  | none => false
abbrev nsK (K : Frag) (a : Addr) : Str → Option Value := fun x => nsFind (dictEs (K.lookup a)) x
section
variable {K : Frag} {g : Heap}
theorem ns_of (X : K.In g) {a : Addr} (h : nsOk (K.lookup a) = true) : g.Ns a (nsK K a) := by
  unfold nsK
  cases e : K.lookup a with
  | none => rw [e] at h; cases h
  | some o =>
    rw [e] at h
    unfold nsOk at h
    cases d : o.data with
    | dict es ep =>
      simp only [d] at h
      refine ⟨o, es, ep, X a o e, d, fun x hx => ?_, fun name => by simp only [dictEs, d]⟩
      have := List.all_eq_true.mp h x (Array.mem_toList_iff.mpr hx)
      cases k : x.key with
      | str n t => exact ⟨n, t, rfl⟩
      | _ => rw [k] at this; cases this
    | _ => simp only [d] at h; cases h
/-- the function at f, its code at c -/
def FnK (K : Frag) (f : Addr) (st : Stmt) (qual : Str) (dV : Value) (c : Addr) : Prop :=
  (K.lookup f).map (fun o => o.data) = some (.func (fdOf st qual dV (fnPm (K.lookup f)) (.ref c))) ∧ codeQ (K.lookup c) = some qual
theorem FnK.at (X : K.In g) {f c : Addr} {st : Stmt} {qual : Str} {dV : Value} (x : FnK K f st qual dV c) : FnAt g f st qual dV (.ref c) := by
  obtain ⟨e1, e2⟩ := x
  obtain ⟨o, h1, h2⟩ := Option.map_eq_some_iff.mp e1
  refine ⟨o, _, X f o h1, h2, ?_⟩
  cases e : K.lookup c with
  | none => rw [e] at e2; cases e2
  | some oc =>
    rw [e] at e2
    unfold codeQ at e2
    cases d : oc.data with
    | fields vs =>
      simp only [d] at e2
      cases v : vs[1]? with
      | none => rw [v] at e2; cases e2
      | some w =>
        rw [v] at e2
        cases w with
        | str q t => cases e2; exact ⟨c, oc, vs, t, rfl, X c oc e, d, v⟩
        | _ => cases e2
    | _ => simp only [d] at e2; cases e2
def TupK (K : Frag) (a : Addr) (vs : Array Value) : Prop := (K.lookup a).map (fun o => o.data) = some (.seq vs 0)
theorem TupK.at (X : K.In g) {a : Addr} {vs : Array Value} (x : TupK K a vs) : ∃ o n, g.get? a = some o ∧ o.data = .seq vs n := by
  obtain ⟨o, h1, h2⟩ := Option.map_eq_some_iff.mp x
  exact ⟨o, 0, X a o h1, h2⟩
/-- a class on the way of the exception -/
def ClsK (K : Frag) (a n : Addr) : Prop := (K.lookup a).map (fun o => match o.data with | .cls cd => some cd.ns | _ => none) = some (some n) ∧ nsOk (K.lookup n) = true ∧ nsK K n "__init__" = none
/-- all that the list of objects must tell -/
structure KOk (K : Frag) : Prop where
  mg : nsOk (K.lookup mainGlobals) = true
  mb : nsOk (K.lookup builtinsNs) = true
  st : nsOk (K.lookup cStatics) = true
  gt : gtab.map (fun p => nsK K mainGlobals p.1) = gtab.map (fun p => some p.2)
  bt : btab.map (nsK K mainGlobals) = btab.map fun _ => none
  bn : nsK K mainGlobals "__builtins__" = some (.ref 4)
  bo : (K.lookup 4).map (fun o => (o.cls, o.dict, o.data)) = some (.type "module", some builtinsNs, .plain)
  s1 : nsK K cStatics "sys.recursionlimit" = none
  s2 : nsK K cStatics sharingNotToldKey = none
  ub : nsK K mainGlobals "NetworkXUnbounded" = some (.ref 68)
  lw : nsK K mainGlobals "law" = some (.ref 917)
  uo : ∃ nm q bs hdct sn sub ab col dd k0 k1 k2 k3 k5, K.lookup 68 = some (excClassObj nm q 68 67 bs ([.ref 56, .ref 31] ++ unbBase) hdct sn sub ab col dd k0 k1 k2 k3 k5 "Exception.__new__")
  un : nsOk (K.lookup 67) = true ∧ nsK K 67 "__init__" = none
  u1 : ClsK K 56 55
  u2 : ClsK K 31 30
  f77 : FnK K 77 (S 7) "_weight_function" .none 76
  f82 : FnK K 82 (S 9) "_init_pred_dist" .none 81
  f88 : FnK K 88 (S 10) "floyd_warshall_tree" (.ref 83) 87
  f96 : FnK K 96 (S 11) "floyd_warshall_predecessor_and_distance" (.ref 89) 95
  f103 : FnK K 103 (S 12) "reconstruct_path" .none 102
  f905 : FnK K 905 (S 27) "_LAW_USUAL" .none 904
  f912 : FnK K 912 (S 28) "_law_least" .none 911
  f917 : FnK K 917 (S 29) "law" .none 916
  d83 : (K.lookup 83).map (fun o => o.data) = some (.seq #[.str "weight" 283] 0)
  d89 : ∃ tk, (K.lookup 89).map (fun o => o.data) = some (.seq #[.str "weight" tk] 0)
  iG : FnK K 438 (SM 23 6) "Graph.__init__" (.ref 431) 437 ∧ TupK K 431 #[.none]
  iD : FnK K 697 (SM 25 0) "DiGraph.__init__" (.ref 690) 696 ∧ TupK K 690 #[.none]
  it : FnK K 455 (SM 23 8) "Graph.__iter__" .none 454
  nG : FnK K 483 (SM 23 12) "Graph.add_node" .none 482
  nD : FnK K 734 (SM 25 4) "DiGraph.add_node" .none 733
  eG : FnK K 542 (SM 23 20) "Graph.add_edge" .none 541
  eD : FnK K 762 (SM 25 8) "DiGraph.add_edge" .none 761
  fc0 : FnK K 395 (SM 23 0) ("Graph." ++ dName (SM 23 0)) .none 394
  fc1 : FnK K 402 (SM 23 1) ("Graph." ++ dName (SM 23 1)) .none 401
  fc2 : FnK K 409 (SM 23 2) ("Graph." ++ dName (SM 23 2)) .none 408
  fc3 : FnK K 416 (SM 23 3) ("Graph." ++ dName (SM 23 3)) .none 415
  fc4 : FnK K 423 (SM 23 4) ("Graph." ++ dName (SM 23 4)) .none 422
  fc5 : FnK K 430 (SM 23 5) ("Graph." ++ dName (SM 23 5)) .none 429
  fn : dName (SM 23 0) = "node_dict_factory" ∧ dName (SM 23 1) = "node_attr_dict_factory" ∧ dName (SM 23 2) = "adjlist_outer_dict_factory" ∧ dName (SM 23 3) = "adjlist_inner_dict_factory" ∧ dName (SM 23 4) = "edge_attr_dict_factory" ∧ dName (SM 23 5) = "graph_attr_dict_factory"
  cG : clsOk K 674 (fsOf false) gown = true
  cD : clsOk K 889 (fsOf true) gown = true
  kG : keepIn K (.ref 674) = true
  kD : keepIn K (.ref 889) = true
theorem ClsK.tail (X : K.In g) {a n : Addr} {tl : List Value} (x : ClsK K a n) (T : OwnTail g unbBase tl) : OwnTail g unbBase (.ref a :: tl) := by
  obtain ⟨h1, h2, h3⟩ := x
  obtain ⟨o, e1, e2⟩ := Option.map_eq_some_iff.mp h1
  obtain ⟨cl, dd, dt, sl⟩ := o
  cases dt with
  | cls cd =>
    simp only [Option.some.injEq] at e2
    subst e2
    exact .own (X a _ e1) (ns_of X h2) h3 T
  | _ => simp at e2
theorem lb_of (X : K.In g) (k : KOk K) (hb : ∀ x : Str, x ≠ "__name__" → nsK K builtinsNs x = bootBuiltins x) : LB g K := by
  have G : Gl g := {
    ns := ⟨nsK K mainGlobals, nsK K builtinsNs, ns_of X k.mg, ns_of X k.mb, fun x hx => List.map_inj_left.mp k.bt x hx, hb, fun p hp => List.map_inj_left.mp k.gt p hp⟩
    nolimit := ⟨_, ns_of X k.st, k.s1⟩
    bi := by
      obtain ⟨o, e1, e2⟩ := Option.map_eq_some_iff.mp k.bo
      simp only [Prod.mk.injEq] at e2
      exact ⟨_, 4, o, ns_of X k.mg, k.bn, by decide, by decide, X 4 o e1, e2.1, e2.2.1, e2.2.2⟩
    big := by
      obtain ⟨o, _, _, e, _⟩ := ns_of X k.st
      exact ⟨o, e⟩ }
  have U : Unb g := by
    obtain ⟨nm, q, bs, hdct, sn, sub, ab, col, dd, k0, k1, k2, k3, k5, e⟩ := k.uo
    exact ⟨_, ns_of X k.mg, k.ub, _, 67, nm, q, bs, hdct, sn, sub, ab, col, dd, k0, k1, k2, k3, k5, _, X 68 _ e, ns_of X k.un.1, k.un.2, k.u1.tail X (k.u2.tail X .base)⟩
  have w8 : ∀ {a : Addr} {tk : Tok}, (K.lookup a).map (fun o => o.data) = some (.seq #[.str "weight" tk] 0) → ∃ o tk n, g.get? a = some o ∧ o.data = .seq #[.str "weight" tk] n := fun {a tk} h => by
    obtain ⟨o, e1, e2⟩ := Option.map_eq_some_iff.mp h
    exact ⟨o, tk, 0, X a o e1, e2⟩
  obtain ⟨n0, n1, n2, n3, n4, n5⟩ := k.fn
  refine { bs := ⟨G, U, k.f77.at X, k.f82.at X⟩, nb := ⟨_, ns_of X k.st, k.s2⟩, X := X, O := fun o => ?_, T := fun o i hi => ?_, kp := fun o => ?_, f88 := k.f88.at X, f96 := k.f96.at X, f103 := ⟨_, k.f103.at X⟩, f905 := ⟨_, k.f905.at X⟩, f912 := ⟨_, k.f912.at X⟩, d83 := w8 k.d83, d89 := ?_, iG := ⟨431, _, k.iG.1.at X, k.iG.2.at X⟩, iD := ⟨690, _, k.iD.1.at X, k.iD.2.at X⟩, it := ⟨_, k.it.at X⟩, nG := ⟨_, k.nG.at X⟩, nD := ⟨_, k.nD.at X⟩, eG := ⟨_, k.eG.at X⟩, eD := ⟨_, k.eD.at X⟩ }
  · cases o
    · exact clsOk_of k.cG
    · exact clsOk_of k.cD
  · have pick : ∀ (j : Nat) (f c : Addr), i = j → (dName (SM 23 j), f) ∈ fsOf o → FnK K f (SM 23 j) ("Graph." ++ dName (SM 23 j)) .none c → ∃ f cd, (dName (SM 23 i), f) ∈ fsOf o ∧ FnAt g f (SM 23 i) ("Graph." ++ dName (SM 23 i)) .none cd := fun j f c e m x => by
      subst e; exact ⟨f, _, m, x.at X⟩
    rcases i with _ | _ | _ | _ | _ | _ | i
    · exact pick 0 395 _ rfl (by rw [n0]; unfold fsOf; simp) k.fc0
    · exact pick 1 402 _ rfl (by rw [n1]; unfold fsOf; simp) k.fc1
    · exact pick 2 409 _ rfl (by rw [n2]; unfold fsOf; simp) k.fc2
    · exact pick 3 416 _ rfl (by rw [n3]; unfold fsOf; simp) k.fc3
    · exact pick 4 423 _ rfl (by rw [n4]; unfold fsOf; simp) k.fc4
    · exact pick 5 430 _ rfl (by rw [n5]; unfold fsOf; simp) k.fc5
    · omega
  · cases o
    · exact k.kG
    · exact k.kD
  · obtain ⟨tk, h⟩ := k.d89
    exact w8 h
end
end Mine
end
section
open PySem PySem.W PySem.W.X PyProof.Rows PySem.Calls
set_option maxRecDepth 100000
namespace Mine
abbrev noTab (K : Frag) : Frag := K.filter fun p => !(p.1 == 72 || p.1 == 85 || p.1 == 91)
def fldsK : Option Obj → Array Value
  | some o => match o.data with
    | .fields vs => vs
    | _ => #[]
  | none => #[]
def strT : Value → Str × Tok
  | .str s t => (s, t)
  | _ => (Str.empty, 0)
def intT : Value → Int × Tok
  | .int s t => (s, t)
  | _ => (0, 0)
/-- the code at c with its table at P -/
structure TblK (K : Frag) (c P : Addr) : Prop where
  o : (K.lookup c).map (fun o => (o.cls, o.data)) = some (.type "code", .fields (fldsK (K.lookup c)))
  e11 : (fldsK (K.lookup c))[11]? = some (.ref P)
  g11 : (fldsK (K.lookup c)).getD 11 .none = .ref P
  g18 : (fldsK (K.lookup c)).getD 18 .none = .str (strT ((fldsK (K.lookup c)).getD 18 .none)).1 (strT ((fldsK (K.lookup c)).getD 18 .none)).2
  g7 : (fldsK (K.lookup c)).getD 7 .none = .int (intT ((fldsK (K.lookup c)).getD 7 .none)).1 (intT ((fldsK (K.lookup c)).getD 7 .none)).2
  g9 : (fldsK (K.lookup c)).getD 9 .none = .bool true
  g10 : (fldsK (K.lookup c)).getD 10 .none = .int (intT ((fldsK (K.lookup c)).getD 10 .none)).1 (intT ((fldsK (K.lookup c)).getD 10 .none)).2
  t : K.lookup P = some (tabObj #[])
theorem TblK.at {K : Frag} {h : Heap} (X : K.In h) {c P : Addr} (x : TblK K c P) (n : c ≠ P) : CodeT h c P #[] := by
  obtain ⟨ob, e1, e2⟩ := Option.map_eq_some_iff.mp x.o
  simp only [Prod.mk.injEq] at e2
  exact ⟨⟨ob, _, _, _, _, _, _, _, _, X c ob e1, e2.1, e2.2, x.e11, x.g11, x.g18, x.g7, x.g9, x.g10, n⟩, X P _ x.t, trivial⟩
theorem CodeT.table {h : Heap} {c P : Addr} {ps : Array Value} (x : CodeT h c P ps) : isCodeTable h P := by
  obtain ⟨⟨ob, vs, _, _, _, _, _, _, _, e1, e2, e3, e4, _⟩, t, _⟩ := x
  have T : h.TableAt c P ps := ⟨⟨ob, vs, e1, e2, e3, e4⟩, t⟩
  exact T.isCodeTable
theorem in_of {K : Frag} {h : Heap} (A : AllIn h K) : K.In h := by
  induction K with
  | nil => intro a o e; cases e
  | cons p K ih =>
    intro a o e
    rw [List.lookup_cons] at e
    split at e
    · rename_i q
      cases e
      rw [eq_of_beq q]; exact A.1
    · exact ih A.2 a o e
theorem lookup_filter {K : Frag} {f : Addr × Obj → Bool} {a : Addr} {o : Obj} (hf : ∀ o o', f (a, o) = f (a, o')) (e : (K.filter f).lookup a = some o) : K.lookup a = some o ∧ f (a, o) = true := by
  induction K with
  | nil => cases e
  | cons p K ih =>
    obtain ⟨b, ob⟩ := p
    rw [List.lookup_cons]
    by_cases q : f (b, ob) = true
    · rw [List.filter_cons_of_pos q, List.lookup_cons] at e
      split at e
      · rename_i z; cases e
        have := eq_of_beq z
        subst this
        exact ⟨rfl, q⟩
      · exact ih e
    · rw [List.filter_cons_of_neg q] at e
      have r := ih e
      have : (a == b) = false := by
        cases z : a == b with
        | false => rfl
        | true =>
          have := eq_of_beq z
          subst this
          rw [hf ob o] at q
          exact absurd r.2 q
      simp only [this]; exact r
theorem noTab_in {K : Frag} {h : Heap} (X : K.In h) : (noTab K).In h ∧ (noTab K).In (hideAll h [72, 91, 85]) := by
  have key : ∀ a o, (noTab K).lookup a = some o → h.get? a = some o ∧ a ∉ [72, 91, 85] := fun a o e => by
    obtain ⟨e1, e2⟩ := lookup_filter (fun _ _ => rfl) e
    refine ⟨X a o e1, fun m => ?_⟩
    simp only [List.mem_cons, List.not_mem_nil, or_false] at m
    rcases m with rfl | rfl | rfl <;> simp at e2
  exact ⟨fun a o e => (key a o e).1, fun a o e => hideAll_get _ (key a o e).1 (key a o e).2⟩
theorem old_of {L : Addr} {h h' : Heap} (hL : h.get? L = none) (e : EndK L 91 85 #[] #[] #[] h h') (c1 : CodeT h 76 72 #[]) (c2 : CodeT h 95 91 #[]) (c3 : CodeT h 87 85 #[]) : OldK h h' := by
  have tab : ∀ b, b ∈ [(72 : Addr), 91, 85] → (∃ c, CodeT h c b #[]) ∧ ∃ more, h'.get? b = some (tabObj (#[] ++ more)) := fun b m => by
    simp only [List.mem_cons, List.not_mem_nil, or_false] at m
    rcases m with rfl | rfl | rfl
    · exact ⟨⟨_, c1⟩, e.t72⟩
    · exact ⟨⟨_, c2⟩, e.tPf⟩
    · exact ⟨⟨_, c3⟩, e.tPt⟩
  refine ⟨fun b o q => ?_, fun b o q => ?_⟩
  · by_cases m : b ∈ [(72 : Addr), 91, 85]
    · obtain ⟨⟨c, ct⟩, more, t⟩ := tab b m
      have eo : o = tabObj #[] := Option.some.inj (q.symm.trans ct.tab)
      subst eo
      exact .inr (.inl ⟨ct.table, rfl, #[], more, rfl, t⟩)
    · refine .inl (e.old b o (fun z => ?_) q)
      rcases List.mem_cons.mp z with z | z
      · rw [z, hL] at q; cases q
      · exact m z
  · by_cases m : b ∈ [(72 : Addr), 91, 85]
    · obtain ⟨_, more, t⟩ := tab b m
      exact ⟨_, t⟩
    · refine ⟨o, e.old b o (fun z => ?_) q⟩
      rcases List.mem_cons.mp z with z | z
      · rw [z, hL] at q; cases q
      · exact m z
theorem law_walk {q : Program} {loose : List Str} {as0 : List Addr} {K : Params → Frag} {d : DefRec} {n t : Nat} (keys : ∀ P, as0 = (K P).map (·.1)) (hname : d.name = "law") (ht : 1 ≤ t)
    (ok : ∀ P, KOk (noTab (K P))) (tb : ∀ P, TblK (K P) 76 72 ∧ TblK (K P) 95 91 ∧ TblK (K P) 87 85) :
    WalkX q loose (XL q []) (obsZ as0) (valZ K n t) PySem.Challenge.rw_ez0200_01.row.toRowW d [] fun f vs => call f vs := by
  intro w s₀ s₁ mg mb G y fa o pm cd doc dV kV ho hd hcd hD hmg hg args vals as L hpre hlay hrd hwl hlo
  obtain ⟨ZA, KX, ZN, ZT⟩ := z_facts keys y
  refine Ground.open G ?_
  intro T B D TE TW
  wrow_args hpre hlay hrd hwl hlo
  rename_i ns _ _ _ _ _ _ _ a vs _ hL _ _ _ hI _ hc1 _
  have htk := script_toks L ZT
  have X1 : (K w.params).In s₁.heap := fun a o e => L.keeps _ _ (in_of ZA a o e)
  obtain ⟨hp, gs, dr, tk, os⟩ := s₁
  obtain ⟨tk, rfl⟩ : ∃ m, tk = m + 1 := ⟨tk - 1, by have : t ≤ tk := htk; omega⟩
  replace X1 : (K w.params).In hp := X1
  obtain ⟨XT, XH⟩ := noTab_in X1
  have k := ok w.params
  obtain ⟨tb1, tb2, tb3⟩ := tb w.params
  have ct1 := tb1.at X1 (by decide)
  have ct2 := tb2.at X1 (by decide)
  have ct3 := tb3.at X1 (by decide)
  have nsEq : ∀ {b : Addr} {m : Str → Option Value}, hp.Ns b m → nsOk ((noTab (K w.params)).lookup b) = true → ∀ x, m x = nsK (noTab (K w.params)) b x := fun {b m} h1 h2 x => by
    obtain ⟨o1, es1, ep1, e1, d1, _, f1⟩ := h1
    obtain ⟨o2, es2, ep2, e2, d2, _, f2⟩ := ns_of XT h2
    rw [e1] at e2
    cases e2
    rw [d1] at d2
    cases d2
    rw [← f1, f2]
  have hfa : fa = 917 := by
    have h1 : mg "law" = some (.ref fa) := hname ▸ hmg
    rw [nsEq T.g k.mg, k.lw] at h1
    cases h1; rfl
  subst hfa
  have hbb : ∀ x : Str, x ≠ "__name__" → nsK (noTab (K w.params)) builtinsNs x = bootBuiltins x := fun x hx => by
    rw [← nsEq T.b k.mb x]; exact T.builtins x hx
  have LB1 := lb_of XT k hbb
  have LB2 := lb_of XH k hbb
  have T72 : Tab72 #[] hp := ⟨#[], ⟨#[], rfl⟩, ct1, .inl rfl⟩
  refine wpAny_noRaise (law_spec (c := ⟨gs, dr, os⟩) (t := tk) (h := hp) (K := noTab (K w.params)) (Pf := 91) (Pt := 85) (p0 := #[]) (ps := #[]) (pt := #[]) rfl rfl (by decide +kernel) (by decide +kernel) LB1 LB2 ⟨_, k.f917.at XT⟩ T72 ct2 rfl ct3 rfl (by decide) (by decide) (by decide) (by decide) (by decide) (AllBare.of_eq hg) hL hI (by have := hI.length; omega)
    (fun o n y ks ra h5 ed hnd => mok_of h5 ed hnd) fun h' t' g' hg' ek => ?_)
  refine ⟨.inl ⟨.bool true, .bool true, [], rfl, fun _ => rfl, .bool _, ?_, fun _ => ⟨.nil, fun _ m => absurd m (by simp)⟩⟩, old_of ?_ ek ct1 ct2 ct3, rfl, hg'⟩
  · wrow_post
  · cases e : hp.get? hp.objs.size with
    | none => rfl
    | some o => exact absurd (Heap.lt_size e) (Nat.lt_irrefl _)
end Mine
end
open PySem PySem.W PySem.W.X PyProof.Rows
set_option maxRecDepth 100000
set_option Elab.async true
set_option maxHeartbeats 0
def Mine.holds.tw11861558843999319042 : Unit := ()
def Mine.holds.tw9514008065629329730 : Unit := ()
def Mine.holds.tw12710052947161867906 : Unit := ()
def Mine.holds.tw9300378828091284259 : Unit := ()
def Mine.holds.tw10559086214198333126 : Unit := ()
def Mine.holds.tw7140247887375291751 : Unit := ()
def Mine.holds.tw10427296274405727304 : Unit := ()
def Mine.holds.tw14585839570990070088 : Unit := ()
def Mine.holds.tw4361663677434103081 : Unit := ()
def Mine.holds.tw7530307310901688588 : Unit := ()
def Mine.holds.tw7087511815612283341 : Unit := ()
def Mine.holds.tw5034791740412114541 : Unit := ()
def Mine.holds.tw3791066549029949134 : Unit := ()
def Mine.holds.tw228843843536124654 : Unit := ()
def Mine.holds.tw572386986621813582 : Unit := ()
def Mine.holds.tw16341543080544593838 : Unit := ()
def Mine.holds.tw11177065723225414130 : Unit := ()
def Mine.holds.tw2295872100313272756 : Unit := ()
def Mine.holds.tw4966581118594396789 : Unit := ()
def Mine.holds.tw5891887925060382453 : Unit := ()
def Mine.holds.tw8267304161680461302 : Unit := ()
def Mine.holds.tw13910155052425560694 : Unit := ()
def Mine.holds.tw13842911505227046615 : Unit := ()
def Mine.holds.tw18161203144184942969 : Unit := ()
def Mine.holds.tw3832620423790191898 : Unit := ()
def Mine.holds.tw5019700317720849946 : Unit := ()
def Mine.holds.tw10018623736411007642 : Unit := ()
def Mine.holds.tw2474623830383576219 : Unit := ()
def Mine.holds.tw16253710544855015453 : Unit := ()
def Mine.holds.tw222218824833566205 : Unit := ()
def Mine.holds.tw10859890057764222718 : Unit := ()
theorem Mine.holds : PySem.Challenge.rw_ez0200_01.Holds := by
  w_on; o_law; z_head; (case hw => w_witness2)
  refine Mine.law_walk (fun P => ?_) rfl (by decide) (fun P => ?_) (fun P => ?_)
  · kernel_rfl
  · exact {
      mg := by kernel_rfl
      mb := by kernel_rfl
      st := by kernel_rfl
      gt := by kernel_rfl
      bt := by kernel_rfl
      bn := by kernel_rfl
      bo := by kernel_rfl
      s1 := by kernel_rfl
      s2 := by kernel_rfl
      ub := by kernel_rfl
      lw := by kernel_rfl
      uo := ⟨"NetworkXUnbounded", "NetworkXUnbounded", [.ref 56], true, [], [], false, none, none, some (.ref 59), none, some (.str "NetworkXUnbounded" 248), some (.str "NetworkXUnbounded" 256), some (.bool true), by kernel_rfl⟩
      un := ⟨by kernel_rfl, by kernel_rfl⟩
      u1 := ⟨by kernel_rfl, by kernel_rfl, by kernel_rfl⟩
      u2 := ⟨by kernel_rfl, by kernel_rfl, by kernel_rfl⟩
      f77 := ⟨by kernel_rfl, by kernel_rfl⟩
      f82 := ⟨by kernel_rfl, by kernel_rfl⟩
      f88 := ⟨by kernel_rfl, by kernel_rfl⟩
      f96 := ⟨by kernel_rfl, by kernel_rfl⟩
      f103 := ⟨by kernel_rfl, by kernel_rfl⟩
      f905 := ⟨by kernel_rfl, by kernel_rfl⟩
      f912 := ⟨by kernel_rfl, by kernel_rfl⟩
      f917 := ⟨by kernel_rfl, by kernel_rfl⟩
      d83 := by kernel_rfl
      d89 := ⟨290, by kernel_rfl⟩
      iG := ⟨⟨by kernel_rfl, by kernel_rfl⟩, by unfold Mine.TupK; kernel_rfl⟩
      iD := ⟨⟨by kernel_rfl, by kernel_rfl⟩, by unfold Mine.TupK; kernel_rfl⟩
      it := ⟨by kernel_rfl, by kernel_rfl⟩
      nG := ⟨by kernel_rfl, by kernel_rfl⟩
      nD := ⟨by kernel_rfl, by kernel_rfl⟩
      eG := ⟨by kernel_rfl, by kernel_rfl⟩
      eD := ⟨by kernel_rfl, by kernel_rfl⟩
      fc0 := ⟨by kernel_rfl, by kernel_rfl⟩
      fc1 := ⟨by kernel_rfl, by kernel_rfl⟩
      fc2 := ⟨by kernel_rfl, by kernel_rfl⟩
      fc3 := ⟨by kernel_rfl, by kernel_rfl⟩
      fc4 := ⟨by kernel_rfl, by kernel_rfl⟩
      fc5 := ⟨by kernel_rfl, by kernel_rfl⟩
      fn := ⟨by kernel_rfl, by kernel_rfl, by kernel_rfl, by kernel_rfl, by kernel_rfl, by kernel_rfl⟩
      cG := by kernel_rfl
      cD := by kernel_rfl
      kG := by kernel_rfl
      kD := by kernel_rfl }
  · exact ⟨⟨by kernel_rfl, by kernel_rfl, by kernel_rfl, by kernel_rfl, by kernel_rfl, by kernel_rfl, by kernel_rfl, by kernel_rfl⟩,
      ⟨by kernel_rfl, by kernel_rfl, by kernel_rfl, by kernel_rfl, by kernel_rfl, by kernel_rfl, by kernel_rfl, by kernel_rfl⟩,
      ⟨by kernel_rfl, by kernel_rfl, by kernel_rfl, by kernel_rfl, by kernel_rfl, by kernel_rfl, by kernel_rfl, by kernel_rfl⟩⟩
theorem PySem.Challenge.cw_ez0200_01_holds : PySem.Challenge.rw_ez0200_01.Holds := by
  exact Mine.holds
